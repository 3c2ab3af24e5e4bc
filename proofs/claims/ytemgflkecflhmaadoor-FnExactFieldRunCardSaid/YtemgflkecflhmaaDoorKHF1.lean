/- The field's small functions, walked: mul19, carryPropagate, Add, Subtract. -/
import Derived.BigRegion
import Derived.Lib.Hide
import Derived.StillTailTactics
import Derived.Test.YtemgflkecflhmaaDoorProg
import Derived.WalkLawsBesides
import Derived.Test.YtemgflkecflhmaaDoorKL0
set_option maxRecDepth 4000
set_option linter.unusedSimpArgs false
set_option linter.unusedVariables false
namespace Go.Proofs.YtemgflkecflhmaaDoor
open Go.RowKit

theorem mul19_any (a : Int) (w : World) (h0 : 0 ≤ a) (h : a < 970881267037344822) :
    Calls Tryd.prog 64 #[.int .u64 a] w fun e w' => e = .returned (.int .u64 (19 * a)) ∧ w' = w := by
  go_enter Tryd.func64, Tryd.ntmps64
  go_wp2
  go_ret
  exact ⟨by simp; omega, rfl⟩

set_option maxHeartbeats 1000000 in
theorem carry_any (b off : Nat) (L : L5) (w : World) (hE : El w b off L) (hW : W64 L) :
    Calls Tryd.prog 49 #[.pointer (some ⟨b, off, none⟩)] w fun e w' => e = .returned (.pointer (some ⟨b, off, none⟩)) ∧ Wr w w' b off 5 (limbV (cpL L)) := by
  have h0 := hE.c0; have h1 := hE.c1; have h2 := hE.c2; have h3 := hE.c3; have h4 := hE.c4
  have f0 := hE.f0; have f1 := hE.f1; have f2 := hE.f2; have f3 := hE.f3; have f4 := hE.f4
  obtain ⟨q0, q1, q2, q3, q4⟩ := hW
  go_enter Tryd.func49, Tryd.ntmps49
  go_wp2
  refine wp_region_still_tail 13 (by kernel_rfl) (by kernel_rfl) ?_
  simp only [List.take_succ_cons, List.take_zero, List.drop_succ_cons, List.drop_zero]
  repeat still_step
  still_call (mul19_any _ _ (by omega) (by omega))
  repeat still_step
  refine wpStill_nil ?_
  change wpList _ _ _ _ _ w.drew
  go_wp2
  go_region
  go_wp2
  go_region
  go_wp2
  go_region
  go_wp2
  go_ret
  refine ⟨rfl, ?_⟩
  refine Wr.five ((((((Wr.start hE).set 0 _).set 4 _).set 3 _).set 2 _).set 1 _).drew.drew.drew.drew ?_ ?_ ?_ ?_ ?_
  · exact u64_eq (cp_word19 _ _ q0 q4)
  · exact u64_eq (cp_word _ _ q1 q0)
  · exact u64_eq (cp_word _ _ q2 q1)
  · exact u64_eq (cp_word _ _ q3 q2)
  · exact u64_eq (cp_word _ _ q4 q3)

def Apart (b off b' off' : Nat) : Prop := (b = b' ∧ off = off') ∨ b ≠ b' ∨ off + 5 ≤ off' ∨ off' + 5 ≤ off
theorem apart_ne {b off b' off' : Nat} (h : Apart b off b' off') (i j : Nat) (hi : i < 5) (hj : j < 5) (hij : i ≠ j) : (⟨b, off + i, none⟩ : Addr) ≠ ⟨b', off' + j, none⟩ := by
  unfold Apart at h
  intro e
  injection e with e1 e2
  omega


set_option maxHeartbeats 1000000 in
theorem add_raw (vb vo ab ao cb co : Nat) (Lv La Lb : L5) (w : World) (hv : El w vb vo Lv) (ha : El w ab ao La) (hb : El w cb co Lb) (hA : Bd La) (hB : Bd Lb) (dA : Apart vb vo ab ao) (dB : Apart vb vo cb co) (R : L5) (hR : Hid (R = cpL (addL La Lb))) :
    Calls Tryd.prog 18 #[.pointer (some ⟨vb, vo, none⟩), .pointer (some ⟨ab, ao, none⟩), .pointer (some ⟨cb, co, none⟩)] w fun e w' => e = .returned (.pointer (some ⟨vb, vo, none⟩)) ∧ Wr w w' vb vo 5 (limbV R) := by
  have h0 := ha.c0; have h1 := ha.c1; have h2 := ha.c2; have h3 := ha.c3; have h4 := ha.c4
  have g0 := hb.c0; have g1 := hb.c1; have g2 := hb.c2; have g3 := hb.c3; have g4 := hb.c4
  have f0 := hv.f0; have f1 := hv.f1; have f2 := hv.f2; have f3 := hv.f3; have f4 := hv.f4
  have k0 := hv.c0; have k1 := hv.c1; have k2 := hv.c2; have k3 := hv.c3; have k4 := hv.c4
  have a01 : (⟨vb, vo, none⟩ : Addr) ≠ ⟨ab, ao + 1, none⟩ := apart_ne dA 0 1 (by decide) (by decide) (by decide)
  have a02 : (⟨vb, vo, none⟩ : Addr) ≠ ⟨ab, ao + 2, none⟩ := apart_ne dA 0 2 (by decide) (by decide) (by decide)
  have a03 : (⟨vb, vo, none⟩ : Addr) ≠ ⟨ab, ao + 3, none⟩ := apart_ne dA 0 3 (by decide) (by decide) (by decide)
  have a04 : (⟨vb, vo, none⟩ : Addr) ≠ ⟨ab, ao + 4, none⟩ := apart_ne dA 0 4 (by decide) (by decide) (by decide)
  have a12 : (⟨vb, vo + 1, none⟩ : Addr) ≠ ⟨ab, ao + 2, none⟩ := apart_ne dA 1 2 (by decide) (by decide) (by decide)
  have a13 : (⟨vb, vo + 1, none⟩ : Addr) ≠ ⟨ab, ao + 3, none⟩ := apart_ne dA 1 3 (by decide) (by decide) (by decide)
  have a14 : (⟨vb, vo + 1, none⟩ : Addr) ≠ ⟨ab, ao + 4, none⟩ := apart_ne dA 1 4 (by decide) (by decide) (by decide)
  have a23 : (⟨vb, vo + 2, none⟩ : Addr) ≠ ⟨ab, ao + 3, none⟩ := apart_ne dA 2 3 (by decide) (by decide) (by decide)
  have a24 : (⟨vb, vo + 2, none⟩ : Addr) ≠ ⟨ab, ao + 4, none⟩ := apart_ne dA 2 4 (by decide) (by decide) (by decide)
  have a34 : (⟨vb, vo + 3, none⟩ : Addr) ≠ ⟨ab, ao + 4, none⟩ := apart_ne dA 3 4 (by decide) (by decide) (by decide)
  have b01 : (⟨vb, vo, none⟩ : Addr) ≠ ⟨cb, co + 1, none⟩ := apart_ne dB 0 1 (by decide) (by decide) (by decide)
  have b02 : (⟨vb, vo, none⟩ : Addr) ≠ ⟨cb, co + 2, none⟩ := apart_ne dB 0 2 (by decide) (by decide) (by decide)
  have b03 : (⟨vb, vo, none⟩ : Addr) ≠ ⟨cb, co + 3, none⟩ := apart_ne dB 0 3 (by decide) (by decide) (by decide)
  have b04 : (⟨vb, vo, none⟩ : Addr) ≠ ⟨cb, co + 4, none⟩ := apart_ne dB 0 4 (by decide) (by decide) (by decide)
  have b12 : (⟨vb, vo + 1, none⟩ : Addr) ≠ ⟨cb, co + 2, none⟩ := apart_ne dB 1 2 (by decide) (by decide) (by decide)
  have b13 : (⟨vb, vo + 1, none⟩ : Addr) ≠ ⟨cb, co + 3, none⟩ := apart_ne dB 1 3 (by decide) (by decide) (by decide)
  have b14 : (⟨vb, vo + 1, none⟩ : Addr) ≠ ⟨cb, co + 4, none⟩ := apart_ne dB 1 4 (by decide) (by decide) (by decide)
  have b23 : (⟨vb, vo + 2, none⟩ : Addr) ≠ ⟨cb, co + 3, none⟩ := apart_ne dB 2 3 (by decide) (by decide) (by decide)
  have b24 : (⟨vb, vo + 2, none⟩ : Addr) ≠ ⟨cb, co + 4, none⟩ := apart_ne dB 2 4 (by decide) (by decide) (by decide)
  have b34 : (⟨vb, vo + 3, none⟩ : Addr) ≠ ⟨cb, co + 4, none⟩ := apart_ne dB 3 4 (by decide) (by decide) (by decide)
  clear dA dB
  have hW := addL_w La Lb hA hB
  obtain ⟨q0, q1, q2, q3, q4⟩ := hA
  obtain ⟨r0, r1, r2, r3, r4⟩ := hB
  go_enter Tryd.func18, Tryd.ntmps18
  go_wp2
  go_region
  go_wp2
  go_region
  go_wp2
  go_region
  go_wp2
  go_region
  go_wp2
  go_region
  go_wp2_with fail
  have hw := Wr.five (L := addL La Lb) ((((((Wr.start hv).set 0 _).set 1 _).set 2 _).set 3 _).set 4 _).drew.drew.drew.drew.drew (u64_eq (show ((La.l0 : Int) + (Lb.l0 : Int)) = (((addL La Lb).l0 : Nat) : Int) by unfold addL; simp only; omega)) (u64_eq (show ((La.l1 : Int) + (Lb.l1 : Int)) = (((addL La Lb).l1 : Nat) : Int) by unfold addL; simp only; omega)) (u64_eq (show ((La.l2 : Int) + (Lb.l2 : Int)) = (((addL La Lb).l2 : Nat) : Int) by unfold addL; simp only; omega)) (u64_eq (show ((La.l3 : Int) + (Lb.l3 : Int)) = (((addL La Lb).l3 : Nat) : Int) by unfold addL; simp only; omega)) (u64_eq (show ((La.l4 : Int) + (Lb.l4 : Int)) = (((addL La Lb).l4 : Nat) : Int) by unfold addL; simp only; omega))
  refine (carry_any vb vo (addL La Lb) _ (hw.row hv) hW).mono ?_
  rintro e w1 ⟨rfl, hw1⟩
  go_wp2
  go_ret
  refine ⟨rfl, ?_⟩
  rw [hR.out]
  exact hw.trans hw1


set_option maxHeartbeats 1000000 in
theorem sub_raw (vb vo ab ao cb co : Nat) (Lv La Lb : L5) (w0 : World) (hv : El w0 vb vo Lv) (ha : El w0 ab ao La) (hb : El w0 cb co Lb) (hA : Bd La) (hB : Bd Lb) (dA : Apart vb vo ab ao) (dB : Apart vb vo cb co) (R : L5) (hR : Hid (R = cpL (subL La Lb))) :
    Calls Tryd.prog 19 #[.pointer (some ⟨vb, vo, none⟩), .pointer (some ⟨ab, ao, none⟩), .pointer (some ⟨cb, co, none⟩)] w0 fun e w' => e = .returned (.pointer (some ⟨vb, vo, none⟩)) ∧ Wr w0 w' vb vo 5 (limbV R) := by
  have h0 := ha.c0; have h1 := ha.c1; have h2 := ha.c2; have h3 := ha.c3; have h4 := ha.c4
  have g0 := hb.c0; have g1 := hb.c1; have g2 := hb.c2; have g3 := hb.c3; have g4 := hb.c4
  have f0 := hv.f0; have f1 := hv.f1; have f2 := hv.f2; have f3 := hv.f3; have f4 := hv.f4
  have k0 := hv.c0; have k1 := hv.c1; have k2 := hv.c2; have k3 := hv.c3; have k4 := hv.c4
  have hw := Wr.start hv
  have hq := Lib.hid hv; clear hv ha hb
  have HW := Lib.hid (subL_w La Lb hA)
  obtain ⟨q0, q1, q2, q3, q4⟩ := hA
  obtain ⟨r0, r1, r2, r3, r4⟩ := hB
  go_enter Tryd.func19, Tryd.ntmps19
  go_wp2
  go_region
  have hw := (hw.set 0 (.int .u64 ((La.l0 : Int) + 4503599627370458 - (Lb.l0 : Int)))).drew
  have h1 := (World.cell?_setCell_other w0 ⟨vb, vo, none⟩ ⟨ab, ao + 1, none⟩ (.int .u64 ((La.l0 : Int) + 4503599627370458 - (Lb.l0 : Int))) (apart_ne dA 0 1 (by decide) (by decide) (by decide))).trans h1
  have g1 := (World.cell?_setCell_other w0 ⟨vb, vo, none⟩ ⟨cb, co + 1, none⟩ (.int .u64 ((La.l0 : Int) + 4503599627370458 - (Lb.l0 : Int))) (apart_ne dB 0 1 (by decide) (by decide) (by decide))).trans g1
  have k1 := (World.cell?_setCell_other w0 ⟨vb, vo, none⟩ ⟨vb, vo + 1, none⟩ (.int .u64 ((La.l0 : Int) + 4503599627370458 - (Lb.l0 : Int))) (apart_ne (Or.inl ⟨rfl, rfl⟩) 0 1 (by decide) (by decide) (by decide))).trans k1
  have f1 := (World.frozen?_setCell w0 ⟨vb, vo, none⟩ ⟨vb, vo + 1, none⟩ (.int .u64 ((La.l0 : Int) + 4503599627370458 - (Lb.l0 : Int)))).trans f1
  have h2 := (World.cell?_setCell_other w0 ⟨vb, vo, none⟩ ⟨ab, ao + 2, none⟩ (.int .u64 ((La.l0 : Int) + 4503599627370458 - (Lb.l0 : Int))) (apart_ne dA 0 2 (by decide) (by decide) (by decide))).trans h2
  have g2 := (World.cell?_setCell_other w0 ⟨vb, vo, none⟩ ⟨cb, co + 2, none⟩ (.int .u64 ((La.l0 : Int) + 4503599627370458 - (Lb.l0 : Int))) (apart_ne dB 0 2 (by decide) (by decide) (by decide))).trans g2
  have k2 := (World.cell?_setCell_other w0 ⟨vb, vo, none⟩ ⟨vb, vo + 2, none⟩ (.int .u64 ((La.l0 : Int) + 4503599627370458 - (Lb.l0 : Int))) (apart_ne (Or.inl ⟨rfl, rfl⟩) 0 2 (by decide) (by decide) (by decide))).trans k2
  have f2 := (World.frozen?_setCell w0 ⟨vb, vo, none⟩ ⟨vb, vo + 2, none⟩ (.int .u64 ((La.l0 : Int) + 4503599627370458 - (Lb.l0 : Int)))).trans f2
  have h3 := (World.cell?_setCell_other w0 ⟨vb, vo, none⟩ ⟨ab, ao + 3, none⟩ (.int .u64 ((La.l0 : Int) + 4503599627370458 - (Lb.l0 : Int))) (apart_ne dA 0 3 (by decide) (by decide) (by decide))).trans h3
  have g3 := (World.cell?_setCell_other w0 ⟨vb, vo, none⟩ ⟨cb, co + 3, none⟩ (.int .u64 ((La.l0 : Int) + 4503599627370458 - (Lb.l0 : Int))) (apart_ne dB 0 3 (by decide) (by decide) (by decide))).trans g3
  have k3 := (World.cell?_setCell_other w0 ⟨vb, vo, none⟩ ⟨vb, vo + 3, none⟩ (.int .u64 ((La.l0 : Int) + 4503599627370458 - (Lb.l0 : Int))) (apart_ne (Or.inl ⟨rfl, rfl⟩) 0 3 (by decide) (by decide) (by decide))).trans k3
  have f3 := (World.frozen?_setCell w0 ⟨vb, vo, none⟩ ⟨vb, vo + 3, none⟩ (.int .u64 ((La.l0 : Int) + 4503599627370458 - (Lb.l0 : Int)))).trans f3
  have h4 := (World.cell?_setCell_other w0 ⟨vb, vo, none⟩ ⟨ab, ao + 4, none⟩ (.int .u64 ((La.l0 : Int) + 4503599627370458 - (Lb.l0 : Int))) (apart_ne dA 0 4 (by decide) (by decide) (by decide))).trans h4
  have g4 := (World.cell?_setCell_other w0 ⟨vb, vo, none⟩ ⟨cb, co + 4, none⟩ (.int .u64 ((La.l0 : Int) + 4503599627370458 - (Lb.l0 : Int))) (apart_ne dB 0 4 (by decide) (by decide) (by decide))).trans g4
  have k4 := (World.cell?_setCell_other w0 ⟨vb, vo, none⟩ ⟨vb, vo + 4, none⟩ (.int .u64 ((La.l0 : Int) + 4503599627370458 - (Lb.l0 : Int))) (apart_ne (Or.inl ⟨rfl, rfl⟩) 0 4 (by decide) (by decide) (by decide))).trans k4
  have f4 := (World.frozen?_setCell w0 ⟨vb, vo, none⟩ ⟨vb, vo + 4, none⟩ (.int .u64 ((La.l0 : Int) + 4503599627370458 - (Lb.l0 : Int)))).trans f4
  change World.cell? ((w0.setCell ⟨vb, vo, none⟩ (.int .u64 ((La.l0 : Int) + 4503599627370458 - (Lb.l0 : Int)))).drew) _ = _ at h1 g1 k1
  change World.frozen? ((w0.setCell ⟨vb, vo, none⟩ (.int .u64 ((La.l0 : Int) + 4503599627370458 - (Lb.l0 : Int)))).drew) _ = _ at f1
  change World.cell? ((w0.setCell ⟨vb, vo, none⟩ (.int .u64 ((La.l0 : Int) + 4503599627370458 - (Lb.l0 : Int)))).drew) _ = _ at h2 g2 k2
  change World.frozen? ((w0.setCell ⟨vb, vo, none⟩ (.int .u64 ((La.l0 : Int) + 4503599627370458 - (Lb.l0 : Int)))).drew) _ = _ at f2
  change World.cell? ((w0.setCell ⟨vb, vo, none⟩ (.int .u64 ((La.l0 : Int) + 4503599627370458 - (Lb.l0 : Int)))).drew) _ = _ at h3 g3 k3
  change World.frozen? ((w0.setCell ⟨vb, vo, none⟩ (.int .u64 ((La.l0 : Int) + 4503599627370458 - (Lb.l0 : Int)))).drew) _ = _ at f3
  change World.cell? ((w0.setCell ⟨vb, vo, none⟩ (.int .u64 ((La.l0 : Int) + 4503599627370458 - (Lb.l0 : Int)))).drew) _ = _ at h4 g4 k4
  change World.frozen? ((w0.setCell ⟨vb, vo, none⟩ (.int .u64 ((La.l0 : Int) + 4503599627370458 - (Lb.l0 : Int)))).drew) _ = _ at f4
  change Wr w0 ((w0.setCell ⟨vb, vo, none⟩ (.int .u64 ((La.l0 : Int) + 4503599627370458 - (Lb.l0 : Int)))).drew) _ _ _ _ at hw
  generalize (w0.setCell ⟨vb, vo, none⟩ (.int .u64 ((La.l0 : Int) + 4503599627370458 - (Lb.l0 : Int)))).drew = w1 at *
  go_wp2
  go_region
  have hw := (hw.set 1 (.int .u64 ((La.l1 : Int) + 4503599627370494 - (Lb.l1 : Int)))).drew
  have h2 := (World.cell?_setCell_other w1 ⟨vb, vo + 1, none⟩ ⟨ab, ao + 2, none⟩ (.int .u64 ((La.l1 : Int) + 4503599627370494 - (Lb.l1 : Int))) (apart_ne dA 1 2 (by decide) (by decide) (by decide))).trans h2
  have g2 := (World.cell?_setCell_other w1 ⟨vb, vo + 1, none⟩ ⟨cb, co + 2, none⟩ (.int .u64 ((La.l1 : Int) + 4503599627370494 - (Lb.l1 : Int))) (apart_ne dB 1 2 (by decide) (by decide) (by decide))).trans g2
  have k2 := (World.cell?_setCell_other w1 ⟨vb, vo + 1, none⟩ ⟨vb, vo + 2, none⟩ (.int .u64 ((La.l1 : Int) + 4503599627370494 - (Lb.l1 : Int))) (apart_ne (Or.inl ⟨rfl, rfl⟩) 1 2 (by decide) (by decide) (by decide))).trans k2
  have f2 := (World.frozen?_setCell w1 ⟨vb, vo + 1, none⟩ ⟨vb, vo + 2, none⟩ (.int .u64 ((La.l1 : Int) + 4503599627370494 - (Lb.l1 : Int)))).trans f2
  have h3 := (World.cell?_setCell_other w1 ⟨vb, vo + 1, none⟩ ⟨ab, ao + 3, none⟩ (.int .u64 ((La.l1 : Int) + 4503599627370494 - (Lb.l1 : Int))) (apart_ne dA 1 3 (by decide) (by decide) (by decide))).trans h3
  have g3 := (World.cell?_setCell_other w1 ⟨vb, vo + 1, none⟩ ⟨cb, co + 3, none⟩ (.int .u64 ((La.l1 : Int) + 4503599627370494 - (Lb.l1 : Int))) (apart_ne dB 1 3 (by decide) (by decide) (by decide))).trans g3
  have k3 := (World.cell?_setCell_other w1 ⟨vb, vo + 1, none⟩ ⟨vb, vo + 3, none⟩ (.int .u64 ((La.l1 : Int) + 4503599627370494 - (Lb.l1 : Int))) (apart_ne (Or.inl ⟨rfl, rfl⟩) 1 3 (by decide) (by decide) (by decide))).trans k3
  have f3 := (World.frozen?_setCell w1 ⟨vb, vo + 1, none⟩ ⟨vb, vo + 3, none⟩ (.int .u64 ((La.l1 : Int) + 4503599627370494 - (Lb.l1 : Int)))).trans f3
  have h4 := (World.cell?_setCell_other w1 ⟨vb, vo + 1, none⟩ ⟨ab, ao + 4, none⟩ (.int .u64 ((La.l1 : Int) + 4503599627370494 - (Lb.l1 : Int))) (apart_ne dA 1 4 (by decide) (by decide) (by decide))).trans h4
  have g4 := (World.cell?_setCell_other w1 ⟨vb, vo + 1, none⟩ ⟨cb, co + 4, none⟩ (.int .u64 ((La.l1 : Int) + 4503599627370494 - (Lb.l1 : Int))) (apart_ne dB 1 4 (by decide) (by decide) (by decide))).trans g4
  have k4 := (World.cell?_setCell_other w1 ⟨vb, vo + 1, none⟩ ⟨vb, vo + 4, none⟩ (.int .u64 ((La.l1 : Int) + 4503599627370494 - (Lb.l1 : Int))) (apart_ne (Or.inl ⟨rfl, rfl⟩) 1 4 (by decide) (by decide) (by decide))).trans k4
  have f4 := (World.frozen?_setCell w1 ⟨vb, vo + 1, none⟩ ⟨vb, vo + 4, none⟩ (.int .u64 ((La.l1 : Int) + 4503599627370494 - (Lb.l1 : Int)))).trans f4
  change World.cell? ((w1.setCell ⟨vb, vo + 1, none⟩ (.int .u64 ((La.l1 : Int) + 4503599627370494 - (Lb.l1 : Int)))).drew) _ = _ at h2 g2 k2
  change World.frozen? ((w1.setCell ⟨vb, vo + 1, none⟩ (.int .u64 ((La.l1 : Int) + 4503599627370494 - (Lb.l1 : Int)))).drew) _ = _ at f2
  change World.cell? ((w1.setCell ⟨vb, vo + 1, none⟩ (.int .u64 ((La.l1 : Int) + 4503599627370494 - (Lb.l1 : Int)))).drew) _ = _ at h3 g3 k3
  change World.frozen? ((w1.setCell ⟨vb, vo + 1, none⟩ (.int .u64 ((La.l1 : Int) + 4503599627370494 - (Lb.l1 : Int)))).drew) _ = _ at f3
  change World.cell? ((w1.setCell ⟨vb, vo + 1, none⟩ (.int .u64 ((La.l1 : Int) + 4503599627370494 - (Lb.l1 : Int)))).drew) _ = _ at h4 g4 k4
  change World.frozen? ((w1.setCell ⟨vb, vo + 1, none⟩ (.int .u64 ((La.l1 : Int) + 4503599627370494 - (Lb.l1 : Int)))).drew) _ = _ at f4
  change Wr w0 ((w1.setCell ⟨vb, vo + 1, none⟩ (.int .u64 ((La.l1 : Int) + 4503599627370494 - (Lb.l1 : Int)))).drew) _ _ _ _ at hw
  generalize (w1.setCell ⟨vb, vo + 1, none⟩ (.int .u64 ((La.l1 : Int) + 4503599627370494 - (Lb.l1 : Int)))).drew = w2 at *
  go_wp2
  go_region
  have hw := (hw.set 2 (.int .u64 ((La.l2 : Int) + 4503599627370494 - (Lb.l2 : Int)))).drew
  have h3 := (World.cell?_setCell_other w2 ⟨vb, vo + 2, none⟩ ⟨ab, ao + 3, none⟩ (.int .u64 ((La.l2 : Int) + 4503599627370494 - (Lb.l2 : Int))) (apart_ne dA 2 3 (by decide) (by decide) (by decide))).trans h3
  have g3 := (World.cell?_setCell_other w2 ⟨vb, vo + 2, none⟩ ⟨cb, co + 3, none⟩ (.int .u64 ((La.l2 : Int) + 4503599627370494 - (Lb.l2 : Int))) (apart_ne dB 2 3 (by decide) (by decide) (by decide))).trans g3
  have k3 := (World.cell?_setCell_other w2 ⟨vb, vo + 2, none⟩ ⟨vb, vo + 3, none⟩ (.int .u64 ((La.l2 : Int) + 4503599627370494 - (Lb.l2 : Int))) (apart_ne (Or.inl ⟨rfl, rfl⟩) 2 3 (by decide) (by decide) (by decide))).trans k3
  have f3 := (World.frozen?_setCell w2 ⟨vb, vo + 2, none⟩ ⟨vb, vo + 3, none⟩ (.int .u64 ((La.l2 : Int) + 4503599627370494 - (Lb.l2 : Int)))).trans f3
  have h4 := (World.cell?_setCell_other w2 ⟨vb, vo + 2, none⟩ ⟨ab, ao + 4, none⟩ (.int .u64 ((La.l2 : Int) + 4503599627370494 - (Lb.l2 : Int))) (apart_ne dA 2 4 (by decide) (by decide) (by decide))).trans h4
  have g4 := (World.cell?_setCell_other w2 ⟨vb, vo + 2, none⟩ ⟨cb, co + 4, none⟩ (.int .u64 ((La.l2 : Int) + 4503599627370494 - (Lb.l2 : Int))) (apart_ne dB 2 4 (by decide) (by decide) (by decide))).trans g4
  have k4 := (World.cell?_setCell_other w2 ⟨vb, vo + 2, none⟩ ⟨vb, vo + 4, none⟩ (.int .u64 ((La.l2 : Int) + 4503599627370494 - (Lb.l2 : Int))) (apart_ne (Or.inl ⟨rfl, rfl⟩) 2 4 (by decide) (by decide) (by decide))).trans k4
  have f4 := (World.frozen?_setCell w2 ⟨vb, vo + 2, none⟩ ⟨vb, vo + 4, none⟩ (.int .u64 ((La.l2 : Int) + 4503599627370494 - (Lb.l2 : Int)))).trans f4
  change World.cell? ((w2.setCell ⟨vb, vo + 2, none⟩ (.int .u64 ((La.l2 : Int) + 4503599627370494 - (Lb.l2 : Int)))).drew) _ = _ at h3 g3 k3
  change World.frozen? ((w2.setCell ⟨vb, vo + 2, none⟩ (.int .u64 ((La.l2 : Int) + 4503599627370494 - (Lb.l2 : Int)))).drew) _ = _ at f3
  change World.cell? ((w2.setCell ⟨vb, vo + 2, none⟩ (.int .u64 ((La.l2 : Int) + 4503599627370494 - (Lb.l2 : Int)))).drew) _ = _ at h4 g4 k4
  change World.frozen? ((w2.setCell ⟨vb, vo + 2, none⟩ (.int .u64 ((La.l2 : Int) + 4503599627370494 - (Lb.l2 : Int)))).drew) _ = _ at f4
  change Wr w0 ((w2.setCell ⟨vb, vo + 2, none⟩ (.int .u64 ((La.l2 : Int) + 4503599627370494 - (Lb.l2 : Int)))).drew) _ _ _ _ at hw
  generalize (w2.setCell ⟨vb, vo + 2, none⟩ (.int .u64 ((La.l2 : Int) + 4503599627370494 - (Lb.l2 : Int)))).drew = w3 at *
  go_wp2
  go_region
  have hw := (hw.set 3 (.int .u64 ((La.l3 : Int) + 4503599627370494 - (Lb.l3 : Int)))).drew
  have h4 := (World.cell?_setCell_other w3 ⟨vb, vo + 3, none⟩ ⟨ab, ao + 4, none⟩ (.int .u64 ((La.l3 : Int) + 4503599627370494 - (Lb.l3 : Int))) (apart_ne dA 3 4 (by decide) (by decide) (by decide))).trans h4
  have g4 := (World.cell?_setCell_other w3 ⟨vb, vo + 3, none⟩ ⟨cb, co + 4, none⟩ (.int .u64 ((La.l3 : Int) + 4503599627370494 - (Lb.l3 : Int))) (apart_ne dB 3 4 (by decide) (by decide) (by decide))).trans g4
  have k4 := (World.cell?_setCell_other w3 ⟨vb, vo + 3, none⟩ ⟨vb, vo + 4, none⟩ (.int .u64 ((La.l3 : Int) + 4503599627370494 - (Lb.l3 : Int))) (apart_ne (Or.inl ⟨rfl, rfl⟩) 3 4 (by decide) (by decide) (by decide))).trans k4
  have f4 := (World.frozen?_setCell w3 ⟨vb, vo + 3, none⟩ ⟨vb, vo + 4, none⟩ (.int .u64 ((La.l3 : Int) + 4503599627370494 - (Lb.l3 : Int)))).trans f4
  change World.cell? ((w3.setCell ⟨vb, vo + 3, none⟩ (.int .u64 ((La.l3 : Int) + 4503599627370494 - (Lb.l3 : Int)))).drew) _ = _ at h4 g4 k4
  change World.frozen? ((w3.setCell ⟨vb, vo + 3, none⟩ (.int .u64 ((La.l3 : Int) + 4503599627370494 - (Lb.l3 : Int)))).drew) _ = _ at f4
  change Wr w0 ((w3.setCell ⟨vb, vo + 3, none⟩ (.int .u64 ((La.l3 : Int) + 4503599627370494 - (Lb.l3 : Int)))).drew) _ _ _ _ at hw
  generalize (w3.setCell ⟨vb, vo + 3, none⟩ (.int .u64 ((La.l3 : Int) + 4503599627370494 - (Lb.l3 : Int)))).drew = w4 at *
  go_wp2
  go_region
  have hw := (hw.set 4 (.int .u64 ((La.l4 : Int) + 4503599627370494 - (Lb.l4 : Int)))).drew
  change Wr w0 ((w4.setCell ⟨vb, vo + 4, none⟩ (.int .u64 ((La.l4 : Int) + 4503599627370494 - (Lb.l4 : Int)))).drew) _ _ _ _ at hw
  generalize (w4.setCell ⟨vb, vo + 4, none⟩ (.int .u64 ((La.l4 : Int) + 4503599627370494 - (Lb.l4 : Int)))).drew = w5 at *
  go_wp2_with fail
  have hw' := Wr.five (L := subL La Lb) hw (u64_eq (show ((La.l0 : Int) + 4503599627370458 - (Lb.l0 : Int)) = (((subL La Lb).l0 : Nat) : Int) by unfold subL; simp only; omega)) (u64_eq (show ((La.l1 : Int) + 4503599627370494 - (Lb.l1 : Int)) = (((subL La Lb).l1 : Nat) : Int) by unfold subL; simp only; omega)) (u64_eq (show ((La.l2 : Int) + 4503599627370494 - (Lb.l2 : Int)) = (((subL La Lb).l2 : Nat) : Int) by unfold subL; simp only; omega)) (u64_eq (show ((La.l3 : Int) + 4503599627370494 - (Lb.l3 : Int)) = (((subL La Lb).l3 : Nat) : Int) by unfold subL; simp only; omega)) (u64_eq (show ((La.l4 : Int) + 4503599627370494 - (Lb.l4 : Int)) = (((subL La Lb).l4 : Nat) : Int) by unfold subL; simp only; omega))
  refine (carry_any vb vo (subL La Lb) _ (hw'.row hq.out) HW.out).mono ?_
  rintro e w1 ⟨rfl, hw1⟩
  go_wp2
  go_ret
  refine ⟨rfl, ?_⟩
  rw [hR.out]
  exact hw'.trans hw1
theorem add_any (vb vo ab ao cb co x y : Nat) (Lv : L5) (w : World) (hv : El w vb vo Lv) (ha : Fe w ab ao x) (hb : Fe w cb co y) (dA : Apart vb vo ab ao) (dB : Apart vb vo cb co) :
    Calls Tryd.prog 18 #[.pointer (some ⟨vb, vo, none⟩), .pointer (some ⟨ab, ao, none⟩), .pointer (some ⟨cb, co, none⟩)] w fun e w' => e = .returned (.pointer (some ⟨vb, vo, none⟩)) ∧ Sets w w' vb vo ((x + y) % pF) := by
  obtain ⟨La, ha, hA, rfl⟩ := ha
  obtain ⟨Lb, hb, hB, rfl⟩ := hb
  refine (add_raw vb vo ab ao cb co Lv La Lb w hv ha hb hA hB dA dB _ rfl).mono ?_
  rintro e w' ⟨rfl, h⟩
  exact ⟨rfl, _, cpL_bd _ (addL_w _ _ hA hB), by rw [cpL_mod, addL_val, Nat.add_mod], h⟩

theorem sub_any (vb vo ab ao cb co x y : Nat) (Lv : L5) (w : World) (hv : El w vb vo Lv) (ha : Fe w ab ao x) (hb : Fe w cb co y) (dA : Apart vb vo ab ao) (dB : Apart vb vo cb co) :
    Calls Tryd.prog 19 #[.pointer (some ⟨vb, vo, none⟩), .pointer (some ⟨ab, ao, none⟩), .pointer (some ⟨cb, co, none⟩)] w fun e w' => e = .returned (.pointer (some ⟨vb, vo, none⟩)) ∧ Sets w w' vb vo ((x + (pF - y)) % pF) := by
  obtain ⟨La, ha, hA, rfl⟩ := ha
  obtain ⟨Lb, hb, hB, rfl⟩ := hb
  refine (sub_raw vb vo ab ao cb co Lv La Lb w hv ha hb hA hB dA dB _ rfl).mono ?_
  rintro e w' ⟨rfl, h⟩
  exact ⟨rfl, _, cpL_bd _ (subL_w _ _ hA), by rw [cpL_mod]; exact sub_mod _ _ _ (subL_val La Lb hB), h⟩
end Go.Proofs.YtemgflkecflhmaaDoor
