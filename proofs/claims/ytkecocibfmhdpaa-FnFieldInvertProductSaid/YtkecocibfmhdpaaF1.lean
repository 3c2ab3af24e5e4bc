/- The field's small functions, walked: mul19, carryPropagate, Add, Subtract. -/
import Derived.Test.YtkecocibfmhdpaaProg
import Derived.Test.YtkecocibfmhdpaaArith
import Derived.WalkLawsBesides
import Derived.BigRegion
import Derived.StillTailTactics
import Derived.Lib.Hide
set_option linter.unusedSimpArgs false
set_option linter.unusedVariables false
namespace Go.Proofs.Ytkecocibfmhdpaa
open Go.RowKit

theorem mul19_any (a : Int) (w : World) (h0 : 0 ≤ a) (h : a < 970881267037344822) :
    Calls Try.prog 51 #[.int .u64 a] w fun e w' => e = .returned (.int .u64 (19 * a)) ∧ w' = w := by
  go_enter Try.func51, Try.ntmps51
  go_wp2
  go_ret
  exact ⟨by simp; omega, rfl⟩

set_option maxHeartbeats 1000000 in
theorem carry_any (b off : Nat) (L : L5) (w : World) (hE : El w b off L) (hW : W64 L) :
    Calls Try.prog 40 #[.pointer (some ⟨b, off, none⟩)] w fun e w' => e = .returned (.pointer (some ⟨b, off, none⟩)) ∧ Wr w w' b off 5 (limbV (cpL L)) := by
  have h0 := hE.c0; have h1 := hE.c1; have h2 := hE.c2; have h3 := hE.c3; have h4 := hE.c4
  have f0 := hE.f0; have f1 := hE.f1; have f2 := hE.f2; have f3 := hE.f3; have f4 := hE.f4
  obtain ⟨q0, q1, q2, q3, q4⟩ := hW
  go_enter Try.func40, Try.ntmps40
  go_wp2
  refine wp_region_still_tail 13 (by kernel_rfl) (by kernel_rfl) ?_
  simp only [List.take_succ_cons, List.take_zero, List.drop_succ_cons, List.drop_zero]
  repeat still_step
  still_call (mul19_any _ _ (by omega) (by omega))
  repeat still_step
  refine wpStill_nil ?_
  change wpList _ _ _ _ _ w.drew
  go_wp2
  go_region
  go_wp2
  go_region
  go_wp2
  go_region
  go_wp2
  go_ret
  refine ⟨rfl, ?_⟩
  refine Wr.five ((((((Wr.start hE).set 0 _).set 4 _).set 3 _).set 2 _).set 1 _).drew.drew.drew.drew ?_ ?_ ?_ ?_ ?_
  · exact u64_eq (cp_word19 _ _ q0 q4)
  · exact u64_eq (cp_word _ _ q1 q0)
  · exact u64_eq (cp_word _ _ q2 q1)
  · exact u64_eq (cp_word _ _ q3 q2)
  · exact u64_eq (cp_word _ _ q4 q3)

def Apart (b off b' off' : Nat) : Prop := (b = b' ∧ off = off') ∨ b ≠ b' ∨ off + 5 ≤ off' ∨ off' + 5 ≤ off
theorem apart_ne {b off b' off' : Nat} (h : Apart b off b' off') (i j : Nat) (hi : i < 5) (hj : j < 5) (hij : i ≠ j) : (⟨b, off + i, none⟩ : Addr) ≠ ⟨b', off' + j, none⟩ := by
  unfold Apart at h
  intro e
  injection e with e1 e2
  omega


set_option maxHeartbeats 1000000 in
theorem add_raw (vb vo ab ao cb co : Nat) (Lv La Lb : L5) (w : World) (hv : El w vb vo Lv) (ha : El w ab ao La) (hb : El w cb co Lb) (hA : Bd La) (hB : Bd Lb) (dA : Apart vb vo ab ao) (dB : Apart vb vo cb co) (R : L5) (hR : Hid (R = cpL (addL La Lb))) :
    Calls Try.prog 26 #[.pointer (some ⟨vb, vo, none⟩), .pointer (some ⟨ab, ao, none⟩), .pointer (some ⟨cb, co, none⟩)] w fun e w' => e = .returned (.pointer (some ⟨vb, vo, none⟩)) ∧ Wr w w' vb vo 5 (limbV R) := by
  have h0 := ha.c0; have h1 := ha.c1; have h2 := ha.c2; have h3 := ha.c3; have h4 := ha.c4
  have g0 := hb.c0; have g1 := hb.c1; have g2 := hb.c2; have g3 := hb.c3; have g4 := hb.c4
  have f0 := hv.f0; have f1 := hv.f1; have f2 := hv.f2; have f3 := hv.f3; have f4 := hv.f4
  have k0 := hv.c0; have k1 := hv.c1; have k2 := hv.c2; have k3 := hv.c3; have k4 := hv.c4
  have a01 : (⟨vb, vo, none⟩ : Addr) ≠ ⟨ab, ao + 1, none⟩ := apart_ne dA 0 1 (by decide) (by decide) (by decide)
  have a02 : (⟨vb, vo, none⟩ : Addr) ≠ ⟨ab, ao + 2, none⟩ := apart_ne dA 0 2 (by decide) (by decide) (by decide)
  have a03 : (⟨vb, vo, none⟩ : Addr) ≠ ⟨ab, ao + 3, none⟩ := apart_ne dA 0 3 (by decide) (by decide) (by decide)
  have a04 : (⟨vb, vo, none⟩ : Addr) ≠ ⟨ab, ao + 4, none⟩ := apart_ne dA 0 4 (by decide) (by decide) (by decide)
  have a12 : (⟨vb, vo + 1, none⟩ : Addr) ≠ ⟨ab, ao + 2, none⟩ := apart_ne dA 1 2 (by decide) (by decide) (by decide)
  have a13 : (⟨vb, vo + 1, none⟩ : Addr) ≠ ⟨ab, ao + 3, none⟩ := apart_ne dA 1 3 (by decide) (by decide) (by decide)
  have a14 : (⟨vb, vo + 1, none⟩ : Addr) ≠ ⟨ab, ao + 4, none⟩ := apart_ne dA 1 4 (by decide) (by decide) (by decide)
  have a23 : (⟨vb, vo + 2, none⟩ : Addr) ≠ ⟨ab, ao + 3, none⟩ := apart_ne dA 2 3 (by decide) (by decide) (by decide)
  have a24 : (⟨vb, vo + 2, none⟩ : Addr) ≠ ⟨ab, ao + 4, none⟩ := apart_ne dA 2 4 (by decide) (by decide) (by decide)
  have a34 : (⟨vb, vo + 3, none⟩ : Addr) ≠ ⟨ab, ao + 4, none⟩ := apart_ne dA 3 4 (by decide) (by decide) (by decide)
  have b01 : (⟨vb, vo, none⟩ : Addr) ≠ ⟨cb, co + 1, none⟩ := apart_ne dB 0 1 (by decide) (by decide) (by decide)
  have b02 : (⟨vb, vo, none⟩ : Addr) ≠ ⟨cb, co + 2, none⟩ := apart_ne dB 0 2 (by decide) (by decide) (by decide)
  have b03 : (⟨vb, vo, none⟩ : Addr) ≠ ⟨cb, co + 3, none⟩ := apart_ne dB 0 3 (by decide) (by decide) (by decide)
  have b04 : (⟨vb, vo, none⟩ : Addr) ≠ ⟨cb, co + 4, none⟩ := apart_ne dB 0 4 (by decide) (by decide) (by decide)
  have b12 : (⟨vb, vo + 1, none⟩ : Addr) ≠ ⟨cb, co + 2, none⟩ := apart_ne dB 1 2 (by decide) (by decide) (by decide)
  have b13 : (⟨vb, vo + 1, none⟩ : Addr) ≠ ⟨cb, co + 3, none⟩ := apart_ne dB 1 3 (by decide) (by decide) (by decide)
  have b14 : (⟨vb, vo + 1, none⟩ : Addr) ≠ ⟨cb, co + 4, none⟩ := apart_ne dB 1 4 (by decide) (by decide) (by decide)
  have b23 : (⟨vb, vo + 2, none⟩ : Addr) ≠ ⟨cb, co + 3, none⟩ := apart_ne dB 2 3 (by decide) (by decide) (by decide)
  have b24 : (⟨vb, vo + 2, none⟩ : Addr) ≠ ⟨cb, co + 4, none⟩ := apart_ne dB 2 4 (by decide) (by decide) (by decide)
  have b34 : (⟨vb, vo + 3, none⟩ : Addr) ≠ ⟨cb, co + 4, none⟩ := apart_ne dB 3 4 (by decide) (by decide) (by decide)
  clear dA dB
  have hW := addL_w La Lb hA hB
  obtain ⟨q0, q1, q2, q3, q4⟩ := hA
  obtain ⟨r0, r1, r2, r3, r4⟩ := hB
  go_enter Try.func26, Try.ntmps26
  go_wp2
  go_region
  go_wp2
  go_region
  go_wp2
  go_region
  go_wp2
  go_region
  go_wp2
  go_region
  go_wp2_with fail
  have hw := Wr.five (L := addL La Lb) ((((((Wr.start hv).set 0 _).set 1 _).set 2 _).set 3 _).set 4 _).drew.drew.drew.drew.drew (u64_eq (show ((La.l0 : Int) + (Lb.l0 : Int)) = (((addL La Lb).l0 : Nat) : Int) by unfold addL; simp only; omega)) (u64_eq (show ((La.l1 : Int) + (Lb.l1 : Int)) = (((addL La Lb).l1 : Nat) : Int) by unfold addL; simp only; omega)) (u64_eq (show ((La.l2 : Int) + (Lb.l2 : Int)) = (((addL La Lb).l2 : Nat) : Int) by unfold addL; simp only; omega)) (u64_eq (show ((La.l3 : Int) + (Lb.l3 : Int)) = (((addL La Lb).l3 : Nat) : Int) by unfold addL; simp only; omega)) (u64_eq (show ((La.l4 : Int) + (Lb.l4 : Int)) = (((addL La Lb).l4 : Nat) : Int) by unfold addL; simp only; omega))
  refine (carry_any vb vo (addL La Lb) _ (hw.row hv) hW).mono ?_
  rintro e w1 ⟨rfl, hw1⟩
  go_wp2
  go_ret
  refine ⟨rfl, ?_⟩
  rw [hR.out]
  exact hw.trans hw1


theorem add_any (vb vo ab ao cb co x y : Nat) (Lv : L5) (w : World) (hv : El w vb vo Lv) (ha : Fe w ab ao x) (hb : Fe w cb co y) (dA : Apart vb vo ab ao) (dB : Apart vb vo cb co) :
    Calls Try.prog 26 #[.pointer (some ⟨vb, vo, none⟩), .pointer (some ⟨ab, ao, none⟩), .pointer (some ⟨cb, co, none⟩)] w fun e w' => e = .returned (.pointer (some ⟨vb, vo, none⟩)) ∧ Sets w w' vb vo ((x + y) % pF) := by
  obtain ⟨La, ha, hA, rfl⟩ := ha
  obtain ⟨Lb, hb, hB, rfl⟩ := hb
  refine (add_raw vb vo ab ao cb co Lv La Lb w hv ha hb hA hB dA dB _ rfl).mono ?_
  rintro e w' ⟨rfl, h⟩
  exact ⟨rfl, _, cpL_bd _ (addL_w _ _ hA hB), by rw [cpL_mod, addL_val, Nat.add_mod], h⟩

end Go.Proofs.Ytkecocibfmhdpaa
