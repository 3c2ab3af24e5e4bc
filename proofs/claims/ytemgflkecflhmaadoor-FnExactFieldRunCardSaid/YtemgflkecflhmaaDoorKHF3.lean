/- The field's reduce, walked. -/
import Derived.Test.YtemgflkecflhmaaDoorKHF1
set_option maxRecDepth 4000
set_option linter.unusedSimpArgs false
set_option linter.unusedVariables false
namespace Go.Proofs.YtemgflkecflhmaaDoor
open Go.RowKit

def redC (K : L5) : Nat := (K.l4 + (K.l3 + (K.l2 + (K.l1 + (K.l0 + 19) / 2251799813685248) / 2251799813685248) / 2251799813685248) / 2251799813685248) / 2251799813685248

/-- limbs as carryPropagate leaves them behind a first round -/
def Bd1 (L : L5) : Prop := L.l0 < 2251799813685267 ∧ L.l1 ≤ 2251799813685248 ∧ L.l2 ≤ 2251799813685248 ∧ L.l3 ≤ 2251799813685248 ∧ L.l4 ≤ 2251799813685248
theorem cpL_bd1 (L : L5) (h : Bd L) : Bd1 (cpL L) := by
  unfold Bd at h
  unfold Bd1 cpL
  simp only
  omega

/-- limbs of 51 bits, the number below p -/
def Canon (L : L5) : Prop := L.l0 < 2251799813685248 ∧ L.l1 < 2251799813685248 ∧ L.l2 < 2251799813685248 ∧ L.l3 < 2251799813685248 ∧ L.l4 < 2251799813685248

theorem redC_eq (K : L5) : redC K = (val5 K + 19) / 57896044618658097711785492504343953926634992332820282019728792003956564819968 := by
  unfold redC val5
  generalize hc0 : (K.l0 + 19) / 2251799813685248 = c0
  generalize hc1 : (K.l1 + c0) / 2251799813685248 = c1
  generalize hc2 : (K.l2 + c1) / 2251799813685248 = c2
  generalize hc3 : (K.l3 + c2) / 2251799813685248 = c3
  generalize hc4 : (K.l4 + c3) / 2251799813685248 = c4
  omega

theorem red_val (K : L5) (hK : Bd1 K) (c a0 a1 a2 a3 a4 : Nat) (hc : c = redC K) (h0 : a0 = K.l0 + 19 * c) (h1 : a1 = K.l1 + a0 / 2251799813685248) (h2 : a2 = K.l2 + a1 / 2251799813685248) (h3 : a3 = K.l3 + a2 / 2251799813685248) (h4 : a4 = K.l4 + a3 / 2251799813685248) :
    val5 ⟨a0 % 2251799813685248, a1 % 2251799813685248, a2 % 2251799813685248, a3 % 2251799813685248, a4 % 2251799813685248⟩ = val5 K % pF := by
  rw [redC_eq] at hc
  have hv : val5 K < 2 * pF := by
    unfold Bd1 at hK; unfold val5 pF; omega
  have hm : val5 K % pF = val5 K - pF * c := by
    unfold pF at *; omega
  rw [hm]
  have hs : val5 K + 19 * c = a0 % 2251799813685248 + 2251799813685248 * (a1 % 2251799813685248) + 5070602400912917605986812821504 * (a2 % 2251799813685248) + 11417981541647679048466287755595961091061972992 * (a3 % 2251799813685248) + 25711008708143844408671393477458601640355247900524685364822016 * a4 := by
    unfold val5
    omega
  have hle : pF * c ≤ val5 K := by unfold pF at *; omega
  generalize val5 K = V at *
  unfold val5
  simp only
  unfold pF at *
  omega

set_option maxHeartbeats 1000000 in
theorem reduce_raw (vb vo : Nat) (L K : L5) (w0 : World) (hE : El w0 vb vo L) (hW : W64 L) (hK : Hid (K = cpL L)) (hB : Bd1 K) (c0 c1 c2 c3 c4 a0 a1 a2 a3 a4 : Nat)
    (hc0 : ((K.l0 : Int) + 19) / 2251799813685248 = (c0 : Int)) (hc1 : ((K.l1 : Int) + c0) / 2251799813685248 = (c1 : Int)) (hc2 : ((K.l2 : Int) + c1) / 2251799813685248 = (c2 : Int)) (hc3 : ((K.l3 : Int) + c2) / 2251799813685248 = (c3 : Int)) (hc4 : ((K.l4 : Int) + c3) / 2251799813685248 = (c4 : Int))
    (ha0 : (K.l0 : Int) + 19 * c4 = (a0 : Int)) (ha1 : (K.l1 : Int) + (a0 : Int) / 2251799813685248 = (a1 : Int)) (ha2 : (K.l2 : Int) + (a1 : Int) / 2251799813685248 = (a2 : Int)) (ha3 : (K.l3 : Int) + (a2 : Int) / 2251799813685248 = (a3 : Int)) (ha4 : (K.l4 : Int) + (a3 : Int) / 2251799813685248 = (a4 : Int))
    (R : L5) (hR : Hid (R = ⟨a0 % 2251799813685248, a1 % 2251799813685248, a2 % 2251799813685248, a3 % 2251799813685248, a4 % 2251799813685248⟩)) :
    Calls Tryd.prog 73 #[.pointer (some ⟨vb, vo, none⟩)] w0 fun e w' => e = .returned (.pointer (some ⟨vb, vo, none⟩)) ∧ Wr w0 w' vb vo 5 (limbV R) := by
  obtain ⟨q0, q1, q2, q3, q4⟩ := hB
  go_enter Tryd.func73, Tryd.ntmps73
  go_wp2_with fail
  refine (carry_any vb vo L _ hE hW).mono ?_
  rintro e w1 ⟨rfl, hw1⟩
  have hq := hw1.row hE
  rw [← hK.out] at hq hw1
  have hq' := Lib.hid hq
  have hw1' := Lib.hid hw1
  have hw := Lib.hid (Wr.start hq)
  have k0 := El.c0 hq
  have f0 := El.f0 hq
  have k1 := El.c1 hq
  have f1 := El.f1 hq
  have k2 := El.c2 hq
  have f2 := El.f2 hq
  have k3 := El.c3 hq
  have f3 := El.f3 hq
  have k4 := El.c4 hq
  have f4 := El.f4 hq
  clear hq hw1 hE
  go_wp2
  have hw := Lib.hid (hw.out.set 0 (.int .u64 (a0 : Int)))
  change Hid (Wr w1 (w1.setCell ⟨vb, vo, none⟩ (.int .u64 (a0 : Int))) _ _ _ _) at hw
  clear k0 f0 k1 f1 k2 f2 k3 f3 k4 f4
  generalize (w1.setCell ⟨vb, vo, none⟩ (.int .u64 (a0 : Int))) = u1 at *
  have k0 : u1.cell? ⟨vb, vo, none⟩ = some (.int .u64 (a0 : Int)) := (hw.out.row hq'.out).cell (i := 0) (by omega)
  have f0 : u1.frozen? ⟨vb, vo, none⟩ = false := (hw.out.row hq'.out).frozen (i := 0) (by omega)
  have k1 : u1.cell? ⟨vb, vo + 1, none⟩ = some (.int .u64 (K.l1 : Int)) := (hw.out.row hq'.out).cell (i := 1) (by omega)
  have f1 : u1.frozen? ⟨vb, vo + 1, none⟩ = false := (hw.out.row hq'.out).frozen (i := 1) (by omega)
  have k2 : u1.cell? ⟨vb, vo + 2, none⟩ = some (.int .u64 (K.l2 : Int)) := (hw.out.row hq'.out).cell (i := 2) (by omega)
  have f2 : u1.frozen? ⟨vb, vo + 2, none⟩ = false := (hw.out.row hq'.out).frozen (i := 2) (by omega)
  have k3 : u1.cell? ⟨vb, vo + 3, none⟩ = some (.int .u64 (K.l3 : Int)) := (hw.out.row hq'.out).cell (i := 3) (by omega)
  have f3 : u1.frozen? ⟨vb, vo + 3, none⟩ = false := (hw.out.row hq'.out).frozen (i := 3) (by omega)
  have k4 : u1.cell? ⟨vb, vo + 4, none⟩ = some (.int .u64 (K.l4 : Int)) := (hw.out.row hq'.out).cell (i := 4) (by omega)
  have f4 : u1.frozen? ⟨vb, vo + 4, none⟩ = false := (hw.out.row hq'.out).frozen (i := 4) (by omega)
  go_region
  go_wp2
  have hw := Lib.hid (((hw.out.set 1 (.int .u64 (a1 : Int))).set 0 (.int .u64 (bits .and .u64 (a0 : Int) 2251799813685247))).drew)
  change Hid (Wr w1 ((u1.setCell ⟨vb, vo + 1, none⟩ (.int .u64 (a1 : Int))).setCell ⟨vb, vo, none⟩ (.int .u64 (bits .and .u64 (a0 : Int) 2251799813685247))).drew _ _ _ _) at hw
  clear k0 f0 k1 f1 k2 f2 k3 f3 k4 f4
  generalize ((u1.setCell ⟨vb, vo + 1, none⟩ (.int .u64 (a1 : Int))).setCell ⟨vb, vo, none⟩ (.int .u64 (bits .and .u64 (a0 : Int) 2251799813685247))).drew = u2 at *
  have k0 : u2.cell? ⟨vb, vo, none⟩ = some (.int .u64 (bits .and .u64 (a0 : Int) 2251799813685247)) := (hw.out.row hq'.out).cell (i := 0) (by omega)
  have f0 : u2.frozen? ⟨vb, vo, none⟩ = false := (hw.out.row hq'.out).frozen (i := 0) (by omega)
  have k1 : u2.cell? ⟨vb, vo + 1, none⟩ = some (.int .u64 (a1 : Int)) := (hw.out.row hq'.out).cell (i := 1) (by omega)
  have f1 : u2.frozen? ⟨vb, vo + 1, none⟩ = false := (hw.out.row hq'.out).frozen (i := 1) (by omega)
  have k2 : u2.cell? ⟨vb, vo + 2, none⟩ = some (.int .u64 (K.l2 : Int)) := (hw.out.row hq'.out).cell (i := 2) (by omega)
  have f2 : u2.frozen? ⟨vb, vo + 2, none⟩ = false := (hw.out.row hq'.out).frozen (i := 2) (by omega)
  have k3 : u2.cell? ⟨vb, vo + 3, none⟩ = some (.int .u64 (K.l3 : Int)) := (hw.out.row hq'.out).cell (i := 3) (by omega)
  have f3 : u2.frozen? ⟨vb, vo + 3, none⟩ = false := (hw.out.row hq'.out).frozen (i := 3) (by omega)
  have k4 : u2.cell? ⟨vb, vo + 4, none⟩ = some (.int .u64 (K.l4 : Int)) := (hw.out.row hq'.out).cell (i := 4) (by omega)
  have f4 : u2.frozen? ⟨vb, vo + 4, none⟩ = false := (hw.out.row hq'.out).frozen (i := 4) (by omega)
  go_region
  go_wp2
  have hw := Lib.hid (((hw.out.set 2 (.int .u64 (a2 : Int))).set 1 (.int .u64 (bits .and .u64 (a1 : Int) 2251799813685247))).drew)
  change Hid (Wr w1 ((u2.setCell ⟨vb, vo + 2, none⟩ (.int .u64 (a2 : Int))).setCell ⟨vb, vo + 1, none⟩ (.int .u64 (bits .and .u64 (a1 : Int) 2251799813685247))).drew _ _ _ _) at hw
  clear k0 f0 k1 f1 k2 f2 k3 f3 k4 f4
  generalize ((u2.setCell ⟨vb, vo + 2, none⟩ (.int .u64 (a2 : Int))).setCell ⟨vb, vo + 1, none⟩ (.int .u64 (bits .and .u64 (a1 : Int) 2251799813685247))).drew = u3 at *
  have k0 : u3.cell? ⟨vb, vo, none⟩ = some (.int .u64 (bits .and .u64 (a0 : Int) 2251799813685247)) := (hw.out.row hq'.out).cell (i := 0) (by omega)
  have f0 : u3.frozen? ⟨vb, vo, none⟩ = false := (hw.out.row hq'.out).frozen (i := 0) (by omega)
  have k1 : u3.cell? ⟨vb, vo + 1, none⟩ = some (.int .u64 (bits .and .u64 (a1 : Int) 2251799813685247)) := (hw.out.row hq'.out).cell (i := 1) (by omega)
  have f1 : u3.frozen? ⟨vb, vo + 1, none⟩ = false := (hw.out.row hq'.out).frozen (i := 1) (by omega)
  have k2 : u3.cell? ⟨vb, vo + 2, none⟩ = some (.int .u64 (a2 : Int)) := (hw.out.row hq'.out).cell (i := 2) (by omega)
  have f2 : u3.frozen? ⟨vb, vo + 2, none⟩ = false := (hw.out.row hq'.out).frozen (i := 2) (by omega)
  have k3 : u3.cell? ⟨vb, vo + 3, none⟩ = some (.int .u64 (K.l3 : Int)) := (hw.out.row hq'.out).cell (i := 3) (by omega)
  have f3 : u3.frozen? ⟨vb, vo + 3, none⟩ = false := (hw.out.row hq'.out).frozen (i := 3) (by omega)
  have k4 : u3.cell? ⟨vb, vo + 4, none⟩ = some (.int .u64 (K.l4 : Int)) := (hw.out.row hq'.out).cell (i := 4) (by omega)
  have f4 : u3.frozen? ⟨vb, vo + 4, none⟩ = false := (hw.out.row hq'.out).frozen (i := 4) (by omega)
  go_region
  go_wp2
  have hw := Lib.hid (((hw.out.set 3 (.int .u64 (a3 : Int))).set 2 (.int .u64 (bits .and .u64 (a2 : Int) 2251799813685247))).drew)
  change Hid (Wr w1 ((u3.setCell ⟨vb, vo + 3, none⟩ (.int .u64 (a3 : Int))).setCell ⟨vb, vo + 2, none⟩ (.int .u64 (bits .and .u64 (a2 : Int) 2251799813685247))).drew _ _ _ _) at hw
  clear k0 f0 k1 f1 k2 f2 k3 f3 k4 f4
  generalize ((u3.setCell ⟨vb, vo + 3, none⟩ (.int .u64 (a3 : Int))).setCell ⟨vb, vo + 2, none⟩ (.int .u64 (bits .and .u64 (a2 : Int) 2251799813685247))).drew = u4 at *
  have k0 : u4.cell? ⟨vb, vo, none⟩ = some (.int .u64 (bits .and .u64 (a0 : Int) 2251799813685247)) := (hw.out.row hq'.out).cell (i := 0) (by omega)
  have f0 : u4.frozen? ⟨vb, vo, none⟩ = false := (hw.out.row hq'.out).frozen (i := 0) (by omega)
  have k1 : u4.cell? ⟨vb, vo + 1, none⟩ = some (.int .u64 (bits .and .u64 (a1 : Int) 2251799813685247)) := (hw.out.row hq'.out).cell (i := 1) (by omega)
  have f1 : u4.frozen? ⟨vb, vo + 1, none⟩ = false := (hw.out.row hq'.out).frozen (i := 1) (by omega)
  have k2 : u4.cell? ⟨vb, vo + 2, none⟩ = some (.int .u64 (bits .and .u64 (a2 : Int) 2251799813685247)) := (hw.out.row hq'.out).cell (i := 2) (by omega)
  have f2 : u4.frozen? ⟨vb, vo + 2, none⟩ = false := (hw.out.row hq'.out).frozen (i := 2) (by omega)
  have k3 : u4.cell? ⟨vb, vo + 3, none⟩ = some (.int .u64 (a3 : Int)) := (hw.out.row hq'.out).cell (i := 3) (by omega)
  have f3 : u4.frozen? ⟨vb, vo + 3, none⟩ = false := (hw.out.row hq'.out).frozen (i := 3) (by omega)
  have k4 : u4.cell? ⟨vb, vo + 4, none⟩ = some (.int .u64 (K.l4 : Int)) := (hw.out.row hq'.out).cell (i := 4) (by omega)
  have f4 : u4.frozen? ⟨vb, vo + 4, none⟩ = false := (hw.out.row hq'.out).frozen (i := 4) (by omega)
  go_region
  go_wp2
  go_ret
  have hw := Lib.hid ((((hw.out.set 4 (.int .u64 (a4 : Int))).set 3 (.int .u64 (bits .and .u64 (a3 : Int) 2251799813685247))).drew).set 4 (.int .u64 (bits .and .u64 (a4 : Int) 2251799813685247)))
  refine ⟨rfl, hw1'.out.trans (Wr.five hw.out ?_ ?_ ?_ ?_ ?_)⟩ <;> rw [hR.out] <;> exact u64_eq (mask51 _ (by omega))


theorem reduce_any (vb vo x : Nat) (w0 : World) (hE : Fe w0 vb vo x) :
    Calls Tryd.prog 73 #[.pointer (some ⟨vb, vo, none⟩)] w0 fun e w' => e = .returned (.pointer (some ⟨vb, vo, none⟩)) ∧ ∃ L, Canon L ∧ val5 L = x ∧ Wr w0 w' vb vo 5 (limbV L) := by
  obtain ⟨L, hE, hB, rfl⟩ := hE
  have hW : W64 L := by unfold Bd at hB; unfold W64; omega
  have h1 := cpL_bd1 L hB
  have hm := cpL_mod L
  obtain ⟨K, hK⟩ : ∃ K, K = cpL L := ⟨_, rfl⟩
  rw [← hK] at h1 hm
  refine (reduce_raw vb vo L K w0 hE hW (Lib.hid hK) h1 ((K.l0 + 19) / 2251799813685248) ((K.l1 + ((K.l0 + 19) / 2251799813685248)) / 2251799813685248) ((K.l2 + ((K.l1 + ((K.l0 + 19) / 2251799813685248)) / 2251799813685248)) / 2251799813685248)
    ((K.l3 + ((K.l2 + ((K.l1 + ((K.l0 + 19) / 2251799813685248)) / 2251799813685248)) / 2251799813685248)) / 2251799813685248) (redC K) (K.l0 + 19 * redC K) (K.l1 + (K.l0 + 19 * redC K) / 2251799813685248)
    (K.l2 + (K.l1 + (K.l0 + 19 * redC K) / 2251799813685248) / 2251799813685248) (K.l3 + (K.l2 + (K.l1 + (K.l0 + 19 * redC K) / 2251799813685248) / 2251799813685248) / 2251799813685248)
    (K.l4 + (K.l3 + (K.l2 + (K.l1 + (K.l0 + 19 * redC K) / 2251799813685248) / 2251799813685248) / 2251799813685248) / 2251799813685248) (by omega) (by omega) (by omega) (by omega) (by unfold redC; omega) (by omega) (by omega) (by omega) (by omega) (by omega) _ (Lib.hid rfl)).mono ?_
  rintro e w' ⟨rfl, h⟩
  refine ⟨rfl, _, ?_, ?_, h⟩
  · unfold Canon; simp only; omega
  · rw [← hm]
    exact red_val K h1 _ _ _ _ _ _ rfl rfl rfl rfl rfl rfl
end Go.Proofs.YtemgflkecflhmaaDoor
