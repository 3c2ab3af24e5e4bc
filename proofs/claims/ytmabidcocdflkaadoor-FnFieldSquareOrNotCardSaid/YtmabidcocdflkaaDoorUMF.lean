/- Multiply. -/
import Derived.Test.YtmabidcocdflkaaDoorUM
set_option linter.unusedSimpArgs false
set_option linter.unusedVariables false
namespace Go.Proofs.YtmabidcocdflkaaDoor
open Go.RowKit

theorem feMul_fn (vb vo ab ao bb bo a0 a1 a2 a3 a4 b0 b1 b2 b3 b4 : Nat) (vs : Nat → Value) (ba0 : a0 ≤ 2252074691592191) (ba1 : a1 ≤ 2252074691592191) (ba2 : a2 ≤ 2252074691592191) (ba3 : a3 ≤ 2252074691592191) (ba4 : a4 ≤ 2252074691592191) (bb0 : b0 ≤ 2252074691592191) (bb1 : b1 ≤ 2252074691592191) (bb2 : b2 ≤ 2252074691592191) (bb3 : b3 ≤ 2252074691592191) (bb4 : b4 ≤ 2252074691592191) (KK : L5) (hKK : Hid (KK = ⟨a0 * b0 + 19 * (a1 * b4) + 19 * (a2 * b3) + 19 * (a3 * b2) + 19 * (a4 * b1), a0 * b1 + a1 * b0 + 19 * (a2 * b4) + 19 * (a3 * b3) + 19 * (a4 * b2), a0 * b2 + a1 * b1 + a2 * b0 + 19 * (a3 * b4) + 19 * (a4 * b3), a0 * b3 + a1 * b2 + a2 * b1 + a3 * b0 + 19 * (a4 * b4), a0 * b4 + a1 * b3 + a2 * b2 + a3 * b1 + a4 * b0⟩)) (w : World)
    (hv : Row w vb vo 5 vs) (hA : El w ab ao ⟨a0, a1, a2, a3, a4⟩) (hB : El w bb bo ⟨b0, b1, b2, b3, b4⟩) :
    Calls Tryd.prog 32 #[.pointer (some ⟨vb, vo, none⟩), .pointer (some ⟨ab, ao, none⟩), .pointer (some ⟨bb, bo, none⟩)] w fun e w' => e = .returned (.tuple #[]) ∧ Wr w w' vb vo 5 (limbV (cpL (cpL KK))) := by
  have HV := Lib.hid hv; have HA := Lib.hid hA; have HB := Lib.hid hB; clear hv hA hB
  go_enter Tryd.func32, Tryd.ntmps32
  go_wp2_with fail
  refine (feMul_raw vb vo ab ao bb bo a0 a1 a2 a3 a4 b0 b1 b2 b3 b4 vs ba0 ba1 ba2 ba3 ba4 bb0 bb1 bb2 bb3 bb4 KK hKK _ HV.out (El.c0 HA.out) (El.c1 HA.out) (El.c2 HA.out) (El.c3 HA.out) (El.c4 HA.out) (El.c0 HB.out) (El.c1 HB.out) (El.c2 HB.out) (El.c3 HB.out) (El.c4 HB.out)).mono ?_
  rintro e w1 ⟨rfl, hw⟩
  go_wp2
  go_end0
  exact ⟨rfl, hw⟩


theorem col_bd (a b M N : Nat) (ha : a ≤ M) (hb : b ≤ N) : a * b ≤ M * N := Nat.mul_le_mul ha hb
theorem cp2_bd (V0 V1 V2 V3 V4 : Nat) (h0 : V0 ≤ 390531712071274790018052217897037) (h1 : V1 ≤ 390531712071274790018052217897037) (h2 : V2 ≤ 390531712071274790018052217897037) (h3 : V3 ≤ 390531712071274790018052217897037) (h4 : V4 ≤ 390531712071274790018052217897037) : Bd (cpL (cpL ⟨V0, V1, V2, V3, V4⟩)) := by
  refine cpL_bd _ ?_
  unfold W64 cpL
  simp only
  omega
theorem mul_bd (a0 a1 a2 a3 a4 b0 b1 b2 b3 b4 : Nat) (ha0 : a0 ≤ 2252074691592191) (ha1 : a1 ≤ 2252074691592191) (ha2 : a2 ≤ 2252074691592191) (ha3 : a3 ≤ 2252074691592191) (ha4 : a4 ≤ 2252074691592191) (hb0 : b0 ≤ 2252074691592191) (hb1 : b1 ≤ 2252074691592191) (hb2 : b2 ≤ 2252074691592191) (hb3 : b3 ≤ 2252074691592191) (hb4 : b4 ≤ 2252074691592191) : Bd (cpL (cpL ⟨a0 * b0 + 19 * (a1 * b4) + 19 * (a2 * b3) + 19 * (a3 * b2) + 19 * (a4 * b1), a0 * b1 + a1 * b0 + 19 * (a2 * b4) + 19 * (a3 * b3) + 19 * (a4 * b2), a0 * b2 + a1 * b1 + a2 * b0 + 19 * (a3 * b4) + 19 * (a4 * b3), a0 * b3 + a1 * b2 + a2 * b1 + a3 * b0 + 19 * (a4 * b4), a0 * b4 + a1 * b3 + a2 * b2 + a3 * b1 + a4 * b0⟩)) := by
  have p00 := col_bd _ _ _ _ ha0 hb0
  have p01 := col_bd _ _ _ _ ha0 hb1
  have p02 := col_bd _ _ _ _ ha0 hb2
  have p03 := col_bd _ _ _ _ ha0 hb3
  have p04 := col_bd _ _ _ _ ha0 hb4
  have p10 := col_bd _ _ _ _ ha1 hb0
  have p11 := col_bd _ _ _ _ ha1 hb1
  have p12 := col_bd _ _ _ _ ha1 hb2
  have p13 := col_bd _ _ _ _ ha1 hb3
  have p14 := col_bd _ _ _ _ ha1 hb4
  have p20 := col_bd _ _ _ _ ha2 hb0
  have p21 := col_bd _ _ _ _ ha2 hb1
  have p22 := col_bd _ _ _ _ ha2 hb2
  have p23 := col_bd _ _ _ _ ha2 hb3
  have p24 := col_bd _ _ _ _ ha2 hb4
  have p30 := col_bd _ _ _ _ ha3 hb0
  have p31 := col_bd _ _ _ _ ha3 hb1
  have p32 := col_bd _ _ _ _ ha3 hb2
  have p33 := col_bd _ _ _ _ ha3 hb3
  have p34 := col_bd _ _ _ _ ha3 hb4
  have p40 := col_bd _ _ _ _ ha4 hb0
  have p41 := col_bd _ _ _ _ ha4 hb1
  have p42 := col_bd _ _ _ _ ha4 hb2
  have p43 := col_bd _ _ _ _ ha4 hb3
  have p44 := col_bd _ _ _ _ ha4 hb4
  generalize a0 * b0 = q00 at *
  generalize a0 * b1 = q01 at *
  generalize a0 * b2 = q02 at *
  generalize a0 * b3 = q03 at *
  generalize a0 * b4 = q04 at *
  generalize a1 * b0 = q10 at *
  generalize a1 * b1 = q11 at *
  generalize a1 * b2 = q12 at *
  generalize a1 * b3 = q13 at *
  generalize a1 * b4 = q14 at *
  generalize a2 * b0 = q20 at *
  generalize a2 * b1 = q21 at *
  generalize a2 * b2 = q22 at *
  generalize a2 * b3 = q23 at *
  generalize a2 * b4 = q24 at *
  generalize a3 * b0 = q30 at *
  generalize a3 * b1 = q31 at *
  generalize a3 * b2 = q32 at *
  generalize a3 * b3 = q33 at *
  generalize a3 * b4 = q34 at *
  generalize a4 * b0 = q40 at *
  generalize a4 * b1 = q41 at *
  generalize a4 * b2 = q42 at *
  generalize a4 * b3 = q43 at *
  generalize a4 * b4 = q44 at *
  refine cp2_bd _ _ _ _ _ ?_ ?_ ?_ ?_ ?_ <;> omega
set_option maxHeartbeats 1000000 in
theorem mul_fe' (vb vo ab ao bb bo x y : Nat) (vs : Nat → Value) (w : World) (hL : Row w vb vo 5 vs) (ha : Fe w ab ao x) (hb : Fe w bb bo y) (R : Nat) (hR : Hid (R = x * y % pF)) :
    Calls Tryd.prog 22 #[.pointer (some ⟨vb, vo, none⟩), .pointer (some ⟨ab, ao, none⟩), .pointer (some ⟨bb, bo, none⟩)] w fun e w' => e = .returned (.pointer (some ⟨vb, vo, none⟩)) ∧ Sets w w' vb vo R := by
  obtain ⟨⟨a0, a1, a2, a3, a4⟩, hA, ⟨p0, p1, p2, p3, p4⟩, hx⟩ := ha
  obtain ⟨⟨b0, b1, b2, b3, b4⟩, hB, ⟨q0, q1, q2, q3, q4⟩, hy⟩ := hb
  simp only at p0 p1 p2 p3 p4 q0 q1 q2 q3 q4
  have hbd := Lib.hid (mul_bd a0 a1 a2 a3 a4 b0 b1 b2 b3 b4 (by omega) (by omega) (by omega) (by omega) (by omega) (by omega) (by omega) (by omega) (by omega) (by omega))
  have hval : Hid (val5 (cpL (cpL ⟨a0 * b0 + 19 * (a1 * b4) + 19 * (a2 * b3) + 19 * (a3 * b2) + 19 * (a4 * b1), a0 * b1 + a1 * b0 + 19 * (a2 * b4) + 19 * (a3 * b3) + 19 * (a4 * b2), a0 * b2 + a1 * b1 + a2 * b0 + 19 * (a3 * b4) + 19 * (a4 * b3), a0 * b3 + a1 * b2 + a2 * b1 + a3 * b0 + 19 * (a4 * b4), a0 * b4 + a1 * b3 + a2 * b2 + a3 * b1 + a4 * b0⟩)) % pF = R) := Lib.hid (by
    rw [cpL_mod, cpL_mod, mul_val, hR.out, ← hx, ← hy, ← Nat.mul_mod])
  have HL := Lib.hid hL; have HA := Lib.hid hA; have HB := Lib.hid hB; clear hL hA hB hx hy hR
  go_enter Tryd.func22, Tryd.ntmps22
  go_wp2_with fail
  refine (feMul_fn vb vo ab ao bb bo a0 a1 a2 a3 a4 b0 b1 b2 b3 b4 vs (by omega) (by omega) (by omega) (by omega) (by omega) (by omega) (by omega) (by omega) (by omega) (by omega) _ rfl _ HL.out HA.out HB.out).mono ?_
  rintro e w1 ⟨rfl, hw⟩
  go_wp2
  go_ret
  exact ⟨rfl, _, hbd.out, hval.out, hw⟩
theorem mul_fe (vb vo ab ao bb bo x y v0 : Nat) (w : World) (hv : Fe w vb vo v0) (ha : Fe w ab ao x) (hb : Fe w bb bo y) (R : Nat) (hR : Hid (R = x * y % pF)) :
    Calls Tryd.prog 22 #[.pointer (some ⟨vb, vo, none⟩), .pointer (some ⟨ab, ao, none⟩), .pointer (some ⟨bb, bo, none⟩)] w fun e w' => e = .returned (.pointer (some ⟨vb, vo, none⟩)) ∧ Sets w w' vb vo R := by
  obtain ⟨Lv, hL, _⟩ := hv
  exact mul_fe' vb vo ab ao bb bo x y _ w hL ha hb R hR

end Go.Proofs.YtmabidcocdflkaaDoor
