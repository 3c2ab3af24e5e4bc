/- Parts of the proof: Multiply. Invert. Pow22523. Absolute. SqrtRatio. The field's functions over values of the field. impl. impl. impl. impl. impl. impl. impl. impl. impl. impl. impl. impl. impl. impl. impl. impl. What the reference and the package compute of points, in numbers. The reference's power. The reference's element. element under a name. The reference's inverse. The reference's opposite, FieldNegate, FieldZero, FieldOne. spec. -/
import Derived.StillTailTactics
import Derived.Test.YtemgflkecflhmaaDoorKHS8
import Derived.Test.YtemgflkecflhmaaDoorKHUM
import Derived.Test.YtemgflkecflhmaaDoorKHUN
import Derived.Test.YtemgflkecflhmaaDoorKHUS
import Derived.Test.YtemgflkecflhmaaDoorKHUSW
import Derived.Test.YtemgflkecflhmaaDoorKHUSe
import Derived.Test.YtemgflkecflhmaaDoorKL0
import Derived.Test.YtemgflkecflhmaaDoorKL1
import Derived.Test.YtemgflkecflhmaaDoorKL2
set_option maxRecDepth 4000
set_option linter.unusedSimpArgs false
set_option linter.unusedVariables false
namespace Go.Proofs.YtemgflkecflhmaaDoor
section
open Go.RowKit

theorem feMul_fn (vb vo ab ao bb bo a0 a1 a2 a3 a4 b0 b1 b2 b3 b4 : Nat) (vs : Nat → Value) (ba0 : a0 ≤ 2252074691592191) (ba1 : a1 ≤ 2252074691592191) (ba2 : a2 ≤ 2252074691592191) (ba3 : a3 ≤ 2252074691592191) (ba4 : a4 ≤ 2252074691592191) (bb0 : b0 ≤ 2252074691592191) (bb1 : b1 ≤ 2252074691592191) (bb2 : b2 ≤ 2252074691592191) (bb3 : b3 ≤ 2252074691592191) (bb4 : b4 ≤ 2252074691592191) (KK : L5) (hKK : Hid (KK = ⟨a0 * b0 + 19 * (a1 * b4) + 19 * (a2 * b3) + 19 * (a3 * b2) + 19 * (a4 * b1), a0 * b1 + a1 * b0 + 19 * (a2 * b4) + 19 * (a3 * b3) + 19 * (a4 * b2), a0 * b2 + a1 * b1 + a2 * b0 + 19 * (a3 * b4) + 19 * (a4 * b3), a0 * b3 + a1 * b2 + a2 * b1 + a3 * b0 + 19 * (a4 * b4), a0 * b4 + a1 * b3 + a2 * b2 + a3 * b1 + a4 * b0⟩)) (w : World)
    (hv : Row w vb vo 5 vs) (hA : El w ab ao ⟨a0, a1, a2, a3, a4⟩) (hB : El w bb bo ⟨b0, b1, b2, b3, b4⟩) :
    Calls Tryd.prog 50 #[.pointer (some ⟨vb, vo, none⟩), .pointer (some ⟨ab, ao, none⟩), .pointer (some ⟨bb, bo, none⟩)] w fun e w' => e = .returned (.tuple #[]) ∧ Wr w w' vb vo 5 (limbV (cpL (cpL KK))) := by
  have HV := Lib.hid hv; have HA := Lib.hid hA; have HB := Lib.hid hB; clear hv hA hB
  go_enter Tryd.func50, Tryd.ntmps50
  go_wp2_with fail
  refine (feMul_raw vb vo ab ao bb bo a0 a1 a2 a3 a4 b0 b1 b2 b3 b4 vs ba0 ba1 ba2 ba3 ba4 bb0 bb1 bb2 bb3 bb4 KK hKK _ HV.out (El.c0 HA.out) (El.c1 HA.out) (El.c2 HA.out) (El.c3 HA.out) (El.c4 HA.out) (El.c0 HB.out) (El.c1 HB.out) (El.c2 HB.out) (El.c3 HB.out) (El.c4 HB.out)).mono ?_
  rintro e w1 ⟨rfl, hw⟩
  go_wp2
  go_end0
  exact ⟨rfl, hw⟩


theorem col_bd (a b M N : Nat) (ha : a ≤ M) (hb : b ≤ N) : a * b ≤ M * N := Nat.mul_le_mul ha hb
theorem cp2_bd (V0 V1 V2 V3 V4 : Nat) (h0 : V0 ≤ 390531712071274790018052217897037) (h1 : V1 ≤ 390531712071274790018052217897037) (h2 : V2 ≤ 390531712071274790018052217897037) (h3 : V3 ≤ 390531712071274790018052217897037) (h4 : V4 ≤ 390531712071274790018052217897037) : Bd (cpL (cpL ⟨V0, V1, V2, V3, V4⟩)) := by
  refine cpL_bd _ ?_
  unfold W64 cpL
  simp only
  omega
theorem mul_bd (a0 a1 a2 a3 a4 b0 b1 b2 b3 b4 : Nat) (ha0 : a0 ≤ 2252074691592191) (ha1 : a1 ≤ 2252074691592191) (ha2 : a2 ≤ 2252074691592191) (ha3 : a3 ≤ 2252074691592191) (ha4 : a4 ≤ 2252074691592191) (hb0 : b0 ≤ 2252074691592191) (hb1 : b1 ≤ 2252074691592191) (hb2 : b2 ≤ 2252074691592191) (hb3 : b3 ≤ 2252074691592191) (hb4 : b4 ≤ 2252074691592191) : Bd (cpL (cpL ⟨a0 * b0 + 19 * (a1 * b4) + 19 * (a2 * b3) + 19 * (a3 * b2) + 19 * (a4 * b1), a0 * b1 + a1 * b0 + 19 * (a2 * b4) + 19 * (a3 * b3) + 19 * (a4 * b2), a0 * b2 + a1 * b1 + a2 * b0 + 19 * (a3 * b4) + 19 * (a4 * b3), a0 * b3 + a1 * b2 + a2 * b1 + a3 * b0 + 19 * (a4 * b4), a0 * b4 + a1 * b3 + a2 * b2 + a3 * b1 + a4 * b0⟩)) := by
  have p00 := col_bd _ _ _ _ ha0 hb0
  have p01 := col_bd _ _ _ _ ha0 hb1
  have p02 := col_bd _ _ _ _ ha0 hb2
  have p03 := col_bd _ _ _ _ ha0 hb3
  have p04 := col_bd _ _ _ _ ha0 hb4
  have p10 := col_bd _ _ _ _ ha1 hb0
  have p11 := col_bd _ _ _ _ ha1 hb1
  have p12 := col_bd _ _ _ _ ha1 hb2
  have p13 := col_bd _ _ _ _ ha1 hb3
  have p14 := col_bd _ _ _ _ ha1 hb4
  have p20 := col_bd _ _ _ _ ha2 hb0
  have p21 := col_bd _ _ _ _ ha2 hb1
  have p22 := col_bd _ _ _ _ ha2 hb2
  have p23 := col_bd _ _ _ _ ha2 hb3
  have p24 := col_bd _ _ _ _ ha2 hb4
  have p30 := col_bd _ _ _ _ ha3 hb0
  have p31 := col_bd _ _ _ _ ha3 hb1
  have p32 := col_bd _ _ _ _ ha3 hb2
  have p33 := col_bd _ _ _ _ ha3 hb3
  have p34 := col_bd _ _ _ _ ha3 hb4
  have p40 := col_bd _ _ _ _ ha4 hb0
  have p41 := col_bd _ _ _ _ ha4 hb1
  have p42 := col_bd _ _ _ _ ha4 hb2
  have p43 := col_bd _ _ _ _ ha4 hb3
  have p44 := col_bd _ _ _ _ ha4 hb4
  generalize a0 * b0 = q00 at *
  generalize a0 * b1 = q01 at *
  generalize a0 * b2 = q02 at *
  generalize a0 * b3 = q03 at *
  generalize a0 * b4 = q04 at *
  generalize a1 * b0 = q10 at *
  generalize a1 * b1 = q11 at *
  generalize a1 * b2 = q12 at *
  generalize a1 * b3 = q13 at *
  generalize a1 * b4 = q14 at *
  generalize a2 * b0 = q20 at *
  generalize a2 * b1 = q21 at *
  generalize a2 * b2 = q22 at *
  generalize a2 * b3 = q23 at *
  generalize a2 * b4 = q24 at *
  generalize a3 * b0 = q30 at *
  generalize a3 * b1 = q31 at *
  generalize a3 * b2 = q32 at *
  generalize a3 * b3 = q33 at *
  generalize a3 * b4 = q34 at *
  generalize a4 * b0 = q40 at *
  generalize a4 * b1 = q41 at *
  generalize a4 * b2 = q42 at *
  generalize a4 * b3 = q43 at *
  generalize a4 * b4 = q44 at *
  refine cp2_bd _ _ _ _ _ ?_ ?_ ?_ ?_ ?_ <;> omega
set_option maxHeartbeats 1000000 in
theorem mul_fe' (vb vo ab ao bb bo x y : Nat) (vs : Nat → Value) (w : World) (hL : Row w vb vo 5 vs) (ha : Fe w ab ao x) (hb : Fe w bb bo y) (R : Nat) (hR : Hid (R = x * y % pF)) :
    Calls Tryd.prog 20 #[.pointer (some ⟨vb, vo, none⟩), .pointer (some ⟨ab, ao, none⟩), .pointer (some ⟨bb, bo, none⟩)] w fun e w' => e = .returned (.pointer (some ⟨vb, vo, none⟩)) ∧ Sets w w' vb vo R := by
  obtain ⟨⟨a0, a1, a2, a3, a4⟩, hA, ⟨p0, p1, p2, p3, p4⟩, hx⟩ := ha
  obtain ⟨⟨b0, b1, b2, b3, b4⟩, hB, ⟨q0, q1, q2, q3, q4⟩, hy⟩ := hb
  simp only at p0 p1 p2 p3 p4 q0 q1 q2 q3 q4
  have hbd := Lib.hid (mul_bd a0 a1 a2 a3 a4 b0 b1 b2 b3 b4 (by omega) (by omega) (by omega) (by omega) (by omega) (by omega) (by omega) (by omega) (by omega) (by omega))
  have hval : Hid (val5 (cpL (cpL ⟨a0 * b0 + 19 * (a1 * b4) + 19 * (a2 * b3) + 19 * (a3 * b2) + 19 * (a4 * b1), a0 * b1 + a1 * b0 + 19 * (a2 * b4) + 19 * (a3 * b3) + 19 * (a4 * b2), a0 * b2 + a1 * b1 + a2 * b0 + 19 * (a3 * b4) + 19 * (a4 * b3), a0 * b3 + a1 * b2 + a2 * b1 + a3 * b0 + 19 * (a4 * b4), a0 * b4 + a1 * b3 + a2 * b2 + a3 * b1 + a4 * b0⟩)) % pF = R) := Lib.hid (by
    rw [cpL_mod, cpL_mod, mul_val, hR.out, ← hx, ← hy, ← Nat.mul_mod])
  have HL := Lib.hid hL; have HA := Lib.hid hA; have HB := Lib.hid hB; clear hL hA hB hx hy hR
  go_enter Tryd.func20, Tryd.ntmps20
  go_wp2_with fail
  refine (feMul_fn vb vo ab ao bb bo a0 a1 a2 a3 a4 b0 b1 b2 b3 b4 vs (by omega) (by omega) (by omega) (by omega) (by omega) (by omega) (by omega) (by omega) (by omega) (by omega) _ rfl _ HL.out HA.out HB.out).mono ?_
  rintro e w1 ⟨rfl, hw⟩
  go_wp2
  go_ret
  exact ⟨rfl, _, hbd.out, hval.out, hw⟩
theorem mul_fe (vb vo ab ao bb bo x y v0 : Nat) (w : World) (hv : Fe w vb vo v0) (ha : Fe w ab ao x) (hb : Fe w bb bo y) (R : Nat) (hR : Hid (R = x * y % pF)) :
    Calls Tryd.prog 20 #[.pointer (some ⟨vb, vo, none⟩), .pointer (some ⟨ab, ao, none⟩), .pointer (some ⟨bb, bo, none⟩)] w fun e w' => e = .returned (.pointer (some ⟨vb, vo, none⟩)) ∧ Sets w w' vb vo R := by
  obtain ⟨Lv, hL, _⟩ := hv
  exact mul_fe' vb vo ab ao bb bo x y _ w hL ha hb R hR
end
section
open Go.RowKit

set_option maxHeartbeats 4000000 in
theorem invert_fe (vb vo ab ao x v0 : Nat) (w : World) (hv : Fe w vb vo v0) (ha : Fe w ab ao x) :
    Calls Tryd.prog 24 #[.pointer (some ⟨vb, vo, none⟩), .pointer (some ⟨ab, ao, none⟩)] w fun e w' => e = .returned (.pointer (some ⟨vb, vo, none⟩)) ∧ Sets w w' vb vo (xp x 57896044618658097711785492504343953926634992332820282019728792003956564819947) := by
  have hvl := hv.lt; have hal := ha.lt
  have hxs := ha.small
  rw [← xp_one x hxs] at ha
  clear hxs
  go_enter Tryd.func24, Tryd.ntmps24
  go_wp2_with fail
  refine (square_fe (w.heap.size + 1 + 1) 0 ab ao _ _ _ (Fe.alloc (Fe.alloc (Fe.newz_at _ _ (by (try simp only [alloc_size, setRow_size]))) _) _) (Fe.alloc (Fe.alloc (Fe.alloc (Fe.alloc (Fe.alloc ha _) _) _) _) _) (xp x 2) (Lib.hid (xp_to x 1 1 2 rfl))).mono ?_
  rintro e w1 ⟨rfl, hC1⟩
  have hs1 : w.heap.size + 1 + 1 + 1 + 1 + 1 ≤ w1.heap.size := by have := hC1.size; (try simp only [alloc_size, setRow_size] at this); omega
  replace hv : Fe w1 (vb) (vo) (v0) := (Sets.others hC1 (Fe.alloc (Fe.alloc (Fe.alloc (Fe.alloc (Fe.alloc hv _) _) _) _) _) (by omega))
  replace ha : Fe w1 (ab) (ao) ((xp x 1)) := (Sets.others hC1 (Fe.alloc (Fe.alloc (Fe.alloc (Fe.alloc (Fe.alloc ha _) _) _) _) _) (by omega))
  replace h5 : Fe w1 (w.heap.size) (0) (0) := (Sets.others hC1 (Fe.alloc (Fe.alloc (Fe.alloc (Fe.alloc (Fe.newz_at _ _ rfl) _) _) _) _) (by omega))
  replace h6 : Fe w1 (w.heap.size + 1) (0) (0) := (Sets.others hC1 (Fe.alloc (Fe.alloc (Fe.alloc (Fe.newz_at _ _ (by (try simp only [alloc_size, setRow_size]))) _) _) _) (by omega))
  replace h8 : Fe w1 (w.heap.size + 1 + 1 + 1) (0) (0) := (Sets.others hC1 (Fe.alloc (Fe.newz_at _ _ (by (try simp only [alloc_size, setRow_size]))) _) (by omega))
  replace h9 : Fe w1 (w.heap.size + 1 + 1 + 1 + 1) (0) (0) := (Sets.others hC1 (Fe.newz_at _ _ (by (try simp only [alloc_size, setRow_size]))) (by omega))
  replace h7 : Fe w1 (w.heap.size + 1 + 1) (0) ((xp x 2)) := (Sets.fe' hC1 (Fe.alloc (Fe.alloc (Fe.newz_at _ _ (by (try simp only [alloc_size, setRow_size]))) _) _))
  have hBw1 : Hid (Below w.heap.size w w1) := Lib.hid ((below_alloc (below_alloc (below_alloc (below_alloc (below_alloc (Below.refl _ w) _) _) _) _) _).trans (hC1.below (by omega) (below_alloc (below_alloc (below_alloc (below_alloc (below_alloc (Below.refl _ w) _) _) _) _) _).size))
  clear hC1
  go_wp2_with fail
  refine (square_fe (w.heap.size + 1 + 1 + 1 + 1) 0 (w.heap.size + 1 + 1) 0 _ _ _ h9 h7 (xp x 4) (Lib.hid (xp_to x 2 2 4 rfl))).mono ?_
  rintro e w2 ⟨rfl, hC2⟩
  have hs2 : w1.heap.size ≤ w2.heap.size := by have := hC2.size; (try simp only [alloc_size, setRow_size] at this); omega
  replace hv : Fe w2 (vb) (vo) (v0) := (Sets.others hC2 hv (by omega))
  replace ha : Fe w2 (ab) (ao) ((xp x 1)) := (Sets.others hC2 ha (by omega))
  replace h5 : Fe w2 (w.heap.size) (0) (0) := (Sets.others hC2 h5 (by omega))
  replace h6 : Fe w2 (w.heap.size + 1) (0) (0) := (Sets.others hC2 h6 (by omega))
  replace h8 : Fe w2 (w.heap.size + 1 + 1 + 1) (0) (0) := (Sets.others hC2 h8 (by omega))
  replace h7 : Fe w2 (w.heap.size + 1 + 1) (0) ((xp x 2)) := (Sets.others hC2 h7 (by omega))
  replace h9 : Fe w2 (w.heap.size + 1 + 1 + 1 + 1) (0) ((xp x 4)) := (Sets.fe' hC2 h9)
  have hBw2 : Hid (Below w.heap.size w w2) := Lib.hid (hBw1.out.trans (hC2.below (by omega) hBw1.out.size))
  clear hC2
  go_wp2_with fail
  refine (square_fe (w.heap.size + 1 + 1 + 1 + 1) 0 (w.heap.size + 1 + 1 + 1 + 1) 0 _ _ _ h9 h9 (xp x 8) (Lib.hid (xp_to x 4 4 8 rfl))).mono ?_
  rintro e w3 ⟨rfl, hC3⟩
  have hs3 : w2.heap.size ≤ w3.heap.size := by have := hC3.size; (try simp only [alloc_size, setRow_size] at this); omega
  replace hv : Fe w3 (vb) (vo) (v0) := (Sets.others hC3 hv (by omega))
  replace ha : Fe w3 (ab) (ao) ((xp x 1)) := (Sets.others hC3 ha (by omega))
  replace h5 : Fe w3 (w.heap.size) (0) (0) := (Sets.others hC3 h5 (by omega))
  replace h6 : Fe w3 (w.heap.size + 1) (0) (0) := (Sets.others hC3 h6 (by omega))
  replace h8 : Fe w3 (w.heap.size + 1 + 1 + 1) (0) (0) := (Sets.others hC3 h8 (by omega))
  replace h7 : Fe w3 (w.heap.size + 1 + 1) (0) ((xp x 2)) := (Sets.others hC3 h7 (by omega))
  replace h9 : Fe w3 (w.heap.size + 1 + 1 + 1 + 1) (0) ((xp x 8)) := (Sets.fe' hC3 h9)
  have hBw3 : Hid (Below w.heap.size w w3) := Lib.hid (hBw2.out.trans (hC3.below (by omega) hBw2.out.size))
  clear hC3
  go_wp2_with fail
  refine (mul_fe (w.heap.size + 1 + 1 + 1) 0 (w.heap.size + 1 + 1 + 1 + 1) 0 ab ao _ _ _ _ h8 h9 ha (xp x 9) (Lib.hid (xp_to x 8 1 9 rfl))).mono ?_
  rintro e w4 ⟨rfl, hC4⟩
  have hs4 : w3.heap.size ≤ w4.heap.size := by have := hC4.size; (try simp only [alloc_size, setRow_size] at this); omega
  replace hv : Fe w4 (vb) (vo) (v0) := (Sets.others hC4 hv (by omega))
  replace ha : Fe w4 (ab) (ao) ((xp x 1)) := (Sets.others hC4 ha (by omega))
  replace h5 : Fe w4 (w.heap.size) (0) (0) := (Sets.others hC4 h5 (by omega))
  replace h6 : Fe w4 (w.heap.size + 1) (0) (0) := (Sets.others hC4 h6 (by omega))
  replace h7 : Fe w4 (w.heap.size + 1 + 1) (0) ((xp x 2)) := (Sets.others hC4 h7 (by omega))
  replace h9 : Fe w4 (w.heap.size + 1 + 1 + 1 + 1) (0) ((xp x 8)) := (Sets.others hC4 h9 (by omega))
  replace h8 : Fe w4 (w.heap.size + 1 + 1 + 1) (0) ((xp x 9)) := (Sets.fe' hC4 h8)
  have hBw4 : Hid (Below w.heap.size w w4) := Lib.hid (hBw3.out.trans (hC4.below (by omega) hBw3.out.size))
  clear hC4
  go_wp2_with fail
  refine (mul_fe (w.heap.size) 0 (w.heap.size + 1 + 1 + 1) 0 (w.heap.size + 1 + 1) 0 _ _ _ _ h5 h8 h7 (xp x 11) (Lib.hid (xp_to x 9 2 11 rfl))).mono ?_
  rintro e w5 ⟨rfl, hC5⟩
  have hs5 : w4.heap.size ≤ w5.heap.size := by have := hC5.size; (try simp only [alloc_size, setRow_size] at this); omega
  replace hv : Fe w5 (vb) (vo) (v0) := (Sets.others hC5 hv (by omega))
  replace ha : Fe w5 (ab) (ao) ((xp x 1)) := (Sets.others hC5 ha (by omega))
  replace h6 : Fe w5 (w.heap.size + 1) (0) (0) := (Sets.others hC5 h6 (by omega))
  replace h7 : Fe w5 (w.heap.size + 1 + 1) (0) ((xp x 2)) := (Sets.others hC5 h7 (by omega))
  replace h9 : Fe w5 (w.heap.size + 1 + 1 + 1 + 1) (0) ((xp x 8)) := (Sets.others hC5 h9 (by omega))
  replace h8 : Fe w5 (w.heap.size + 1 + 1 + 1) (0) ((xp x 9)) := (Sets.others hC5 h8 (by omega))
  replace h5 : Fe w5 (w.heap.size) (0) ((xp x 11)) := (Sets.fe' hC5 h5)
  have hBw5 : Hid (Below w.heap.size w w5) := Lib.hid (hBw4.out.trans (hC5.below (by omega) hBw4.out.size))
  clear hC5
  go_wp2_with fail
  refine (square_fe (w.heap.size + 1 + 1 + 1 + 1) 0 (w.heap.size) 0 _ _ _ h9 h5 (xp x 22) (Lib.hid (xp_to x 11 11 22 rfl))).mono ?_
  rintro e w6 ⟨rfl, hC6⟩
  have hs6 : w5.heap.size ≤ w6.heap.size := by have := hC6.size; (try simp only [alloc_size, setRow_size] at this); omega
  replace hv : Fe w6 (vb) (vo) (v0) := (Sets.others hC6 hv (by omega))
  replace ha : Fe w6 (ab) (ao) ((xp x 1)) := (Sets.others hC6 ha (by omega))
  replace h6 : Fe w6 (w.heap.size + 1) (0) (0) := (Sets.others hC6 h6 (by omega))
  replace h7 : Fe w6 (w.heap.size + 1 + 1) (0) ((xp x 2)) := (Sets.others hC6 h7 (by omega))
  replace h8 : Fe w6 (w.heap.size + 1 + 1 + 1) (0) ((xp x 9)) := (Sets.others hC6 h8 (by omega))
  replace h5 : Fe w6 (w.heap.size) (0) ((xp x 11)) := (Sets.others hC6 h5 (by omega))
  replace h9 : Fe w6 (w.heap.size + 1 + 1 + 1 + 1) (0) ((xp x 22)) := (Sets.fe' hC6 h9)
  have hBw6 : Hid (Below w.heap.size w w6) := Lib.hid (hBw5.out.trans (hC6.below (by omega) hBw5.out.size))
  clear hC6
  go_wp2_with fail
  refine (mul_fe (w.heap.size + 1) 0 (w.heap.size + 1 + 1 + 1 + 1) 0 (w.heap.size + 1 + 1 + 1) 0 _ _ _ _ h6 h9 h8 (xp x 31) (Lib.hid (xp_to x 22 9 31 rfl))).mono ?_
  rintro e w7 ⟨rfl, hC7⟩
  have hs7 : w6.heap.size ≤ w7.heap.size := by have := hC7.size; (try simp only [alloc_size, setRow_size] at this); omega
  replace hv : Fe w7 (vb) (vo) (v0) := (Sets.others hC7 hv (by omega))
  replace ha : Fe w7 (ab) (ao) ((xp x 1)) := (Sets.others hC7 ha (by omega))
  replace h7 : Fe w7 (w.heap.size + 1 + 1) (0) ((xp x 2)) := (Sets.others hC7 h7 (by omega))
  replace h8 : Fe w7 (w.heap.size + 1 + 1 + 1) (0) ((xp x 9)) := (Sets.others hC7 h8 (by omega))
  replace h5 : Fe w7 (w.heap.size) (0) ((xp x 11)) := (Sets.others hC7 h5 (by omega))
  replace h9 : Fe w7 (w.heap.size + 1 + 1 + 1 + 1) (0) ((xp x 22)) := (Sets.others hC7 h9 (by omega))
  replace h6 : Fe w7 (w.heap.size + 1) (0) ((xp x 31)) := (Sets.fe' hC7 h6)
  have hBw7 : Hid (Below w.heap.size w w7) := Lib.hid (hBw6.out.trans (hC7.below (by omega) hBw6.out.size))
  clear hC7
  go_wp2_with fail
  refine (squareN_fe (w.heap.size + 1 + 1 + 1 + 1) 0 (w.heap.size + 1) 0 _ _ 5 (by omega) _ h9 h6 (xp x 992) (Lib.hid (xp_of x 31 (2 ^ 5) 992 rfl))).mono ?_
  rintro e w8 ⟨rfl, hC8⟩
  have hs8 : w7.heap.size ≤ w8.heap.size := by have := hC8.size; (try simp only [alloc_size, setRow_size] at this); omega
  replace hv : Fe w8 (vb) (vo) (v0) := (Sets.others hC8 hv (by omega))
  replace ha : Fe w8 (ab) (ao) ((xp x 1)) := (Sets.others hC8 ha (by omega))
  replace h7 : Fe w8 (w.heap.size + 1 + 1) (0) ((xp x 2)) := (Sets.others hC8 h7 (by omega))
  replace h8 : Fe w8 (w.heap.size + 1 + 1 + 1) (0) ((xp x 9)) := (Sets.others hC8 h8 (by omega))
  replace h5 : Fe w8 (w.heap.size) (0) ((xp x 11)) := (Sets.others hC8 h5 (by omega))
  replace h6 : Fe w8 (w.heap.size + 1) (0) ((xp x 31)) := (Sets.others hC8 h6 (by omega))
  replace h9 : Fe w8 (w.heap.size + 1 + 1 + 1 + 1) (0) ((xp x 992)) := (Sets.fe' hC8 h9)
  have hBw8 : Hid (Below w.heap.size w w8) := Lib.hid (hBw7.out.trans (hC8.below (by omega) hBw7.out.size))
  clear hC8
  go_wp2_with fail
  refine (mul_fe (w.heap.size + 1 + 1 + 1) 0 (w.heap.size + 1 + 1 + 1 + 1) 0 (w.heap.size + 1) 0 _ _ _ _ h8 h9 h6 (xp x 1023) (Lib.hid (xp_to x 992 31 1023 rfl))).mono ?_
  rintro e w9 ⟨rfl, hC9⟩
  have hs9 : w8.heap.size ≤ w9.heap.size := by have := hC9.size; (try simp only [alloc_size, setRow_size] at this); omega
  replace hv : Fe w9 (vb) (vo) (v0) := (Sets.others hC9 hv (by omega))
  replace ha : Fe w9 (ab) (ao) ((xp x 1)) := (Sets.others hC9 ha (by omega))
  replace h7 : Fe w9 (w.heap.size + 1 + 1) (0) ((xp x 2)) := (Sets.others hC9 h7 (by omega))
  replace h5 : Fe w9 (w.heap.size) (0) ((xp x 11)) := (Sets.others hC9 h5 (by omega))
  replace h6 : Fe w9 (w.heap.size + 1) (0) ((xp x 31)) := (Sets.others hC9 h6 (by omega))
  replace h9 : Fe w9 (w.heap.size + 1 + 1 + 1 + 1) (0) ((xp x 992)) := (Sets.others hC9 h9 (by omega))
  replace h8 : Fe w9 (w.heap.size + 1 + 1 + 1) (0) ((xp x 1023)) := (Sets.fe' hC9 h8)
  have hBw9 : Hid (Below w.heap.size w w9) := Lib.hid (hBw8.out.trans (hC9.below (by omega) hBw8.out.size))
  clear hC9
  go_wp2_with fail
  refine (squareN_fe (w.heap.size + 1 + 1 + 1 + 1) 0 (w.heap.size + 1 + 1 + 1) 0 _ _ 5 (by omega) _ h9 h8 (xp x 32736) (Lib.hid (xp_of x 1023 (2 ^ 5) 32736 rfl))).mono ?_
  rintro e w10 ⟨rfl, hC10⟩
  have hs10 : w9.heap.size ≤ w10.heap.size := by have := hC10.size; (try simp only [alloc_size, setRow_size] at this); omega
  replace hv : Fe w10 (vb) (vo) (v0) := (Sets.others hC10 hv (by omega))
  replace ha : Fe w10 (ab) (ao) ((xp x 1)) := (Sets.others hC10 ha (by omega))
  replace h7 : Fe w10 (w.heap.size + 1 + 1) (0) ((xp x 2)) := (Sets.others hC10 h7 (by omega))
  replace h5 : Fe w10 (w.heap.size) (0) ((xp x 11)) := (Sets.others hC10 h5 (by omega))
  replace h6 : Fe w10 (w.heap.size + 1) (0) ((xp x 31)) := (Sets.others hC10 h6 (by omega))
  replace h8 : Fe w10 (w.heap.size + 1 + 1 + 1) (0) ((xp x 1023)) := (Sets.others hC10 h8 (by omega))
  replace h9 : Fe w10 (w.heap.size + 1 + 1 + 1 + 1) (0) ((xp x 32736)) := (Sets.fe' hC10 h9)
  have hBw10 : Hid (Below w.heap.size w w10) := Lib.hid (hBw9.out.trans (hC10.below (by omega) hBw9.out.size))
  clear hC10
  go_wp2_with fail
  refine (mul_fe (w.heap.size + 1) 0 (w.heap.size + 1 + 1 + 1 + 1) 0 (w.heap.size + 1) 0 _ _ _ _ h6 h9 h6 (xp x 32767) (Lib.hid (xp_to x 32736 31 32767 rfl))).mono ?_
  rintro e w11 ⟨rfl, hC11⟩
  have hs11 : w10.heap.size ≤ w11.heap.size := by have := hC11.size; (try simp only [alloc_size, setRow_size] at this); omega
  replace hv : Fe w11 (vb) (vo) (v0) := (Sets.others hC11 hv (by omega))
  replace ha : Fe w11 (ab) (ao) ((xp x 1)) := (Sets.others hC11 ha (by omega))
  replace h7 : Fe w11 (w.heap.size + 1 + 1) (0) ((xp x 2)) := (Sets.others hC11 h7 (by omega))
  replace h5 : Fe w11 (w.heap.size) (0) ((xp x 11)) := (Sets.others hC11 h5 (by omega))
  replace h8 : Fe w11 (w.heap.size + 1 + 1 + 1) (0) ((xp x 1023)) := (Sets.others hC11 h8 (by omega))
  replace h9 : Fe w11 (w.heap.size + 1 + 1 + 1 + 1) (0) ((xp x 32736)) := (Sets.others hC11 h9 (by omega))
  replace h6 : Fe w11 (w.heap.size + 1) (0) ((xp x 32767)) := (Sets.fe' hC11 h6)
  have hBw11 : Hid (Below w.heap.size w w11) := Lib.hid (hBw10.out.trans (hC11.below (by omega) hBw10.out.size))
  clear hC11
  go_wp2_with fail
  refine (squareN_fe (w.heap.size + 1 + 1 + 1 + 1) 0 (w.heap.size + 1) 0 _ _ 15 (by omega) _ h9 h6 (xp x 1073709056) (Lib.hid (xp_of x 32767 (2 ^ 15) 1073709056 rfl))).mono ?_
  rintro e w12 ⟨rfl, hC12⟩
  have hs12 : w11.heap.size ≤ w12.heap.size := by have := hC12.size; (try simp only [alloc_size, setRow_size] at this); omega
  replace hv : Fe w12 (vb) (vo) (v0) := (Sets.others hC12 hv (by omega))
  replace ha : Fe w12 (ab) (ao) ((xp x 1)) := (Sets.others hC12 ha (by omega))
  replace h7 : Fe w12 (w.heap.size + 1 + 1) (0) ((xp x 2)) := (Sets.others hC12 h7 (by omega))
  replace h5 : Fe w12 (w.heap.size) (0) ((xp x 11)) := (Sets.others hC12 h5 (by omega))
  replace h8 : Fe w12 (w.heap.size + 1 + 1 + 1) (0) ((xp x 1023)) := (Sets.others hC12 h8 (by omega))
  replace h6 : Fe w12 (w.heap.size + 1) (0) ((xp x 32767)) := (Sets.others hC12 h6 (by omega))
  replace h9 : Fe w12 (w.heap.size + 1 + 1 + 1 + 1) (0) ((xp x 1073709056)) := (Sets.fe' hC12 h9)
  have hBw12 : Hid (Below w.heap.size w w12) := Lib.hid (hBw11.out.trans (hC12.below (by omega) hBw11.out.size))
  clear hC12
  go_wp2_with fail
  refine (mul_fe (w.heap.size + 1 + 1) 0 (w.heap.size + 1 + 1 + 1 + 1) 0 (w.heap.size + 1) 0 _ _ _ _ h7 h9 h6 (xp x 1073741823) (Lib.hid (xp_to x 1073709056 32767 1073741823 rfl))).mono ?_
  rintro e w13 ⟨rfl, hC13⟩
  have hs13 : w12.heap.size ≤ w13.heap.size := by have := hC13.size; (try simp only [alloc_size, setRow_size] at this); omega
  replace hv : Fe w13 (vb) (vo) (v0) := (Sets.others hC13 hv (by omega))
  replace ha : Fe w13 (ab) (ao) ((xp x 1)) := (Sets.others hC13 ha (by omega))
  replace h5 : Fe w13 (w.heap.size) (0) ((xp x 11)) := (Sets.others hC13 h5 (by omega))
  replace h8 : Fe w13 (w.heap.size + 1 + 1 + 1) (0) ((xp x 1023)) := (Sets.others hC13 h8 (by omega))
  replace h6 : Fe w13 (w.heap.size + 1) (0) ((xp x 32767)) := (Sets.others hC13 h6 (by omega))
  replace h9 : Fe w13 (w.heap.size + 1 + 1 + 1 + 1) (0) ((xp x 1073709056)) := (Sets.others hC13 h9 (by omega))
  replace h7 : Fe w13 (w.heap.size + 1 + 1) (0) ((xp x 1073741823)) := (Sets.fe' hC13 h7)
  have hBw13 : Hid (Below w.heap.size w w13) := Lib.hid (hBw12.out.trans (hC13.below (by omega) hBw12.out.size))
  clear hC13
  go_wp2_with fail
  refine (squareN_fe (w.heap.size + 1 + 1 + 1 + 1) 0 (w.heap.size + 1 + 1) 0 _ _ 30 (by omega) _ h9 h7 (xp x 1152921503533105152) (Lib.hid (xp_of x 1073741823 (2 ^ 30) 1152921503533105152 rfl))).mono ?_
  rintro e w14 ⟨rfl, hC14⟩
  have hs14 : w13.heap.size ≤ w14.heap.size := by have := hC14.size; (try simp only [alloc_size, setRow_size] at this); omega
  replace hv : Fe w14 (vb) (vo) (v0) := (Sets.others hC14 hv (by omega))
  replace ha : Fe w14 (ab) (ao) ((xp x 1)) := (Sets.others hC14 ha (by omega))
  replace h5 : Fe w14 (w.heap.size) (0) ((xp x 11)) := (Sets.others hC14 h5 (by omega))
  replace h8 : Fe w14 (w.heap.size + 1 + 1 + 1) (0) ((xp x 1023)) := (Sets.others hC14 h8 (by omega))
  replace h6 : Fe w14 (w.heap.size + 1) (0) ((xp x 32767)) := (Sets.others hC14 h6 (by omega))
  replace h7 : Fe w14 (w.heap.size + 1 + 1) (0) ((xp x 1073741823)) := (Sets.others hC14 h7 (by omega))
  replace h9 : Fe w14 (w.heap.size + 1 + 1 + 1 + 1) (0) ((xp x 1152921503533105152)) := (Sets.fe' hC14 h9)
  have hBw14 : Hid (Below w.heap.size w w14) := Lib.hid (hBw13.out.trans (hC14.below (by omega) hBw13.out.size))
  clear hC14
  go_wp2_with fail
  refine (mul_fe (w.heap.size + 1) 0 (w.heap.size + 1 + 1 + 1 + 1) 0 (w.heap.size + 1 + 1) 0 _ _ _ _ h6 h9 h7 (xp x 1152921504606846975) (Lib.hid (xp_to x 1152921503533105152 1073741823 1152921504606846975 rfl))).mono ?_
  rintro e w15 ⟨rfl, hC15⟩
  have hs15 : w14.heap.size ≤ w15.heap.size := by have := hC15.size; (try simp only [alloc_size, setRow_size] at this); omega
  replace hv : Fe w15 (vb) (vo) (v0) := (Sets.others hC15 hv (by omega))
  replace ha : Fe w15 (ab) (ao) ((xp x 1)) := (Sets.others hC15 ha (by omega))
  replace h5 : Fe w15 (w.heap.size) (0) ((xp x 11)) := (Sets.others hC15 h5 (by omega))
  replace h8 : Fe w15 (w.heap.size + 1 + 1 + 1) (0) ((xp x 1023)) := (Sets.others hC15 h8 (by omega))
  replace h7 : Fe w15 (w.heap.size + 1 + 1) (0) ((xp x 1073741823)) := (Sets.others hC15 h7 (by omega))
  replace h9 : Fe w15 (w.heap.size + 1 + 1 + 1 + 1) (0) ((xp x 1152921503533105152)) := (Sets.others hC15 h9 (by omega))
  replace h6 : Fe w15 (w.heap.size + 1) (0) ((xp x 1152921504606846975)) := (Sets.fe' hC15 h6)
  have hBw15 : Hid (Below w.heap.size w w15) := Lib.hid (hBw14.out.trans (hC15.below (by omega) hBw14.out.size))
  clear hC15
  go_wp2_with fail
  refine (squareN_fe (w.heap.size + 1 + 1 + 1 + 1) 0 (w.heap.size + 1) 0 _ _ 60 (by omega) _ h9 h6 (xp x 1329227995784915871750885555673497600) (Lib.hid (xp_of x 1152921504606846975 (2 ^ 60) 1329227995784915871750885555673497600 rfl))).mono ?_
  rintro e w16 ⟨rfl, hC16⟩
  have hs16 : w15.heap.size ≤ w16.heap.size := by have := hC16.size; (try simp only [alloc_size, setRow_size] at this); omega
  replace hv : Fe w16 (vb) (vo) (v0) := (Sets.others hC16 hv (by omega))
  replace ha : Fe w16 (ab) (ao) ((xp x 1)) := (Sets.others hC16 ha (by omega))
  replace h5 : Fe w16 (w.heap.size) (0) ((xp x 11)) := (Sets.others hC16 h5 (by omega))
  replace h8 : Fe w16 (w.heap.size + 1 + 1 + 1) (0) ((xp x 1023)) := (Sets.others hC16 h8 (by omega))
  replace h7 : Fe w16 (w.heap.size + 1 + 1) (0) ((xp x 1073741823)) := (Sets.others hC16 h7 (by omega))
  replace h6 : Fe w16 (w.heap.size + 1) (0) ((xp x 1152921504606846975)) := (Sets.others hC16 h6 (by omega))
  replace h9 : Fe w16 (w.heap.size + 1 + 1 + 1 + 1) (0) ((xp x 1329227995784915871750885555673497600)) := (Sets.fe' hC16 h9)
  have hBw16 : Hid (Below w.heap.size w w16) := Lib.hid (hBw15.out.trans (hC16.below (by omega) hBw15.out.size))
  clear hC16
  go_wp2_with fail
  refine (mul_fe (w.heap.size + 1 + 1) 0 (w.heap.size + 1 + 1 + 1 + 1) 0 (w.heap.size + 1) 0 _ _ _ _ h7 h9 h6 (xp x 1329227995784915872903807060280344575) (Lib.hid (xp_to x 1329227995784915871750885555673497600 1152921504606846975 1329227995784915872903807060280344575 rfl))).mono ?_
  rintro e w17 ⟨rfl, hC17⟩
  have hs17 : w16.heap.size ≤ w17.heap.size := by have := hC17.size; (try simp only [alloc_size, setRow_size] at this); omega
  replace hv : Fe w17 (vb) (vo) (v0) := (Sets.others hC17 hv (by omega))
  replace ha : Fe w17 (ab) (ao) ((xp x 1)) := (Sets.others hC17 ha (by omega))
  replace h5 : Fe w17 (w.heap.size) (0) ((xp x 11)) := (Sets.others hC17 h5 (by omega))
  replace h8 : Fe w17 (w.heap.size + 1 + 1 + 1) (0) ((xp x 1023)) := (Sets.others hC17 h8 (by omega))
  replace h6 : Fe w17 (w.heap.size + 1) (0) ((xp x 1152921504606846975)) := (Sets.others hC17 h6 (by omega))
  replace h9 : Fe w17 (w.heap.size + 1 + 1 + 1 + 1) (0) ((xp x 1329227995784915871750885555673497600)) := (Sets.others hC17 h9 (by omega))
  replace h7 : Fe w17 (w.heap.size + 1 + 1) (0) ((xp x 1329227995784915872903807060280344575)) := (Sets.fe' hC17 h7)
  have hBw17 : Hid (Below w.heap.size w w17) := Lib.hid (hBw16.out.trans (hC17.below (by omega) hBw16.out.size))
  clear hC17
  go_wp2_with fail
  refine (squareN_fe (w.heap.size + 1 + 1 + 1 + 1) 0 (w.heap.size + 1 + 1) 0 _ _ 120 (by omega) _ h9 h7 (xp x 1766847064778384329583297500742918514498255901090703085217799141012275200) (Lib.hid (xp_of x 1329227995784915872903807060280344575 (2 ^ 120) 1766847064778384329583297500742918514498255901090703085217799141012275200 rfl))).mono ?_
  rintro e w18 ⟨rfl, hC18⟩
  have hs18 : w17.heap.size ≤ w18.heap.size := by have := hC18.size; (try simp only [alloc_size, setRow_size] at this); omega
  replace hv : Fe w18 (vb) (vo) (v0) := (Sets.others hC18 hv (by omega))
  replace ha : Fe w18 (ab) (ao) ((xp x 1)) := (Sets.others hC18 ha (by omega))
  replace h5 : Fe w18 (w.heap.size) (0) ((xp x 11)) := (Sets.others hC18 h5 (by omega))
  replace h8 : Fe w18 (w.heap.size + 1 + 1 + 1) (0) ((xp x 1023)) := (Sets.others hC18 h8 (by omega))
  replace h6 : Fe w18 (w.heap.size + 1) (0) ((xp x 1152921504606846975)) := (Sets.others hC18 h6 (by omega))
  replace h7 : Fe w18 (w.heap.size + 1 + 1) (0) ((xp x 1329227995784915872903807060280344575)) := (Sets.others hC18 h7 (by omega))
  replace h9 : Fe w18 (w.heap.size + 1 + 1 + 1 + 1) (0) ((xp x 1766847064778384329583297500742918514498255901090703085217799141012275200)) := (Sets.fe' hC18 h9)
  have hBw18 : Hid (Below w.heap.size w w18) := Lib.hid (hBw17.out.trans (hC18.below (by omega) hBw17.out.size))
  clear hC18
  go_wp2_with fail
  refine (mul_fe (w.heap.size + 1 + 1 + 1 + 1) 0 (w.heap.size + 1 + 1 + 1 + 1) 0 (w.heap.size + 1 + 1) 0 _ _ _ _ h9 h9 h7 (xp x 1766847064778384329583297500742918515827483896875618958121606201292619775) (Lib.hid (xp_to x 1766847064778384329583297500742918514498255901090703085217799141012275200 1329227995784915872903807060280344575 1766847064778384329583297500742918515827483896875618958121606201292619775 rfl))).mono ?_
  rintro e w19 ⟨rfl, hC19⟩
  have hs19 : w18.heap.size ≤ w19.heap.size := by have := hC19.size; (try simp only [alloc_size, setRow_size] at this); omega
  replace hv : Fe w19 (vb) (vo) (v0) := (Sets.others hC19 hv (by omega))
  replace ha : Fe w19 (ab) (ao) ((xp x 1)) := (Sets.others hC19 ha (by omega))
  replace h5 : Fe w19 (w.heap.size) (0) ((xp x 11)) := (Sets.others hC19 h5 (by omega))
  replace h8 : Fe w19 (w.heap.size + 1 + 1 + 1) (0) ((xp x 1023)) := (Sets.others hC19 h8 (by omega))
  replace h6 : Fe w19 (w.heap.size + 1) (0) ((xp x 1152921504606846975)) := (Sets.others hC19 h6 (by omega))
  replace h7 : Fe w19 (w.heap.size + 1 + 1) (0) ((xp x 1329227995784915872903807060280344575)) := (Sets.others hC19 h7 (by omega))
  replace h9 : Fe w19 (w.heap.size + 1 + 1 + 1 + 1) (0) ((xp x 1766847064778384329583297500742918515827483896875618958121606201292619775)) := (Sets.fe' hC19 h9)
  have hBw19 : Hid (Below w.heap.size w w19) := Lib.hid (hBw18.out.trans (hC19.below (by omega) hBw18.out.size))
  clear hC19
  go_wp2_with fail
  refine (squareN_fe (w.heap.size + 1 + 1 + 1 + 1) 0 (w.heap.size + 1 + 1 + 1 + 1) 0 _ _ 10 (by omega) _ h9 h9 (xp x 1809251394333065553493296640760748560207343510400633813116524750123642649600) (Lib.hid (xp_of x 1766847064778384329583297500742918515827483896875618958121606201292619775 (2 ^ 10) 1809251394333065553493296640760748560207343510400633813116524750123642649600 rfl))).mono ?_
  rintro e w20 ⟨rfl, hC20⟩
  have hs20 : w19.heap.size ≤ w20.heap.size := by have := hC20.size; (try simp only [alloc_size, setRow_size] at this); omega
  replace hv : Fe w20 (vb) (vo) (v0) := (Sets.others hC20 hv (by omega))
  replace ha : Fe w20 (ab) (ao) ((xp x 1)) := (Sets.others hC20 ha (by omega))
  replace h5 : Fe w20 (w.heap.size) (0) ((xp x 11)) := (Sets.others hC20 h5 (by omega))
  replace h8 : Fe w20 (w.heap.size + 1 + 1 + 1) (0) ((xp x 1023)) := (Sets.others hC20 h8 (by omega))
  replace h6 : Fe w20 (w.heap.size + 1) (0) ((xp x 1152921504606846975)) := (Sets.others hC20 h6 (by omega))
  replace h7 : Fe w20 (w.heap.size + 1 + 1) (0) ((xp x 1329227995784915872903807060280344575)) := (Sets.others hC20 h7 (by omega))
  replace h9 : Fe w20 (w.heap.size + 1 + 1 + 1 + 1) (0) ((xp x 1809251394333065553493296640760748560207343510400633813116524750123642649600)) := (Sets.fe' hC20 h9)
  have hBw20 : Hid (Below w.heap.size w w20) := Lib.hid (hBw19.out.trans (hC20.below (by omega) hBw19.out.size))
  clear hC20
  go_wp2_with fail
  refine (mul_fe (w.heap.size + 1 + 1 + 1 + 1) 0 (w.heap.size + 1 + 1 + 1 + 1) 0 (w.heap.size + 1 + 1 + 1) 0 _ _ _ _ h9 h9 h8 (xp x 1809251394333065553493296640760748560207343510400633813116524750123642650623) (Lib.hid (xp_to x 1809251394333065553493296640760748560207343510400633813116524750123642649600 1023 1809251394333065553493296640760748560207343510400633813116524750123642650623 rfl))).mono ?_
  rintro e w21 ⟨rfl, hC21⟩
  have hs21 : w20.heap.size ≤ w21.heap.size := by have := hC21.size; (try simp only [alloc_size, setRow_size] at this); omega
  replace hv : Fe w21 (vb) (vo) (v0) := (Sets.others hC21 hv (by omega))
  replace ha : Fe w21 (ab) (ao) ((xp x 1)) := (Sets.others hC21 ha (by omega))
  replace h5 : Fe w21 (w.heap.size) (0) ((xp x 11)) := (Sets.others hC21 h5 (by omega))
  replace h8 : Fe w21 (w.heap.size + 1 + 1 + 1) (0) ((xp x 1023)) := (Sets.others hC21 h8 (by omega))
  replace h6 : Fe w21 (w.heap.size + 1) (0) ((xp x 1152921504606846975)) := (Sets.others hC21 h6 (by omega))
  replace h7 : Fe w21 (w.heap.size + 1 + 1) (0) ((xp x 1329227995784915872903807060280344575)) := (Sets.others hC21 h7 (by omega))
  replace h9 : Fe w21 (w.heap.size + 1 + 1 + 1 + 1) (0) ((xp x 1809251394333065553493296640760748560207343510400633813116524750123642650623)) := (Sets.fe' hC21 h9)
  have hBw21 : Hid (Below w.heap.size w w21) := Lib.hid (hBw20.out.trans (hC21.below (by omega) hBw20.out.size))
  clear hC21
  go_wp2_with fail
  refine (squareN_fe (w.heap.size + 1 + 1 + 1 + 1) 0 (w.heap.size + 1 + 1 + 1 + 1) 0 _ _ 5 (by omega) _ h9 h9 (xp x 57896044618658097711785492504343953926634992332820282019728792003956564819936) (Lib.hid (xp_of x 1809251394333065553493296640760748560207343510400633813116524750123642650623 (2 ^ 5) 57896044618658097711785492504343953926634992332820282019728792003956564819936 rfl))).mono ?_
  rintro e w22 ⟨rfl, hC22⟩
  have hs22 : w21.heap.size ≤ w22.heap.size := by have := hC22.size; (try simp only [alloc_size, setRow_size] at this); omega
  replace hv : Fe w22 (vb) (vo) (v0) := (Sets.others hC22 hv (by omega))
  replace ha : Fe w22 (ab) (ao) ((xp x 1)) := (Sets.others hC22 ha (by omega))
  replace h5 : Fe w22 (w.heap.size) (0) ((xp x 11)) := (Sets.others hC22 h5 (by omega))
  replace h8 : Fe w22 (w.heap.size + 1 + 1 + 1) (0) ((xp x 1023)) := (Sets.others hC22 h8 (by omega))
  replace h6 : Fe w22 (w.heap.size + 1) (0) ((xp x 1152921504606846975)) := (Sets.others hC22 h6 (by omega))
  replace h7 : Fe w22 (w.heap.size + 1 + 1) (0) ((xp x 1329227995784915872903807060280344575)) := (Sets.others hC22 h7 (by omega))
  replace h9 : Fe w22 (w.heap.size + 1 + 1 + 1 + 1) (0) ((xp x 57896044618658097711785492504343953926634992332820282019728792003956564819936)) := (Sets.fe' hC22 h9)
  have hBw22 : Hid (Below w.heap.size w w22) := Lib.hid (hBw21.out.trans (hC22.below (by omega) hBw21.out.size))
  clear hC22
  go_wp2_with fail
  refine (mul_fe vb vo (w.heap.size + 1 + 1 + 1 + 1) 0 (w.heap.size) 0 _ _ _ _ hv h9 h5 (xp x 57896044618658097711785492504343953926634992332820282019728792003956564819947) (Lib.hid (xp_to x 57896044618658097711785492504343953926634992332820282019728792003956564819936 11 57896044618658097711785492504343953926634992332820282019728792003956564819947 rfl))).mono ?_
  rintro e wf ⟨rfl, hC⟩
  go_wp2
  go_ret
  exact ⟨rfl, Sets.ahead hBw22.out hC hvl⟩
end
section
open Go.RowKit

set_option maxHeartbeats 4000000 in
theorem pow22523_fe (vb vo ab ao x v0 : Nat) (w : World) (hv : Fe w vb vo v0) (ha : Fe w ab ao x) :
    Calls Tryd.prog 26 #[.pointer (some ⟨vb, vo, none⟩), .pointer (some ⟨ab, ao, none⟩)] w fun e w' => e = .returned (.pointer (some ⟨vb, vo, none⟩)) ∧ Sets w w' vb vo (xp x 7237005577332262213973186563042994240829374041602535252466099000494570602493) := by
  have hvl := hv.lt; have hal := ha.lt
  have hxs := ha.small
  rw [← xp_one x hxs] at ha
  clear hxs
  go_enter Tryd.func26, Tryd.ntmps26
  go_wp2_with fail
  refine (square_fe (w.heap.size) 0 ab ao _ _ _ (Fe.alloc (Fe.alloc (Fe.newz_at _ _ rfl) _) _) (Fe.alloc (Fe.alloc (Fe.alloc ha _) _) _) (xp x 2) (Lib.hid (xp_to x 1 1 2 rfl))).mono ?_
  rintro e w1 ⟨rfl, hC1⟩
  have hs1 : w.heap.size + 1 + 1 + 1 ≤ w1.heap.size := by have := hC1.size; (try simp only [alloc_size, setRow_size] at this); omega
  replace hv : Fe w1 (vb) (vo) (v0) := (Sets.others hC1 (Fe.alloc (Fe.alloc (Fe.alloc hv _) _) _) (by omega))
  replace ha : Fe w1 (ab) (ao) ((xp x 1)) := (Sets.others hC1 (Fe.alloc (Fe.alloc (Fe.alloc ha _) _) _) (by omega))
  replace h6 : Fe w1 (w.heap.size + 1) (0) (0) := (Sets.others hC1 (Fe.alloc (Fe.newz_at _ _ (by (try simp only [alloc_size, setRow_size]))) _) (by omega))
  replace h7 : Fe w1 (w.heap.size + 1 + 1) (0) (0) := (Sets.others hC1 (Fe.newz_at _ _ (by (try simp only [alloc_size, setRow_size]))) (by omega))
  replace h5 : Fe w1 (w.heap.size) (0) ((xp x 2)) := (Sets.fe' hC1 (Fe.alloc (Fe.alloc (Fe.newz_at _ _ rfl) _) _))
  have hBw1 : Hid (Below w.heap.size w w1) := Lib.hid ((below_alloc (below_alloc (below_alloc (Below.refl _ w) _) _) _).trans (hC1.below (by omega) (below_alloc (below_alloc (below_alloc (Below.refl _ w) _) _) _).size))
  clear hC1
  go_wp2_with fail
  refine (mul_fe (w.heap.size + 1) 0 ab ao (w.heap.size) 0 _ _ _ _ h6 ha h5 (xp x 3) (Lib.hid (xp_to x 1 2 3 rfl))).mono ?_
  rintro e w2 ⟨rfl, hC2⟩
  have hs2 : w1.heap.size ≤ w2.heap.size := by have := hC2.size; (try simp only [alloc_size, setRow_size] at this); omega
  replace hv : Fe w2 (vb) (vo) (v0) := (Sets.others hC2 hv (by omega))
  replace ha : Fe w2 (ab) (ao) ((xp x 1)) := (Sets.others hC2 ha (by omega))
  replace h7 : Fe w2 (w.heap.size + 1 + 1) (0) (0) := (Sets.others hC2 h7 (by omega))
  replace h5 : Fe w2 (w.heap.size) (0) ((xp x 2)) := (Sets.others hC2 h5 (by omega))
  replace h6 : Fe w2 (w.heap.size + 1) (0) ((xp x 3)) := (Sets.fe' hC2 h6)
  have hBw2 : Hid (Below w.heap.size w w2) := Lib.hid (hBw1.out.trans (hC2.below (by omega) hBw1.out.size))
  clear hC2
  go_wp2_with fail
  refine (square_fe (w.heap.size) 0 (w.heap.size + 1) 0 _ _ _ h5 h6 (xp x 6) (Lib.hid (xp_to x 3 3 6 rfl))).mono ?_
  rintro e w3 ⟨rfl, hC3⟩
  have hs3 : w2.heap.size ≤ w3.heap.size := by have := hC3.size; (try simp only [alloc_size, setRow_size] at this); omega
  replace hv : Fe w3 (vb) (vo) (v0) := (Sets.others hC3 hv (by omega))
  replace ha : Fe w3 (ab) (ao) ((xp x 1)) := (Sets.others hC3 ha (by omega))
  replace h7 : Fe w3 (w.heap.size + 1 + 1) (0) (0) := (Sets.others hC3 h7 (by omega))
  replace h6 : Fe w3 (w.heap.size + 1) (0) ((xp x 3)) := (Sets.others hC3 h6 (by omega))
  replace h5 : Fe w3 (w.heap.size) (0) ((xp x 6)) := (Sets.fe' hC3 h5)
  have hBw3 : Hid (Below w.heap.size w w3) := Lib.hid (hBw2.out.trans (hC3.below (by omega) hBw2.out.size))
  clear hC3
  go_wp2_with fail
  refine (square_fe (w.heap.size) 0 (w.heap.size) 0 _ _ _ h5 h5 (xp x 12) (Lib.hid (xp_to x 6 6 12 rfl))).mono ?_
  rintro e w4 ⟨rfl, hC4⟩
  have hs4 : w3.heap.size ≤ w4.heap.size := by have := hC4.size; (try simp only [alloc_size, setRow_size] at this); omega
  replace hv : Fe w4 (vb) (vo) (v0) := (Sets.others hC4 hv (by omega))
  replace ha : Fe w4 (ab) (ao) ((xp x 1)) := (Sets.others hC4 ha (by omega))
  replace h7 : Fe w4 (w.heap.size + 1 + 1) (0) (0) := (Sets.others hC4 h7 (by omega))
  replace h6 : Fe w4 (w.heap.size + 1) (0) ((xp x 3)) := (Sets.others hC4 h6 (by omega))
  replace h5 : Fe w4 (w.heap.size) (0) ((xp x 12)) := (Sets.fe' hC4 h5)
  have hBw4 : Hid (Below w.heap.size w w4) := Lib.hid (hBw3.out.trans (hC4.below (by omega) hBw3.out.size))
  clear hC4
  go_wp2_with fail
  refine (mul_fe (w.heap.size) 0 (w.heap.size + 1) 0 (w.heap.size) 0 _ _ _ _ h5 h6 h5 (xp x 15) (Lib.hid (xp_to x 3 12 15 rfl))).mono ?_
  rintro e w5 ⟨rfl, hC5⟩
  have hs5 : w4.heap.size ≤ w5.heap.size := by have := hC5.size; (try simp only [alloc_size, setRow_size] at this); omega
  replace hv : Fe w5 (vb) (vo) (v0) := (Sets.others hC5 hv (by omega))
  replace ha : Fe w5 (ab) (ao) ((xp x 1)) := (Sets.others hC5 ha (by omega))
  replace h7 : Fe w5 (w.heap.size + 1 + 1) (0) (0) := (Sets.others hC5 h7 (by omega))
  replace h6 : Fe w5 (w.heap.size + 1) (0) ((xp x 3)) := (Sets.others hC5 h6 (by omega))
  replace h5 : Fe w5 (w.heap.size) (0) ((xp x 15)) := (Sets.fe' hC5 h5)
  have hBw5 : Hid (Below w.heap.size w w5) := Lib.hid (hBw4.out.trans (hC5.below (by omega) hBw4.out.size))
  clear hC5
  go_wp2_with fail
  refine (square_fe (w.heap.size) 0 (w.heap.size) 0 _ _ _ h5 h5 (xp x 30) (Lib.hid (xp_to x 15 15 30 rfl))).mono ?_
  rintro e w6 ⟨rfl, hC6⟩
  have hs6 : w5.heap.size ≤ w6.heap.size := by have := hC6.size; (try simp only [alloc_size, setRow_size] at this); omega
  replace hv : Fe w6 (vb) (vo) (v0) := (Sets.others hC6 hv (by omega))
  replace ha : Fe w6 (ab) (ao) ((xp x 1)) := (Sets.others hC6 ha (by omega))
  replace h7 : Fe w6 (w.heap.size + 1 + 1) (0) (0) := (Sets.others hC6 h7 (by omega))
  replace h6 : Fe w6 (w.heap.size + 1) (0) ((xp x 3)) := (Sets.others hC6 h6 (by omega))
  replace h5 : Fe w6 (w.heap.size) (0) ((xp x 30)) := (Sets.fe' hC6 h5)
  have hBw6 : Hid (Below w.heap.size w w6) := Lib.hid (hBw5.out.trans (hC6.below (by omega) hBw5.out.size))
  clear hC6
  go_wp2_with fail
  refine (mul_fe (w.heap.size) 0 ab ao (w.heap.size) 0 _ _ _ _ h5 ha h5 (xp x 31) (Lib.hid (xp_to x 1 30 31 rfl))).mono ?_
  rintro e w7 ⟨rfl, hC7⟩
  have hs7 : w6.heap.size ≤ w7.heap.size := by have := hC7.size; (try simp only [alloc_size, setRow_size] at this); omega
  replace hv : Fe w7 (vb) (vo) (v0) := (Sets.others hC7 hv (by omega))
  replace ha : Fe w7 (ab) (ao) ((xp x 1)) := (Sets.others hC7 ha (by omega))
  replace h7 : Fe w7 (w.heap.size + 1 + 1) (0) (0) := (Sets.others hC7 h7 (by omega))
  replace h6 : Fe w7 (w.heap.size + 1) (0) ((xp x 3)) := (Sets.others hC7 h6 (by omega))
  replace h5 : Fe w7 (w.heap.size) (0) ((xp x 31)) := (Sets.fe' hC7 h5)
  have hBw7 : Hid (Below w.heap.size w w7) := Lib.hid (hBw6.out.trans (hC7.below (by omega) hBw6.out.size))
  clear hC7
  go_wp2_with fail
  refine (squareN_fe (w.heap.size + 1) 0 (w.heap.size) 0 _ _ 5 (by omega) _ h6 h5 (xp x 992) (Lib.hid (xp_of x 31 (2 ^ 5) 992 rfl))).mono ?_
  rintro e w8 ⟨rfl, hC8⟩
  have hs8 : w7.heap.size ≤ w8.heap.size := by have := hC8.size; (try simp only [alloc_size, setRow_size] at this); omega
  replace hv : Fe w8 (vb) (vo) (v0) := (Sets.others hC8 hv (by omega))
  replace ha : Fe w8 (ab) (ao) ((xp x 1)) := (Sets.others hC8 ha (by omega))
  replace h7 : Fe w8 (w.heap.size + 1 + 1) (0) (0) := (Sets.others hC8 h7 (by omega))
  replace h5 : Fe w8 (w.heap.size) (0) ((xp x 31)) := (Sets.others hC8 h5 (by omega))
  replace h6 : Fe w8 (w.heap.size + 1) (0) ((xp x 992)) := (Sets.fe' hC8 h6)
  have hBw8 : Hid (Below w.heap.size w w8) := Lib.hid (hBw7.out.trans (hC8.below (by omega) hBw7.out.size))
  clear hC8
  go_wp2_with fail
  refine (mul_fe (w.heap.size + 1) 0 (w.heap.size + 1) 0 (w.heap.size) 0 _ _ _ _ h6 h6 h5 (xp x 1023) (Lib.hid (xp_to x 992 31 1023 rfl))).mono ?_
  rintro e w9 ⟨rfl, hC9⟩
  have hs9 : w8.heap.size ≤ w9.heap.size := by have := hC9.size; (try simp only [alloc_size, setRow_size] at this); omega
  replace hv : Fe w9 (vb) (vo) (v0) := (Sets.others hC9 hv (by omega))
  replace ha : Fe w9 (ab) (ao) ((xp x 1)) := (Sets.others hC9 ha (by omega))
  replace h7 : Fe w9 (w.heap.size + 1 + 1) (0) (0) := (Sets.others hC9 h7 (by omega))
  replace h5 : Fe w9 (w.heap.size) (0) ((xp x 31)) := (Sets.others hC9 h5 (by omega))
  replace h6 : Fe w9 (w.heap.size + 1) (0) ((xp x 1023)) := (Sets.fe' hC9 h6)
  have hBw9 : Hid (Below w.heap.size w w9) := Lib.hid (hBw8.out.trans (hC9.below (by omega) hBw8.out.size))
  clear hC9
  go_wp2_with fail
  refine (squareN_fe (w.heap.size + 1 + 1) 0 (w.heap.size + 1) 0 _ _ 5 (by omega) _ h7 h6 (xp x 32736) (Lib.hid (xp_of x 1023 (2 ^ 5) 32736 rfl))).mono ?_
  rintro e w10 ⟨rfl, hC10⟩
  have hs10 : w9.heap.size ≤ w10.heap.size := by have := hC10.size; (try simp only [alloc_size, setRow_size] at this); omega
  replace hv : Fe w10 (vb) (vo) (v0) := (Sets.others hC10 hv (by omega))
  replace ha : Fe w10 (ab) (ao) ((xp x 1)) := (Sets.others hC10 ha (by omega))
  replace h5 : Fe w10 (w.heap.size) (0) ((xp x 31)) := (Sets.others hC10 h5 (by omega))
  replace h6 : Fe w10 (w.heap.size + 1) (0) ((xp x 1023)) := (Sets.others hC10 h6 (by omega))
  replace h7 : Fe w10 (w.heap.size + 1 + 1) (0) ((xp x 32736)) := (Sets.fe' hC10 h7)
  have hBw10 : Hid (Below w.heap.size w w10) := Lib.hid (hBw9.out.trans (hC10.below (by omega) hBw9.out.size))
  clear hC10
  go_wp2_with fail
  refine (mul_fe (w.heap.size) 0 (w.heap.size + 1 + 1) 0 (w.heap.size) 0 _ _ _ _ h5 h7 h5 (xp x 32767) (Lib.hid (xp_to x 32736 31 32767 rfl))).mono ?_
  rintro e w11 ⟨rfl, hC11⟩
  have hs11 : w10.heap.size ≤ w11.heap.size := by have := hC11.size; (try simp only [alloc_size, setRow_size] at this); omega
  replace hv : Fe w11 (vb) (vo) (v0) := (Sets.others hC11 hv (by omega))
  replace ha : Fe w11 (ab) (ao) ((xp x 1)) := (Sets.others hC11 ha (by omega))
  replace h6 : Fe w11 (w.heap.size + 1) (0) ((xp x 1023)) := (Sets.others hC11 h6 (by omega))
  replace h7 : Fe w11 (w.heap.size + 1 + 1) (0) ((xp x 32736)) := (Sets.others hC11 h7 (by omega))
  replace h5 : Fe w11 (w.heap.size) (0) ((xp x 32767)) := (Sets.fe' hC11 h5)
  have hBw11 : Hid (Below w.heap.size w w11) := Lib.hid (hBw10.out.trans (hC11.below (by omega) hBw10.out.size))
  clear hC11
  go_wp2_with fail
  refine (squareN_fe (w.heap.size + 1 + 1) 0 (w.heap.size) 0 _ _ 15 (by omega) _ h7 h5 (xp x 1073709056) (Lib.hid (xp_of x 32767 (2 ^ 15) 1073709056 rfl))).mono ?_
  rintro e w12 ⟨rfl, hC12⟩
  have hs12 : w11.heap.size ≤ w12.heap.size := by have := hC12.size; (try simp only [alloc_size, setRow_size] at this); omega
  replace hv : Fe w12 (vb) (vo) (v0) := (Sets.others hC12 hv (by omega))
  replace ha : Fe w12 (ab) (ao) ((xp x 1)) := (Sets.others hC12 ha (by omega))
  replace h6 : Fe w12 (w.heap.size + 1) (0) ((xp x 1023)) := (Sets.others hC12 h6 (by omega))
  replace h5 : Fe w12 (w.heap.size) (0) ((xp x 32767)) := (Sets.others hC12 h5 (by omega))
  replace h7 : Fe w12 (w.heap.size + 1 + 1) (0) ((xp x 1073709056)) := (Sets.fe' hC12 h7)
  have hBw12 : Hid (Below w.heap.size w w12) := Lib.hid (hBw11.out.trans (hC12.below (by omega) hBw11.out.size))
  clear hC12
  go_wp2_with fail
  refine (mul_fe (w.heap.size + 1 + 1) 0 (w.heap.size + 1 + 1) 0 (w.heap.size) 0 _ _ _ _ h7 h7 h5 (xp x 1073741823) (Lib.hid (xp_to x 1073709056 32767 1073741823 rfl))).mono ?_
  rintro e w13 ⟨rfl, hC13⟩
  have hs13 : w12.heap.size ≤ w13.heap.size := by have := hC13.size; (try simp only [alloc_size, setRow_size] at this); omega
  replace hv : Fe w13 (vb) (vo) (v0) := (Sets.others hC13 hv (by omega))
  replace ha : Fe w13 (ab) (ao) ((xp x 1)) := (Sets.others hC13 ha (by omega))
  replace h6 : Fe w13 (w.heap.size + 1) (0) ((xp x 1023)) := (Sets.others hC13 h6 (by omega))
  replace h5 : Fe w13 (w.heap.size) (0) ((xp x 32767)) := (Sets.others hC13 h5 (by omega))
  replace h7 : Fe w13 (w.heap.size + 1 + 1) (0) ((xp x 1073741823)) := (Sets.fe' hC13 h7)
  have hBw13 : Hid (Below w.heap.size w w13) := Lib.hid (hBw12.out.trans (hC13.below (by omega) hBw12.out.size))
  clear hC13
  go_wp2_with fail
  refine (squareN_fe (w.heap.size) 0 (w.heap.size + 1 + 1) 0 _ _ 30 (by omega) _ h5 h7 (xp x 1152921503533105152) (Lib.hid (xp_of x 1073741823 (2 ^ 30) 1152921503533105152 rfl))).mono ?_
  rintro e w14 ⟨rfl, hC14⟩
  have hs14 : w13.heap.size ≤ w14.heap.size := by have := hC14.size; (try simp only [alloc_size, setRow_size] at this); omega
  replace hv : Fe w14 (vb) (vo) (v0) := (Sets.others hC14 hv (by omega))
  replace ha : Fe w14 (ab) (ao) ((xp x 1)) := (Sets.others hC14 ha (by omega))
  replace h6 : Fe w14 (w.heap.size + 1) (0) ((xp x 1023)) := (Sets.others hC14 h6 (by omega))
  replace h7 : Fe w14 (w.heap.size + 1 + 1) (0) ((xp x 1073741823)) := (Sets.others hC14 h7 (by omega))
  replace h5 : Fe w14 (w.heap.size) (0) ((xp x 1152921503533105152)) := (Sets.fe' hC14 h5)
  have hBw14 : Hid (Below w.heap.size w w14) := Lib.hid (hBw13.out.trans (hC14.below (by omega) hBw13.out.size))
  clear hC14
  go_wp2_with fail
  refine (mul_fe (w.heap.size) 0 (w.heap.size) 0 (w.heap.size + 1 + 1) 0 _ _ _ _ h5 h5 h7 (xp x 1152921504606846975) (Lib.hid (xp_to x 1152921503533105152 1073741823 1152921504606846975 rfl))).mono ?_
  rintro e w15 ⟨rfl, hC15⟩
  have hs15 : w14.heap.size ≤ w15.heap.size := by have := hC15.size; (try simp only [alloc_size, setRow_size] at this); omega
  replace hv : Fe w15 (vb) (vo) (v0) := (Sets.others hC15 hv (by omega))
  replace ha : Fe w15 (ab) (ao) ((xp x 1)) := (Sets.others hC15 ha (by omega))
  replace h6 : Fe w15 (w.heap.size + 1) (0) ((xp x 1023)) := (Sets.others hC15 h6 (by omega))
  replace h7 : Fe w15 (w.heap.size + 1 + 1) (0) ((xp x 1073741823)) := (Sets.others hC15 h7 (by omega))
  replace h5 : Fe w15 (w.heap.size) (0) ((xp x 1152921504606846975)) := (Sets.fe' hC15 h5)
  have hBw15 : Hid (Below w.heap.size w w15) := Lib.hid (hBw14.out.trans (hC15.below (by omega) hBw14.out.size))
  clear hC15
  go_wp2_with fail
  refine (squareN_fe (w.heap.size + 1 + 1) 0 (w.heap.size) 0 _ _ 60 (by omega) _ h7 h5 (xp x 1329227995784915871750885555673497600) (Lib.hid (xp_of x 1152921504606846975 (2 ^ 60) 1329227995784915871750885555673497600 rfl))).mono ?_
  rintro e w16 ⟨rfl, hC16⟩
  have hs16 : w15.heap.size ≤ w16.heap.size := by have := hC16.size; (try simp only [alloc_size, setRow_size] at this); omega
  replace hv : Fe w16 (vb) (vo) (v0) := (Sets.others hC16 hv (by omega))
  replace ha : Fe w16 (ab) (ao) ((xp x 1)) := (Sets.others hC16 ha (by omega))
  replace h6 : Fe w16 (w.heap.size + 1) (0) ((xp x 1023)) := (Sets.others hC16 h6 (by omega))
  replace h5 : Fe w16 (w.heap.size) (0) ((xp x 1152921504606846975)) := (Sets.others hC16 h5 (by omega))
  replace h7 : Fe w16 (w.heap.size + 1 + 1) (0) ((xp x 1329227995784915871750885555673497600)) := (Sets.fe' hC16 h7)
  have hBw16 : Hid (Below w.heap.size w w16) := Lib.hid (hBw15.out.trans (hC16.below (by omega) hBw15.out.size))
  clear hC16
  go_wp2_with fail
  refine (mul_fe (w.heap.size + 1 + 1) 0 (w.heap.size + 1 + 1) 0 (w.heap.size) 0 _ _ _ _ h7 h7 h5 (xp x 1329227995784915872903807060280344575) (Lib.hid (xp_to x 1329227995784915871750885555673497600 1152921504606846975 1329227995784915872903807060280344575 rfl))).mono ?_
  rintro e w17 ⟨rfl, hC17⟩
  have hs17 : w16.heap.size ≤ w17.heap.size := by have := hC17.size; (try simp only [alloc_size, setRow_size] at this); omega
  replace hv : Fe w17 (vb) (vo) (v0) := (Sets.others hC17 hv (by omega))
  replace ha : Fe w17 (ab) (ao) ((xp x 1)) := (Sets.others hC17 ha (by omega))
  replace h6 : Fe w17 (w.heap.size + 1) (0) ((xp x 1023)) := (Sets.others hC17 h6 (by omega))
  replace h5 : Fe w17 (w.heap.size) (0) ((xp x 1152921504606846975)) := (Sets.others hC17 h5 (by omega))
  replace h7 : Fe w17 (w.heap.size + 1 + 1) (0) ((xp x 1329227995784915872903807060280344575)) := (Sets.fe' hC17 h7)
  have hBw17 : Hid (Below w.heap.size w w17) := Lib.hid (hBw16.out.trans (hC17.below (by omega) hBw16.out.size))
  clear hC17
  go_wp2_with fail
  refine (squareN_fe (w.heap.size) 0 (w.heap.size + 1 + 1) 0 _ _ 120 (by omega) _ h5 h7 (xp x 1766847064778384329583297500742918514498255901090703085217799141012275200) (Lib.hid (xp_of x 1329227995784915872903807060280344575 (2 ^ 120) 1766847064778384329583297500742918514498255901090703085217799141012275200 rfl))).mono ?_
  rintro e w18 ⟨rfl, hC18⟩
  have hs18 : w17.heap.size ≤ w18.heap.size := by have := hC18.size; (try simp only [alloc_size, setRow_size] at this); omega
  replace hv : Fe w18 (vb) (vo) (v0) := (Sets.others hC18 hv (by omega))
  replace ha : Fe w18 (ab) (ao) ((xp x 1)) := (Sets.others hC18 ha (by omega))
  replace h6 : Fe w18 (w.heap.size + 1) (0) ((xp x 1023)) := (Sets.others hC18 h6 (by omega))
  replace h7 : Fe w18 (w.heap.size + 1 + 1) (0) ((xp x 1329227995784915872903807060280344575)) := (Sets.others hC18 h7 (by omega))
  replace h5 : Fe w18 (w.heap.size) (0) ((xp x 1766847064778384329583297500742918514498255901090703085217799141012275200)) := (Sets.fe' hC18 h5)
  have hBw18 : Hid (Below w.heap.size w w18) := Lib.hid (hBw17.out.trans (hC18.below (by omega) hBw17.out.size))
  clear hC18
  go_wp2_with fail
  refine (mul_fe (w.heap.size) 0 (w.heap.size) 0 (w.heap.size + 1 + 1) 0 _ _ _ _ h5 h5 h7 (xp x 1766847064778384329583297500742918515827483896875618958121606201292619775) (Lib.hid (xp_to x 1766847064778384329583297500742918514498255901090703085217799141012275200 1329227995784915872903807060280344575 1766847064778384329583297500742918515827483896875618958121606201292619775 rfl))).mono ?_
  rintro e w19 ⟨rfl, hC19⟩
  have hs19 : w18.heap.size ≤ w19.heap.size := by have := hC19.size; (try simp only [alloc_size, setRow_size] at this); omega
  replace hv : Fe w19 (vb) (vo) (v0) := (Sets.others hC19 hv (by omega))
  replace ha : Fe w19 (ab) (ao) ((xp x 1)) := (Sets.others hC19 ha (by omega))
  replace h6 : Fe w19 (w.heap.size + 1) (0) ((xp x 1023)) := (Sets.others hC19 h6 (by omega))
  replace h7 : Fe w19 (w.heap.size + 1 + 1) (0) ((xp x 1329227995784915872903807060280344575)) := (Sets.others hC19 h7 (by omega))
  replace h5 : Fe w19 (w.heap.size) (0) ((xp x 1766847064778384329583297500742918515827483896875618958121606201292619775)) := (Sets.fe' hC19 h5)
  have hBw19 : Hid (Below w.heap.size w w19) := Lib.hid (hBw18.out.trans (hC19.below (by omega) hBw18.out.size))
  clear hC19
  go_wp2_with fail
  refine (squareN_fe (w.heap.size) 0 (w.heap.size) 0 _ _ 10 (by omega) _ h5 h5 (xp x 1809251394333065553493296640760748560207343510400633813116524750123642649600) (Lib.hid (xp_of x 1766847064778384329583297500742918515827483896875618958121606201292619775 (2 ^ 10) 1809251394333065553493296640760748560207343510400633813116524750123642649600 rfl))).mono ?_
  rintro e w20 ⟨rfl, hC20⟩
  have hs20 : w19.heap.size ≤ w20.heap.size := by have := hC20.size; (try simp only [alloc_size, setRow_size] at this); omega
  replace hv : Fe w20 (vb) (vo) (v0) := (Sets.others hC20 hv (by omega))
  replace ha : Fe w20 (ab) (ao) ((xp x 1)) := (Sets.others hC20 ha (by omega))
  replace h6 : Fe w20 (w.heap.size + 1) (0) ((xp x 1023)) := (Sets.others hC20 h6 (by omega))
  replace h7 : Fe w20 (w.heap.size + 1 + 1) (0) ((xp x 1329227995784915872903807060280344575)) := (Sets.others hC20 h7 (by omega))
  replace h5 : Fe w20 (w.heap.size) (0) ((xp x 1809251394333065553493296640760748560207343510400633813116524750123642649600)) := (Sets.fe' hC20 h5)
  have hBw20 : Hid (Below w.heap.size w w20) := Lib.hid (hBw19.out.trans (hC20.below (by omega) hBw19.out.size))
  clear hC20
  go_wp2_with fail
  refine (mul_fe (w.heap.size) 0 (w.heap.size) 0 (w.heap.size + 1) 0 _ _ _ _ h5 h5 h6 (xp x 1809251394333065553493296640760748560207343510400633813116524750123642650623) (Lib.hid (xp_to x 1809251394333065553493296640760748560207343510400633813116524750123642649600 1023 1809251394333065553493296640760748560207343510400633813116524750123642650623 rfl))).mono ?_
  rintro e w21 ⟨rfl, hC21⟩
  have hs21 : w20.heap.size ≤ w21.heap.size := by have := hC21.size; (try simp only [alloc_size, setRow_size] at this); omega
  replace hv : Fe w21 (vb) (vo) (v0) := (Sets.others hC21 hv (by omega))
  replace ha : Fe w21 (ab) (ao) ((xp x 1)) := (Sets.others hC21 ha (by omega))
  replace h6 : Fe w21 (w.heap.size + 1) (0) ((xp x 1023)) := (Sets.others hC21 h6 (by omega))
  replace h7 : Fe w21 (w.heap.size + 1 + 1) (0) ((xp x 1329227995784915872903807060280344575)) := (Sets.others hC21 h7 (by omega))
  replace h5 : Fe w21 (w.heap.size) (0) ((xp x 1809251394333065553493296640760748560207343510400633813116524750123642650623)) := (Sets.fe' hC21 h5)
  have hBw21 : Hid (Below w.heap.size w w21) := Lib.hid (hBw20.out.trans (hC21.below (by omega) hBw20.out.size))
  clear hC21
  go_wp2_with fail
  refine (squareN_fe (w.heap.size) 0 (w.heap.size) 0 _ _ 2 (by omega) _ h5 h5 (xp x 7237005577332262213973186563042994240829374041602535252466099000494570602492) (Lib.hid (xp_of x 1809251394333065553493296640760748560207343510400633813116524750123642650623 (2 ^ 2) 7237005577332262213973186563042994240829374041602535252466099000494570602492 rfl))).mono ?_
  rintro e w22 ⟨rfl, hC22⟩
  have hs22 : w21.heap.size ≤ w22.heap.size := by have := hC22.size; (try simp only [alloc_size, setRow_size] at this); omega
  replace hv : Fe w22 (vb) (vo) (v0) := (Sets.others hC22 hv (by omega))
  replace ha : Fe w22 (ab) (ao) ((xp x 1)) := (Sets.others hC22 ha (by omega))
  replace h6 : Fe w22 (w.heap.size + 1) (0) ((xp x 1023)) := (Sets.others hC22 h6 (by omega))
  replace h7 : Fe w22 (w.heap.size + 1 + 1) (0) ((xp x 1329227995784915872903807060280344575)) := (Sets.others hC22 h7 (by omega))
  replace h5 : Fe w22 (w.heap.size) (0) ((xp x 7237005577332262213973186563042994240829374041602535252466099000494570602492)) := (Sets.fe' hC22 h5)
  have hBw22 : Hid (Below w.heap.size w w22) := Lib.hid (hBw21.out.trans (hC22.below (by omega) hBw21.out.size))
  clear hC22
  go_wp2_with fail
  refine (mul_fe vb vo (w.heap.size) 0 ab ao _ _ _ _ hv h5 ha (xp x 7237005577332262213973186563042994240829374041602535252466099000494570602493) (Lib.hid (xp_to x 7237005577332262213973186563042994240829374041602535252466099000494570602492 1 7237005577332262213973186563042994240829374041602535252466099000494570602493 rfl))).mono ?_
  rintro e wf ⟨rfl, hC⟩
  go_wp2
  go_ret
  exact ⟨rfl, Sets.ahead hBw22.out hC hvl⟩
end
section
open Go.RowKit

set_option maxHeartbeats 2000000 in
theorem absolute_raw0 (vb vo ab ao x v0 R B : Nat) (dU : Apart vb vo ab ao) (HR : Hid (R = (pF - x) % pF)) (HZ : Hid ((0 : Int) = ((x % 2 : Nat) : Int))) (w : World) (hD0 : Var 0 z5 B w) (hv : Fe w vb vo v0) (ha : Fe w ab ao x) :
    Calls Tryd.prog 25 #[.pointer (some ⟨vb, vo, none⟩), .pointer (some ⟨ab, ao, none⟩)] w fun e w' => e = .returned (.pointer (some ⟨vb, vo, none⟩)) ∧ Sets w w' vb vo x := by
  have hvl := hv.lt; have hal := ha.lt; have hBl := hD0.1
  go_enter Tryd.func25, Tryd.ntmps25
  go_wp2_with fail
  refine (neg_fe (w.heap.size) 0 ab ao _ _ B _ (hD0.later (below_alloc (Below.refl _ w) _)) (by omega) (Fe.newz_at _ _ rfl) (Fe.alloc ha _) (apart_blk _ _ _ _ (by omega)) R HR).mono ?_
  rintro e w1 ⟨rfl, hC1⟩
  have hs1 : w.heap.size + 1 ≤ w1.heap.size := by have := hC1.size; (try simp only [alloc_size, setRow_size] at this); omega
  replace hv : Fe w1 (vb) (vo) (v0) := (Sets.others hC1 (Fe.alloc hv _) (by omega))
  replace ha : Fe w1 (ab) (ao) (x) := (Sets.others hC1 (Fe.alloc ha _) (by omega))
  replace h6 : Fe w1 (w.heap.size) (0) (R) := (Sets.fe' hC1 (Fe.newz_at _ _ rfl))
  have hBw1 : Hid (Below w.heap.size w w1) := Lib.hid ((below_alloc (Below.refl _ w) _).trans (hC1.below (by omega) (below_alloc (Below.refl _ w) _).size))
  clear hC1
  go_wp2_with fail
  refine (IsNegative_any ab ao x _ ha 0 HZ).mono ?_
  rintro e w2 ⟨rfl, hC2⟩
  have hs2 : w1.heap.size ≤ w2.heap.size := by have := hC2.size; (try simp only [alloc_size, setRow_size] at this); omega
  replace hv : Fe w2 (vb) (vo) (v0) := (Fe.below_all hv hC2)
  replace ha : Fe w2 (ab) (ao) (x) := (Fe.below_all ha hC2)
  replace h6 : Fe w2 (w.heap.size) (0) (R) := (Fe.below_all h6 hC2)
  have hBw2 : Hid (Below w.heap.size w w2) := Lib.hid (below_call hBw1.out hC2)
  clear hC2
  go_wp2_with fail
  refine (select_fe0 vb vo (w.heap.size) 0 ab ao _ _ _ (apart_blk _ _ _ _ (by omega)) dU _ hv h6 ha).mono ?_
  rintro e w3 ⟨rfl, hC3⟩
  go_wp2
  go_ret
  exact ⟨rfl, Sets.ahead hBw2.out hC3 hvl⟩

set_option maxHeartbeats 2000000 in
theorem absolute_raw1 (vb vo ab ao x v0 R B : Nat) (dU : Apart vb vo ab ao) (HR : Hid (R = (pF - x) % pF)) (HZ : Hid ((1 : Int) = ((x % 2 : Nat) : Int))) (w : World) (hD0 : Var 0 z5 B w) (hv : Fe w vb vo v0) (ha : Fe w ab ao x) :
    Calls Tryd.prog 25 #[.pointer (some ⟨vb, vo, none⟩), .pointer (some ⟨ab, ao, none⟩)] w fun e w' => e = .returned (.pointer (some ⟨vb, vo, none⟩)) ∧ Sets w w' vb vo R := by
  have hvl := hv.lt; have hal := ha.lt; have hBl := hD0.1
  go_enter Tryd.func25, Tryd.ntmps25
  go_wp2_with fail
  refine (neg_fe (w.heap.size) 0 ab ao _ _ B _ (hD0.later (below_alloc (Below.refl _ w) _)) (by omega) (Fe.newz_at _ _ rfl) (Fe.alloc ha _) (apart_blk _ _ _ _ (by omega)) R HR).mono ?_
  rintro e w1 ⟨rfl, hC1⟩
  have hs1 : w.heap.size + 1 ≤ w1.heap.size := by have := hC1.size; (try simp only [alloc_size, setRow_size] at this); omega
  replace hv : Fe w1 (vb) (vo) (v0) := (Sets.others hC1 (Fe.alloc hv _) (by omega))
  replace ha : Fe w1 (ab) (ao) (x) := (Sets.others hC1 (Fe.alloc ha _) (by omega))
  replace h6 : Fe w1 (w.heap.size) (0) (R) := (Sets.fe' hC1 (Fe.newz_at _ _ rfl))
  have hBw1 : Hid (Below w.heap.size w w1) := Lib.hid ((below_alloc (Below.refl _ w) _).trans (hC1.below (by omega) (below_alloc (Below.refl _ w) _).size))
  clear hC1
  go_wp2_with fail
  refine (IsNegative_any ab ao x _ ha 1 HZ).mono ?_
  rintro e w2 ⟨rfl, hC2⟩
  have hs2 : w1.heap.size ≤ w2.heap.size := by have := hC2.size; (try simp only [alloc_size, setRow_size] at this); omega
  replace hv : Fe w2 (vb) (vo) (v0) := (Fe.below_all hv hC2)
  replace ha : Fe w2 (ab) (ao) (x) := (Fe.below_all ha hC2)
  replace h6 : Fe w2 (w.heap.size) (0) (R) := (Fe.below_all h6 hC2)
  have hBw2 : Hid (Below w.heap.size w w2) := Lib.hid (below_call hBw1.out hC2)
  clear hC2
  go_wp2_with fail
  refine (select_fe1 vb vo (w.heap.size) 0 ab ao _ _ _ (apart_blk _ _ _ _ (by omega)) dU _ hv h6 ha).mono ?_
  rintro e w3 ⟨rfl, hC3⟩
  go_wp2
  go_ret
  exact ⟨rfl, Sets.ahead hBw2.out hC3 hvl⟩

theorem absolute_fe (vb vo ab ao x v0 B : Nat) (dU : Apart vb vo ab ao) (w : World) (hD0 : Var 0 z5 B w) (hv : Fe w vb vo v0) (ha : Fe w ab ao x) (R : Nat) (hR : Hid (R = absN x)) :
    Calls Tryd.prog 25 #[.pointer (some ⟨vb, vo, none⟩), .pointer (some ⟨ab, ao, none⟩)] w fun e w' => e = .returned (.pointer (some ⟨vb, vo, none⟩)) ∧ Sets w w' vb vo R := by
  rw [hR.out]
  unfold absN
  by_cases h : x % 2 = 1
  · rw [if_pos h]
    exact absolute_raw1 vb vo ab ao x v0 _ B dU rfl (Lib.hid (by rw [h]; rfl)) w hD0 hv ha
  · rw [if_neg h]
    exact absolute_raw0 vb vo ab ao x v0 _ B dU rfl (Lib.hid (by rw [show x % 2 = 0 by omega]; rfl)) w hD0 hv ha
end
section
open Go.RowKit

def i5 : L5 := ⟨1718705420411056, 234908883556509, 2233514472574048, 2117202627021982, 765476049583133⟩
theorem i5_bd : Bd i5 := by unfold Bd i5; simp only; omega
theorem i5_val : val5 i5 % pF = iN := by decide +kernel
theorem pow22523_to (vb vo ab ao x v0 : Nat) (w : World) (hv : Fe w vb vo v0) (ha : Fe w ab ao x) (R : Nat) (hR : Hid (R = x ^ eQ % pF)) :
    Calls Tryd.prog 26 #[.pointer (some ⟨vb, vo, none⟩), .pointer (some ⟨ab, ao, none⟩)] w fun e w' => e = .returned (.pointer (some ⟨vb, vo, none⟩)) ∧ Sets w w' vb vo R := by
  have h : xp x 7237005577332262213973186563042994240829374041602535252466099000494570602493 = x ^ eQ % pF := by
    unfold xp
    rw [show (7237005577332262213973186563042994240829374041602535252466099000494570602493 : Nat) = eQ from rfl]
  rw [hR.out, ← h]; exact pow22523_fe vb vo ab ao x v0 w hv ha

theorem zor (P Q : Prop) [Decidable P] [Decidable Q] : bits .or .i64 (if P then 1 else 0) (if Q then 1 else 0) = if (decide P || decide Q) = true then 1 else 0 := by
  by_cases hp : P <;> by_cases hq : Q <;> simp only [hp, hq, if_true, if_false, decide_true, decide_false, Bool.or_true, Bool.or_false, ↓reduceIte, Bool.false_eq_true] <;> rfl
theorem zor1 (u v : Nat) (c n : Nat) (Z1 : Int) {Z2 ZW : Int} (hc : c = sqC u v) (hn : n = (pF - u) % pF) (h1 : Z1 = if c = u then 1 else 0) (h2 : Z2 = if c = n then 1 else 0) (hW : ZW = if sqW u v then 1 else 0) : bits .or .i64 Z1 Z2 = ZW := by
  subst hc hn h1 h2 hW
  exact zor _ _
theorem zor2 (u v : Nat) (c n : Nat) (Z2 : Int) {Z3 C : Int} (hc : c = sqC u v) (hn : n = (pF - u) % pF) (h2 : Z2 = if c = n then 1 else 0) (h3 : Z3 = if c = n * iN % pF then 1 else 0) (hC : C = if sqB u v then 1 else 0) : bits .or .i64 Z2 Z3 = C := by
  subst hc hn h2 h3 hC
  exact zor _ _

set_option maxHeartbeats 4000000 in
theorem sqrt_raw0 (rb ro ub uo vb vo u v r0 B Rf : Nat) (ZW : Int) (hRf : Hid (Rf = sqR u v)) (hZW : Hid (ZW = if sqW u v then 1 else 0)) (hSB : Hid (sqB u v = false)) (w : World) (hD0 : Var 0 z5 B w) (hD1 : Var 1 i5 B w) (hr : Fe w rb ro r0) (hu : Fe w ub uo u) (hv : Fe w vb vo v) :
    Calls Tryd.prog 27 #[.pointer (some ⟨rb, ro, none⟩), .pointer (some ⟨ub, uo, none⟩), .pointer (some ⟨vb, vo, none⟩)] w fun e w' => e = .returned (.tuple #[.pointer (some ⟨rb, ro, none⟩), .int .i64 ZW]) ∧ Sets w w' rb ro Rf := by
  have hvl := hr.lt; have hul := hu.lt; have hvl2 := hv.lt; have hBl := hD0.1
  obtain ⟨hs1, hg1, ib, io, hcell, hib, hE⟩ := hD1
  have hgl : 1 < w.heap.size := by omega
  have hi : Fe w ib io iN := ⟨i5, hE, i5_bd, i5_val⟩
  clear hE
  have hCC : Hid ((0 : Int) = if sqB u v then 1 else 0) := Lib.hid (by rw [hSB.out]; rfl)
  go_enter Tryd.func27, Tryd.ntmps27
  go_wp2_with fail
  obtain ⟨R1, qR1⟩ : ∃ uu : Nat, uu = v * v % pF := ⟨_, rfl⟩
  have HR1 := Lib.hid qR1; clear qR1
  refine (square_fe (w.heap.size + 1) (0) (vb) (vo) _ _ _ (Fe.newz_at _ _ (by (try simp only [alloc_size, setRow_size]))) (Fe.alloc (Fe.alloc hv _) _) R1 HR1).mono ?_
  rintro e w1 ⟨rfl, hC1⟩
  have hs1 : w.heap.size + 1 + 1 ≤ w1.heap.size := by have := hC1.size; (try simp only [alloc_size, setRow_size] at this); omega
  replace hr : Fe w1 (rb) (ro) (r0) := (Sets.others hC1 (Fe.alloc (Fe.alloc hr _) _) (by omega))
  replace hu : Fe w1 (ub) (uo) (u) := (Sets.others hC1 (Fe.alloc (Fe.alloc hu _) _) (by omega))
  replace hv : Fe w1 (vb) (vo) (v) := (Sets.others hC1 (Fe.alloc (Fe.alloc hv _) _) (by omega))
  replace hi : Fe w1 (ib) (io) (iN) := (Sets.others hC1 (Fe.alloc (Fe.alloc hi _) _) (by omega))
  replace h19 : Fe w1 (w.heap.size) (0) (0) := (Sets.others hC1 (Fe.alloc (Fe.newz_at _ _ rfl) _) (by omega))
  replace h20 : Fe w1 (w.heap.size + 1) (0) (R1) := (Sets.fe' hC1 (Fe.newz_at _ _ (by (try simp only [alloc_size, setRow_size]))))
  have hBw1 : Hid (Below w.heap.size w w1) := Lib.hid ((below_alloc (below_alloc (Below.refl _ w) _) _).trans (hC1.below (by omega) (below_alloc (below_alloc (Below.refl _ w) _) _).size))
  clear hC1
  go_wp2_with fail
  obtain ⟨R2, qR2⟩ : ∃ uu : Nat, uu = R1 * v % pF := ⟨_, rfl⟩
  have HR2 := Lib.hid qR2; clear qR2
  refine (mul_fe (w.heap.size) (0) (w.heap.size + 1) (0) (vb) (vo) _ _ _ _ (Fe.alloc h19 _) (Fe.alloc h20 _) (Fe.alloc hv _) R2 HR2).mono ?_
  rintro e w2 ⟨rfl, hC2⟩
  have hs2 : w1.heap.size + 1 ≤ w2.heap.size := by have := hC2.size; (try simp only [alloc_size, setRow_size] at this); omega
  replace hr : Fe w2 (rb) (ro) (r0) := (Sets.others hC2 (Fe.alloc hr _) (by omega))
  replace hu : Fe w2 (ub) (uo) (u) := (Sets.others hC2 (Fe.alloc hu _) (by omega))
  replace hv : Fe w2 (vb) (vo) (v) := (Sets.others hC2 (Fe.alloc hv _) (by omega))
  replace hi : Fe w2 (ib) (io) (iN) := (Sets.others hC2 (Fe.alloc hi _) (by omega))
  replace h20 : Fe w2 (w.heap.size + 1) (0) (R1) := (Sets.others hC2 (Fe.alloc h20 _) (by omega))
  replace h23 : Fe w2 (w1.heap.size) (0) (0) := (Sets.others hC2 (Fe.newz_at _ _ rfl) (by omega))
  replace h19 : Fe w2 (w.heap.size) (0) (R2) := (Sets.fe' hC2 (Fe.alloc h19 _))
  have hBw2 : Hid (Below w.heap.size w w2) := Lib.hid ((below_alloc hBw1.out _).trans (hC2.below (by omega) (below_alloc hBw1.out _).size))
  clear hC2
  go_wp2_with fail
  obtain ⟨R3, qR3⟩ : ∃ uu : Nat, uu = u * R2 % pF := ⟨_, rfl⟩
  have HR3 := Lib.hid qR3; clear qR3
  refine (mul_fe (w1.heap.size) (0) (ub) (uo) (w.heap.size) (0) _ _ _ _ h23 hu h19 R3 HR3).mono ?_
  rintro e w3 ⟨rfl, hC3⟩
  have hs3 : w2.heap.size ≤ w3.heap.size := by have := hC3.size; (try simp only [alloc_size, setRow_size] at this); omega
  replace hr : Fe w3 (rb) (ro) (r0) := (Sets.others hC3 hr (by omega))
  replace hu : Fe w3 (ub) (uo) (u) := (Sets.others hC3 hu (by omega))
  replace hv : Fe w3 (vb) (vo) (v) := (Sets.others hC3 hv (by omega))
  replace hi : Fe w3 (ib) (io) (iN) := (Sets.others hC3 hi (by omega))
  replace h20 : Fe w3 (w.heap.size + 1) (0) (R1) := (Sets.others hC3 h20 (by omega))
  replace h19 : Fe w3 (w.heap.size) (0) (R2) := (Sets.others hC3 h19 (by omega))
  replace h23 : Fe w3 (w1.heap.size) (0) (R3) := (Sets.fe' hC3 h23)
  have hBw3 : Hid (Below w.heap.size w w3) := Lib.hid (hBw2.out.trans (hC3.below (by omega) hBw2.out.size))
  clear hC3
  go_wp2_with fail
  obtain ⟨R4, qR4⟩ : ∃ uu : Nat, uu = R1 * R1 % pF := ⟨_, rfl⟩
  have HR4 := Lib.hid qR4; clear qR4
  refine (square_fe (w.heap.size) (0) (w.heap.size + 1) (0) _ _ _ (Fe.alloc h19 _) (Fe.alloc h20 _) R4 HR4).mono ?_
  rintro e w4 ⟨rfl, hC4⟩
  have hs4 : w3.heap.size + 1 ≤ w4.heap.size := by have := hC4.size; (try simp only [alloc_size, setRow_size] at this); omega
  replace hr : Fe w4 (rb) (ro) (r0) := (Sets.others hC4 (Fe.alloc hr _) (by omega))
  replace hu : Fe w4 (ub) (uo) (u) := (Sets.others hC4 (Fe.alloc hu _) (by omega))
  replace hv : Fe w4 (vb) (vo) (v) := (Sets.others hC4 (Fe.alloc hv _) (by omega))
  replace hi : Fe w4 (ib) (io) (iN) := (Sets.others hC4 (Fe.alloc hi _) (by omega))
  replace h20 : Fe w4 (w.heap.size + 1) (0) (R1) := (Sets.others hC4 (Fe.alloc h20 _) (by omega))
  replace h23 : Fe w4 (w1.heap.size) (0) (R3) := (Sets.others hC4 (Fe.alloc h23 _) (by omega))
  replace h30 : Fe w4 (w3.heap.size) (0) (0) := (Sets.others hC4 (Fe.newz_at _ _ rfl) (by omega))
  replace h19 : Fe w4 (w.heap.size) (0) (R4) := (Sets.fe' hC4 (Fe.alloc h19 _))
  have hBw4 : Hid (Below w.heap.size w w4) := Lib.hid ((below_alloc hBw3.out _).trans (hC4.below (by omega) (below_alloc hBw3.out _).size))
  clear hC4
  go_wp2_with fail
  obtain ⟨R5, qR5⟩ : ∃ uu : Nat, uu = R3 * R4 % pF := ⟨_, rfl⟩
  have HR5 := Lib.hid qR5; clear qR5
  refine (mul_fe (w3.heap.size) (0) (w1.heap.size) (0) (w.heap.size) (0) _ _ _ _ h30 h23 h19 R5 HR5).mono ?_
  rintro e w5 ⟨rfl, hC5⟩
  have hs5 : w4.heap.size ≤ w5.heap.size := by have := hC5.size; (try simp only [alloc_size, setRow_size] at this); omega
  replace hr : Fe w5 (rb) (ro) (r0) := (Sets.others hC5 hr (by omega))
  replace hu : Fe w5 (ub) (uo) (u) := (Sets.others hC5 hu (by omega))
  replace hv : Fe w5 (vb) (vo) (v) := (Sets.others hC5 hv (by omega))
  replace hi : Fe w5 (ib) (io) (iN) := (Sets.others hC5 hi (by omega))
  replace h20 : Fe w5 (w.heap.size + 1) (0) (R1) := (Sets.others hC5 h20 (by omega))
  replace h23 : Fe w5 (w1.heap.size) (0) (R3) := (Sets.others hC5 h23 (by omega))
  replace h19 : Fe w5 (w.heap.size) (0) (R4) := (Sets.others hC5 h19 (by omega))
  replace h30 : Fe w5 (w3.heap.size) (0) (R5) := (Sets.fe' hC5 h30)
  have hBw5 : Hid (Below w.heap.size w w5) := Lib.hid (hBw4.out.trans (hC5.below (by omega) hBw4.out.size))
  clear hC5
  go_wp2_with fail
  obtain ⟨R6, qR6⟩ : ∃ uu : Nat, uu = R5 ^ eQ % pF := ⟨_, rfl⟩
  have HR6 := Lib.hid qR6; clear qR6
  refine (pow22523_to (w.heap.size) (0) (w3.heap.size) (0) _ _ _ (Fe.alloc h19 _) (Fe.alloc h30 _) R6 HR6).mono ?_
  rintro e w6 ⟨rfl, hC6⟩
  have hs6 : w5.heap.size + 1 ≤ w6.heap.size := by have := hC6.size; (try simp only [alloc_size, setRow_size] at this); omega
  replace hr : Fe w6 (rb) (ro) (r0) := (Sets.others hC6 (Fe.alloc hr _) (by omega))
  replace hu : Fe w6 (ub) (uo) (u) := (Sets.others hC6 (Fe.alloc hu _) (by omega))
  replace hv : Fe w6 (vb) (vo) (v) := (Sets.others hC6 (Fe.alloc hv _) (by omega))
  replace hi : Fe w6 (ib) (io) (iN) := (Sets.others hC6 (Fe.alloc hi _) (by omega))
  replace h20 : Fe w6 (w.heap.size + 1) (0) (R1) := (Sets.others hC6 (Fe.alloc h20 _) (by omega))
  replace h23 : Fe w6 (w1.heap.size) (0) (R3) := (Sets.others hC6 (Fe.alloc h23 _) (by omega))
  replace h30 : Fe w6 (w3.heap.size) (0) (R5) := (Sets.others hC6 (Fe.alloc h30 _) (by omega))
  replace h36 : Fe w6 (w5.heap.size) (0) (0) := (Sets.others hC6 (Fe.newz_at _ _ rfl) (by omega))
  replace h19 : Fe w6 (w.heap.size) (0) (R6) := (Sets.fe' hC6 (Fe.alloc h19 _))
  have hBw6 : Hid (Below w.heap.size w w6) := Lib.hid ((below_alloc hBw5.out _).trans (hC6.below (by omega) (below_alloc hBw5.out _).size))
  clear hC6
  go_wp2_with fail
  obtain ⟨R7, qR7⟩ : ∃ uu : Nat, uu = R3 * R6 % pF := ⟨_, rfl⟩
  have HR7 := Lib.hid qR7; clear qR7
  refine (mul_fe (w5.heap.size) (0) (w1.heap.size) (0) (w.heap.size) (0) _ _ _ _ h36 h23 h19 R7 HR7).mono ?_
  rintro e w7 ⟨rfl, hC7⟩
  have hs7 : w6.heap.size ≤ w7.heap.size := by have := hC7.size; (try simp only [alloc_size, setRow_size] at this); omega
  replace hr : Fe w7 (rb) (ro) (r0) := (Sets.others hC7 hr (by omega))
  replace hu : Fe w7 (ub) (uo) (u) := (Sets.others hC7 hu (by omega))
  replace hv : Fe w7 (vb) (vo) (v) := (Sets.others hC7 hv (by omega))
  replace hi : Fe w7 (ib) (io) (iN) := (Sets.others hC7 hi (by omega))
  replace h20 : Fe w7 (w.heap.size + 1) (0) (R1) := (Sets.others hC7 h20 (by omega))
  replace h23 : Fe w7 (w1.heap.size) (0) (R3) := (Sets.others hC7 h23 (by omega))
  replace h30 : Fe w7 (w3.heap.size) (0) (R5) := (Sets.others hC7 h30 (by omega))
  replace h19 : Fe w7 (w.heap.size) (0) (R6) := (Sets.others hC7 h19 (by omega))
  replace h36 : Fe w7 (w5.heap.size) (0) (R7) := (Sets.fe' hC7 h36)
  have hBw7 : Hid (Below w.heap.size w w7) := Lib.hid (hBw6.out.trans (hC7.below (by omega) hBw6.out.size))
  clear hC7
  go_wp2_with fail
  obtain ⟨R8, qR8⟩ : ∃ uu : Nat, uu = R7 * R7 % pF := ⟨_, rfl⟩
  have HR8 := Lib.hid qR8; clear qR8
  refine (square_fe (w.heap.size) (0) (w5.heap.size) (0) _ _ _ (Fe.alloc h19 _) (Fe.alloc h36 _) R8 HR8).mono ?_
  rintro e w8 ⟨rfl, hC8⟩
  have hs8 : w7.heap.size + 1 ≤ w8.heap.size := by have := hC8.size; (try simp only [alloc_size, setRow_size] at this); omega
  replace hr : Fe w8 (rb) (ro) (r0) := (Sets.others hC8 (Fe.alloc hr _) (by omega))
  replace hu : Fe w8 (ub) (uo) (u) := (Sets.others hC8 (Fe.alloc hu _) (by omega))
  replace hv : Fe w8 (vb) (vo) (v) := (Sets.others hC8 (Fe.alloc hv _) (by omega))
  replace hi : Fe w8 (ib) (io) (iN) := (Sets.others hC8 (Fe.alloc hi _) (by omega))
  replace h20 : Fe w8 (w.heap.size + 1) (0) (R1) := (Sets.others hC8 (Fe.alloc h20 _) (by omega))
  replace h23 : Fe w8 (w1.heap.size) (0) (R3) := (Sets.others hC8 (Fe.alloc h23 _) (by omega))
  replace h30 : Fe w8 (w3.heap.size) (0) (R5) := (Sets.others hC8 (Fe.alloc h30 _) (by omega))
  replace h36 : Fe w8 (w5.heap.size) (0) (R7) := (Sets.others hC8 (Fe.alloc h36 _) (by omega))
  replace h42 : Fe w8 (w7.heap.size) (0) (0) := (Sets.others hC8 (Fe.newz_at _ _ rfl) (by omega))
  replace h19 : Fe w8 (w.heap.size) (0) (R8) := (Sets.fe' hC8 (Fe.alloc h19 _))
  have hBw8 : Hid (Below w.heap.size w w8) := Lib.hid ((below_alloc hBw7.out _).trans (hC8.below (by omega) (below_alloc hBw7.out _).size))
  clear hC8
  go_wp2_with fail
  obtain ⟨R9, qR9⟩ : ∃ uu : Nat, uu = v * R8 % pF := ⟨_, rfl⟩
  have HR9 := Lib.hid qR9; clear qR9
  refine (mul_fe (w7.heap.size) (0) (vb) (vo) (w.heap.size) (0) _ _ _ _ h42 hv h19 R9 HR9).mono ?_
  rintro e w9 ⟨rfl, hC9⟩
  have hs9 : w8.heap.size ≤ w9.heap.size := by have := hC9.size; (try simp only [alloc_size, setRow_size] at this); omega
  replace hr : Fe w9 (rb) (ro) (r0) := (Sets.others hC9 hr (by omega))
  replace hu : Fe w9 (ub) (uo) (u) := (Sets.others hC9 hu (by omega))
  replace hv : Fe w9 (vb) (vo) (v) := (Sets.others hC9 hv (by omega))
  replace hi : Fe w9 (ib) (io) (iN) := (Sets.others hC9 hi (by omega))
  replace h20 : Fe w9 (w.heap.size + 1) (0) (R1) := (Sets.others hC9 h20 (by omega))
  replace h23 : Fe w9 (w1.heap.size) (0) (R3) := (Sets.others hC9 h23 (by omega))
  replace h30 : Fe w9 (w3.heap.size) (0) (R5) := (Sets.others hC9 h30 (by omega))
  replace h36 : Fe w9 (w5.heap.size) (0) (R7) := (Sets.others hC9 h36 (by omega))
  replace h19 : Fe w9 (w.heap.size) (0) (R8) := (Sets.others hC9 h19 (by omega))
  replace h42 : Fe w9 (w7.heap.size) (0) (R9) := (Sets.fe' hC9 h42)
  have hBw9 : Hid (Below w.heap.size w w9) := Lib.hid (hBw8.out.trans (hC9.below (by omega) hBw8.out.size))
  clear hC9
  go_wp2_with fail
  obtain ⟨R10, qR10⟩ : ∃ uu : Nat, uu = (pF - u) % pF := ⟨_, rfl⟩
  have HR10 := Lib.hid qR10; clear qR10
  refine (neg_fe (w9.heap.size) (0) (ub) (uo) _ _ B _ (hD0.later (below_alloc hBw9.out _)) (by omega) (Fe.newz_at _ _ rfl) (Fe.alloc hu _) (apart_blk _ _ _ _ (by omega)) R10 HR10).mono ?_
  rintro e w10 ⟨rfl, hC10⟩
  have hs10 : w9.heap.size + 1 ≤ w10.heap.size := by have := hC10.size; (try simp only [alloc_size, setRow_size] at this); omega
  replace hr : Fe w10 (rb) (ro) (r0) := (Sets.others hC10 (Fe.alloc hr _) (by omega))
  replace hu : Fe w10 (ub) (uo) (u) := (Sets.others hC10 (Fe.alloc hu _) (by omega))
  replace hv : Fe w10 (vb) (vo) (v) := (Sets.others hC10 (Fe.alloc hv _) (by omega))
  replace hi : Fe w10 (ib) (io) (iN) := (Sets.others hC10 (Fe.alloc hi _) (by omega))
  replace h20 : Fe w10 (w.heap.size + 1) (0) (R1) := (Sets.others hC10 (Fe.alloc h20 _) (by omega))
  replace h23 : Fe w10 (w1.heap.size) (0) (R3) := (Sets.others hC10 (Fe.alloc h23 _) (by omega))
  replace h30 : Fe w10 (w3.heap.size) (0) (R5) := (Sets.others hC10 (Fe.alloc h30 _) (by omega))
  replace h36 : Fe w10 (w5.heap.size) (0) (R7) := (Sets.others hC10 (Fe.alloc h36 _) (by omega))
  replace h19 : Fe w10 (w.heap.size) (0) (R8) := (Sets.others hC10 (Fe.alloc h19 _) (by omega))
  replace h42 : Fe w10 (w7.heap.size) (0) (R9) := (Sets.others hC10 (Fe.alloc h42 _) (by omega))
  replace h48 : Fe w10 (w9.heap.size) (0) (R10) := (Sets.fe' hC10 (Fe.newz_at _ _ rfl))
  have hBw10 : Hid (Below w.heap.size w w10) := Lib.hid ((below_alloc hBw9.out _).trans (hC10.below (by omega) (below_alloc hBw9.out _).size))
  clear hC10
  obtain ⟨Z1, q1⟩ : ∃ Z : Int, Hid (Z = if R9 = u then 1 else 0) := ⟨_, rfl⟩
  obtain ⟨Z2, q2⟩ : ∃ Z : Int, Hid (Z = if R9 = R10 then 1 else 0) := ⟨_, rfl⟩
  obtain ⟨Z3, q3⟩ : ∃ Z : Int, Hid (Z = if R9 = R10 * iN % pF then 1 else 0) := ⟨_, rfl⟩
  have K1 := HR1
  have K2 := HR2
  have K3 := HR3
  have K4 := HR4
  have K5 := HR5
  have K6 := HR6
  have K7 := HR7
  have K8 := HR8
  have K9 := HR9
  have K10 := HR10
  have hc : R9 = sqC u v := by
      simp only [HR10.out, HR9.out, HR8.out, HR7.out, HR6.out, HR5.out, HR4.out, HR3.out, HR2.out, HR1.out]; rfl
  have hrr : R7 = sqRR u v := by
      simp only [HR10.out, HR9.out, HR8.out, HR7.out, HR6.out, HR5.out, HR4.out, HR3.out, HR2.out, HR1.out]; rfl
  have hun : R10 = (pF - u) % pF := HR10.out
  have hW1 := Lib.hid (zor1 u v _ _ _ hc hun q1.out q2.out hZW.out)
  have hW2 := Lib.hid (zor2 u v _ _ _ hc hun q2.out q3.out hCC.out)
  have Hrr := Lib.hid hrr; clear hc hrr hun
  have o1 := hW1.out; have o2 := hW2.out
  go_wp2_with fail
  refine (Equal_any (w7.heap.size) (0) (ub) (uo) _ _ _ h42 hu Z1 (by exact q1)).mono ?_
  rintro e w11 ⟨rfl, hC11⟩
  have hs11 : w10.heap.size ≤ w11.heap.size := by have := hC11.size; (try simp only [alloc_size, setRow_size] at this); omega
  replace hr : Fe w11 (rb) (ro) (r0) := (Fe.below_all hr hC11)
  replace hu : Fe w11 (ub) (uo) (u) := (Fe.below_all hu hC11)
  replace hv : Fe w11 (vb) (vo) (v) := (Fe.below_all hv hC11)
  replace hi : Fe w11 (ib) (io) (iN) := (Fe.below_all hi hC11)
  replace h20 : Fe w11 (w.heap.size + 1) (0) (R1) := (Fe.below_all h20 hC11)
  replace h23 : Fe w11 (w1.heap.size) (0) (R3) := (Fe.below_all h23 hC11)
  replace h30 : Fe w11 (w3.heap.size) (0) (R5) := (Fe.below_all h30 hC11)
  replace h36 : Fe w11 (w5.heap.size) (0) (R7) := (Fe.below_all h36 hC11)
  replace h19 : Fe w11 (w.heap.size) (0) (R8) := (Fe.below_all h19 hC11)
  replace h42 : Fe w11 (w7.heap.size) (0) (R9) := (Fe.below_all h42 hC11)
  replace h48 : Fe w11 (w9.heap.size) (0) (R10) := (Fe.below_all h48 hC11)
  have hBw11 : Hid (Below w.heap.size w w11) := Lib.hid (below_call hBw10.out hC11)
  clear hC11
  go_wp2_with fail
  refine (Equal_any (w7.heap.size) (0) (w9.heap.size) (0) _ _ _ h42 h48 Z2 (by exact q2)).mono ?_
  rintro e w12 ⟨rfl, hC12⟩
  have hs12 : w11.heap.size ≤ w12.heap.size := by have := hC12.size; (try simp only [alloc_size, setRow_size] at this); omega
  replace hr : Fe w12 (rb) (ro) (r0) := (Fe.below_all hr hC12)
  replace hu : Fe w12 (ub) (uo) (u) := (Fe.below_all hu hC12)
  replace hv : Fe w12 (vb) (vo) (v) := (Fe.below_all hv hC12)
  replace hi : Fe w12 (ib) (io) (iN) := (Fe.below_all hi hC12)
  replace h20 : Fe w12 (w.heap.size + 1) (0) (R1) := (Fe.below_all h20 hC12)
  replace h23 : Fe w12 (w1.heap.size) (0) (R3) := (Fe.below_all h23 hC12)
  replace h30 : Fe w12 (w3.heap.size) (0) (R5) := (Fe.below_all h30 hC12)
  replace h36 : Fe w12 (w5.heap.size) (0) (R7) := (Fe.below_all h36 hC12)
  replace h19 : Fe w12 (w.heap.size) (0) (R8) := (Fe.below_all h19 hC12)
  replace h42 : Fe w12 (w7.heap.size) (0) (R9) := (Fe.below_all h42 hC12)
  replace h48 : Fe w12 (w9.heap.size) (0) (R10) := (Fe.below_all h48 hC12)
  have hBw12 : Hid (Below w.heap.size w w12) := Lib.hid (below_call hBw11.out hC12)
  clear hC12
  have hci := ((hBw12.out).cell (p := ⟨1, 0, none⟩) hgl).trans hcell
  have HRx : Hid (Z3 = if R9 = R10 * iN % pF then 1 else 0) := q3
  go_wp2_with fail
  obtain ⟨R11, qR11⟩ : ∃ uu : Nat, uu = R10 * iN % pF := ⟨_, rfl⟩
  have HR11 := Lib.hid qR11; clear qR11
  refine (mul_fe (w.heap.size) (0) (w9.heap.size) (0) (ib) (io) _ _ _ _ h19 h48 hi R11 HR11).mono ?_
  rintro e w13 ⟨rfl, hC13⟩
  have hs13 : w12.heap.size ≤ w13.heap.size := by have := hC13.size; (try simp only [alloc_size, setRow_size] at this); omega
  replace hr : Fe w13 (rb) (ro) (r0) := (Sets.others hC13 hr (by omega))
  replace hu : Fe w13 (ub) (uo) (u) := (Sets.others hC13 hu (by omega))
  replace hv : Fe w13 (vb) (vo) (v) := (Sets.others hC13 hv (by omega))
  replace hi : Fe w13 (ib) (io) (iN) := (Sets.others hC13 hi (by omega))
  replace h20 : Fe w13 (w.heap.size + 1) (0) (R1) := (Sets.others hC13 h20 (by omega))
  replace h23 : Fe w13 (w1.heap.size) (0) (R3) := (Sets.others hC13 h23 (by omega))
  replace h30 : Fe w13 (w3.heap.size) (0) (R5) := (Sets.others hC13 h30 (by omega))
  replace h36 : Fe w13 (w5.heap.size) (0) (R7) := (Sets.others hC13 h36 (by omega))
  replace h42 : Fe w13 (w7.heap.size) (0) (R9) := (Sets.others hC13 h42 (by omega))
  replace h48 : Fe w13 (w9.heap.size) (0) (R10) := (Sets.others hC13 h48 (by omega))
  replace h19 : Fe w13 (w.heap.size) (0) (R11) := (Sets.fe' hC13 h19)
  have hBw13 : Hid (Below w.heap.size w w13) := Lib.hid (hBw12.out.trans (hC13.below (by omega) hBw12.out.size))
  clear hC13
  go_wp2_with fail
  refine (Equal_any (w7.heap.size) (0) (w.heap.size) (0) _ _ _ h42 h19 Z3 (Lib.hid (by rw [HR11.out]; exact q3.out))).mono ?_
  rintro e w14 ⟨rfl, hC14⟩
  have hs14 : w13.heap.size ≤ w14.heap.size := by have := hC14.size; (try simp only [alloc_size, setRow_size] at this); omega
  replace hr : Fe w14 (rb) (ro) (r0) := (Fe.below_all hr hC14)
  replace hu : Fe w14 (ub) (uo) (u) := (Fe.below_all hu hC14)
  replace hv : Fe w14 (vb) (vo) (v) := (Fe.below_all hv hC14)
  replace hi : Fe w14 (ib) (io) (iN) := (Fe.below_all hi hC14)
  replace h20 : Fe w14 (w.heap.size + 1) (0) (R1) := (Fe.below_all h20 hC14)
  replace h23 : Fe w14 (w1.heap.size) (0) (R3) := (Fe.below_all h23 hC14)
  replace h30 : Fe w14 (w3.heap.size) (0) (R5) := (Fe.below_all h30 hC14)
  replace h36 : Fe w14 (w5.heap.size) (0) (R7) := (Fe.below_all h36 hC14)
  replace h42 : Fe w14 (w7.heap.size) (0) (R9) := (Fe.below_all h42 hC14)
  replace h48 : Fe w14 (w9.heap.size) (0) (R10) := (Fe.below_all h48 hC14)
  replace h19 : Fe w14 (w.heap.size) (0) (R11) := (Fe.below_all h19 hC14)
  have hBw14 : Hid (Below w.heap.size w w14) := Lib.hid (below_call hBw13.out hC14)
  clear hC14
  have hci : (w14.alloc (.cells #[.int .u64 0, .int .u64 0, .int .u64 0, .int .u64 0, .int .u64 0] 50)).cell? ⟨1, 0, none⟩ = some (.pointer (some ⟨ib, io, none⟩)) := ((below_alloc hBw14.out _).cell (p := ⟨1, 0, none⟩) hgl).trans hcell
  go_wp2_with fail
  obtain ⟨R12, qR12⟩ : ∃ uu : Nat, uu = R7 * iN % pF := ⟨_, rfl⟩
  have HR12 := Lib.hid qR12; clear qR12
  refine (mul_fe (w14.heap.size) (0) (w5.heap.size) (0) (ib) (io) _ _ _ _ (Fe.newz_at _ _ rfl) (Fe.alloc h36 _) (Fe.alloc hi _) R12 HR12).mono ?_
  rintro e w15 ⟨rfl, hC15⟩
  have hs15 : w14.heap.size + 1 ≤ w15.heap.size := by have := hC15.size; (try simp only [alloc_size, setRow_size] at this); omega
  replace hr : Fe w15 (rb) (ro) (r0) := (Sets.others hC15 (Fe.alloc hr _) (by omega))
  replace hu : Fe w15 (ub) (uo) (u) := (Sets.others hC15 (Fe.alloc hu _) (by omega))
  replace hv : Fe w15 (vb) (vo) (v) := (Sets.others hC15 (Fe.alloc hv _) (by omega))
  replace hi : Fe w15 (ib) (io) (iN) := (Sets.others hC15 (Fe.alloc hi _) (by omega))
  replace h20 : Fe w15 (w.heap.size + 1) (0) (R1) := (Sets.others hC15 (Fe.alloc h20 _) (by omega))
  replace h23 : Fe w15 (w1.heap.size) (0) (R3) := (Sets.others hC15 (Fe.alloc h23 _) (by omega))
  replace h30 : Fe w15 (w3.heap.size) (0) (R5) := (Sets.others hC15 (Fe.alloc h30 _) (by omega))
  replace h36 : Fe w15 (w5.heap.size) (0) (R7) := (Sets.others hC15 (Fe.alloc h36 _) (by omega))
  replace h42 : Fe w15 (w7.heap.size) (0) (R9) := (Sets.others hC15 (Fe.alloc h42 _) (by omega))
  replace h48 : Fe w15 (w9.heap.size) (0) (R10) := (Sets.others hC15 (Fe.alloc h48 _) (by omega))
  replace h19 : Fe w15 (w.heap.size) (0) (R11) := (Sets.others hC15 (Fe.alloc h19 _) (by omega))
  replace h63 : Fe w15 (w14.heap.size) (0) (R12) := (Sets.fe' hC15 (Fe.newz_at _ _ rfl))
  have hBw15 : Hid (Below w.heap.size w w15) := Lib.hid ((below_alloc hBw14.out _).trans (hC15.below (by omega) (below_alloc hBw14.out _).size))
  clear hC15
  go_wp2_with fail
  refine (select_fe0 (w5.heap.size) (0) (w14.heap.size) (0) (w5.heap.size) (0) _ _ _ (apart_blk _ _ _ _ (by omega)) (Or.inl ⟨rfl, rfl⟩) _ h36 h63 h36).mono ?_
  rintro e w16 ⟨rfl, hC16⟩
  have hs16 : w15.heap.size ≤ w16.heap.size := by have := hC16.size; (try simp only [alloc_size, setRow_size] at this); omega
  replace hr : Fe w16 (rb) (ro) (r0) := (Sets.others hC16 hr (by omega))
  replace hu : Fe w16 (ub) (uo) (u) := (Sets.others hC16 hu (by omega))
  replace hv : Fe w16 (vb) (vo) (v) := (Sets.others hC16 hv (by omega))
  replace hi : Fe w16 (ib) (io) (iN) := (Sets.others hC16 hi (by omega))
  replace h20 : Fe w16 (w.heap.size + 1) (0) (R1) := (Sets.others hC16 h20 (by omega))
  replace h23 : Fe w16 (w1.heap.size) (0) (R3) := (Sets.others hC16 h23 (by omega))
  replace h30 : Fe w16 (w3.heap.size) (0) (R5) := (Sets.others hC16 h30 (by omega))
  replace h42 : Fe w16 (w7.heap.size) (0) (R9) := (Sets.others hC16 h42 (by omega))
  replace h48 : Fe w16 (w9.heap.size) (0) (R10) := (Sets.others hC16 h48 (by omega))
  replace h19 : Fe w16 (w.heap.size) (0) (R11) := (Sets.others hC16 h19 (by omega))
  replace h63 : Fe w16 (w14.heap.size) (0) (R12) := (Sets.others hC16 h63 (by omega))
  replace h36 : Fe w16 (w5.heap.size) (0) (R7) := (Sets.fe' hC16 h36)
  have hBw16 : Hid (Below w.heap.size w w16) := Lib.hid (hBw15.out.trans (hC16.below (by omega) hBw15.out.size))
  clear hC16
  have HF : Hid (Rf = absN R7) := Lib.hid (by rw [hRf.out]; unfold sqR; rw [hSB.out]; simp only [if_true, if_false, Bool.false_eq_true, ↓reduceIte]; rw [← Hrr.out])
  go_wp2_with fail
  refine (absolute_fe rb ro (w5.heap.size) (0) _ _ B (apart_blk _ _ _ _ (by omega)) _ (hD0.later hBw16.out) hr h36 Rf HF).mono ?_
  rintro e w17 ⟨rfl, hC17⟩
  go_wp2
  go_ret2
  exact ⟨rfl, Sets.ahead hBw16.out hC17 hvl⟩

set_option maxHeartbeats 4000000 in
theorem sqrt_raw1 (rb ro ub uo vb vo u v r0 B Rf : Nat) (ZW : Int) (hRf : Hid (Rf = sqR u v)) (hZW : Hid (ZW = if sqW u v then 1 else 0)) (hSB : Hid (sqB u v = true)) (w : World) (hD0 : Var 0 z5 B w) (hD1 : Var 1 i5 B w) (hr : Fe w rb ro r0) (hu : Fe w ub uo u) (hv : Fe w vb vo v) :
    Calls Tryd.prog 27 #[.pointer (some ⟨rb, ro, none⟩), .pointer (some ⟨ub, uo, none⟩), .pointer (some ⟨vb, vo, none⟩)] w fun e w' => e = .returned (.tuple #[.pointer (some ⟨rb, ro, none⟩), .int .i64 ZW]) ∧ Sets w w' rb ro Rf := by
  have hvl := hr.lt; have hul := hu.lt; have hvl2 := hv.lt; have hBl := hD0.1
  obtain ⟨hs1, hg1, ib, io, hcell, hib, hE⟩ := hD1
  have hgl : 1 < w.heap.size := by omega
  have hi : Fe w ib io iN := ⟨i5, hE, i5_bd, i5_val⟩
  clear hE
  have hCC : Hid ((1 : Int) = if sqB u v then 1 else 0) := Lib.hid (by rw [hSB.out]; rfl)
  go_enter Tryd.func27, Tryd.ntmps27
  go_wp2_with fail
  obtain ⟨R1, qR1⟩ : ∃ uu : Nat, uu = v * v % pF := ⟨_, rfl⟩
  have HR1 := Lib.hid qR1; clear qR1
  refine (square_fe (w.heap.size + 1) (0) (vb) (vo) _ _ _ (Fe.newz_at _ _ (by (try simp only [alloc_size, setRow_size]))) (Fe.alloc (Fe.alloc hv _) _) R1 HR1).mono ?_
  rintro e w1 ⟨rfl, hC1⟩
  have hs1 : w.heap.size + 1 + 1 ≤ w1.heap.size := by have := hC1.size; (try simp only [alloc_size, setRow_size] at this); omega
  replace hr : Fe w1 (rb) (ro) (r0) := (Sets.others hC1 (Fe.alloc (Fe.alloc hr _) _) (by omega))
  replace hu : Fe w1 (ub) (uo) (u) := (Sets.others hC1 (Fe.alloc (Fe.alloc hu _) _) (by omega))
  replace hv : Fe w1 (vb) (vo) (v) := (Sets.others hC1 (Fe.alloc (Fe.alloc hv _) _) (by omega))
  replace hi : Fe w1 (ib) (io) (iN) := (Sets.others hC1 (Fe.alloc (Fe.alloc hi _) _) (by omega))
  replace h19 : Fe w1 (w.heap.size) (0) (0) := (Sets.others hC1 (Fe.alloc (Fe.newz_at _ _ rfl) _) (by omega))
  replace h20 : Fe w1 (w.heap.size + 1) (0) (R1) := (Sets.fe' hC1 (Fe.newz_at _ _ (by (try simp only [alloc_size, setRow_size]))))
  have hBw1 : Hid (Below w.heap.size w w1) := Lib.hid ((below_alloc (below_alloc (Below.refl _ w) _) _).trans (hC1.below (by omega) (below_alloc (below_alloc (Below.refl _ w) _) _).size))
  clear hC1
  go_wp2_with fail
  obtain ⟨R2, qR2⟩ : ∃ uu : Nat, uu = R1 * v % pF := ⟨_, rfl⟩
  have HR2 := Lib.hid qR2; clear qR2
  refine (mul_fe (w.heap.size) (0) (w.heap.size + 1) (0) (vb) (vo) _ _ _ _ (Fe.alloc h19 _) (Fe.alloc h20 _) (Fe.alloc hv _) R2 HR2).mono ?_
  rintro e w2 ⟨rfl, hC2⟩
  have hs2 : w1.heap.size + 1 ≤ w2.heap.size := by have := hC2.size; (try simp only [alloc_size, setRow_size] at this); omega
  replace hr : Fe w2 (rb) (ro) (r0) := (Sets.others hC2 (Fe.alloc hr _) (by omega))
  replace hu : Fe w2 (ub) (uo) (u) := (Sets.others hC2 (Fe.alloc hu _) (by omega))
  replace hv : Fe w2 (vb) (vo) (v) := (Sets.others hC2 (Fe.alloc hv _) (by omega))
  replace hi : Fe w2 (ib) (io) (iN) := (Sets.others hC2 (Fe.alloc hi _) (by omega))
  replace h20 : Fe w2 (w.heap.size + 1) (0) (R1) := (Sets.others hC2 (Fe.alloc h20 _) (by omega))
  replace h23 : Fe w2 (w1.heap.size) (0) (0) := (Sets.others hC2 (Fe.newz_at _ _ rfl) (by omega))
  replace h19 : Fe w2 (w.heap.size) (0) (R2) := (Sets.fe' hC2 (Fe.alloc h19 _))
  have hBw2 : Hid (Below w.heap.size w w2) := Lib.hid ((below_alloc hBw1.out _).trans (hC2.below (by omega) (below_alloc hBw1.out _).size))
  clear hC2
  go_wp2_with fail
  obtain ⟨R3, qR3⟩ : ∃ uu : Nat, uu = u * R2 % pF := ⟨_, rfl⟩
  have HR3 := Lib.hid qR3; clear qR3
  refine (mul_fe (w1.heap.size) (0) (ub) (uo) (w.heap.size) (0) _ _ _ _ h23 hu h19 R3 HR3).mono ?_
  rintro e w3 ⟨rfl, hC3⟩
  have hs3 : w2.heap.size ≤ w3.heap.size := by have := hC3.size; (try simp only [alloc_size, setRow_size] at this); omega
  replace hr : Fe w3 (rb) (ro) (r0) := (Sets.others hC3 hr (by omega))
  replace hu : Fe w3 (ub) (uo) (u) := (Sets.others hC3 hu (by omega))
  replace hv : Fe w3 (vb) (vo) (v) := (Sets.others hC3 hv (by omega))
  replace hi : Fe w3 (ib) (io) (iN) := (Sets.others hC3 hi (by omega))
  replace h20 : Fe w3 (w.heap.size + 1) (0) (R1) := (Sets.others hC3 h20 (by omega))
  replace h19 : Fe w3 (w.heap.size) (0) (R2) := (Sets.others hC3 h19 (by omega))
  replace h23 : Fe w3 (w1.heap.size) (0) (R3) := (Sets.fe' hC3 h23)
  have hBw3 : Hid (Below w.heap.size w w3) := Lib.hid (hBw2.out.trans (hC3.below (by omega) hBw2.out.size))
  clear hC3
  go_wp2_with fail
  obtain ⟨R4, qR4⟩ : ∃ uu : Nat, uu = R1 * R1 % pF := ⟨_, rfl⟩
  have HR4 := Lib.hid qR4; clear qR4
  refine (square_fe (w.heap.size) (0) (w.heap.size + 1) (0) _ _ _ (Fe.alloc h19 _) (Fe.alloc h20 _) R4 HR4).mono ?_
  rintro e w4 ⟨rfl, hC4⟩
  have hs4 : w3.heap.size + 1 ≤ w4.heap.size := by have := hC4.size; (try simp only [alloc_size, setRow_size] at this); omega
  replace hr : Fe w4 (rb) (ro) (r0) := (Sets.others hC4 (Fe.alloc hr _) (by omega))
  replace hu : Fe w4 (ub) (uo) (u) := (Sets.others hC4 (Fe.alloc hu _) (by omega))
  replace hv : Fe w4 (vb) (vo) (v) := (Sets.others hC4 (Fe.alloc hv _) (by omega))
  replace hi : Fe w4 (ib) (io) (iN) := (Sets.others hC4 (Fe.alloc hi _) (by omega))
  replace h20 : Fe w4 (w.heap.size + 1) (0) (R1) := (Sets.others hC4 (Fe.alloc h20 _) (by omega))
  replace h23 : Fe w4 (w1.heap.size) (0) (R3) := (Sets.others hC4 (Fe.alloc h23 _) (by omega))
  replace h30 : Fe w4 (w3.heap.size) (0) (0) := (Sets.others hC4 (Fe.newz_at _ _ rfl) (by omega))
  replace h19 : Fe w4 (w.heap.size) (0) (R4) := (Sets.fe' hC4 (Fe.alloc h19 _))
  have hBw4 : Hid (Below w.heap.size w w4) := Lib.hid ((below_alloc hBw3.out _).trans (hC4.below (by omega) (below_alloc hBw3.out _).size))
  clear hC4
  go_wp2_with fail
  obtain ⟨R5, qR5⟩ : ∃ uu : Nat, uu = R3 * R4 % pF := ⟨_, rfl⟩
  have HR5 := Lib.hid qR5; clear qR5
  refine (mul_fe (w3.heap.size) (0) (w1.heap.size) (0) (w.heap.size) (0) _ _ _ _ h30 h23 h19 R5 HR5).mono ?_
  rintro e w5 ⟨rfl, hC5⟩
  have hs5 : w4.heap.size ≤ w5.heap.size := by have := hC5.size; (try simp only [alloc_size, setRow_size] at this); omega
  replace hr : Fe w5 (rb) (ro) (r0) := (Sets.others hC5 hr (by omega))
  replace hu : Fe w5 (ub) (uo) (u) := (Sets.others hC5 hu (by omega))
  replace hv : Fe w5 (vb) (vo) (v) := (Sets.others hC5 hv (by omega))
  replace hi : Fe w5 (ib) (io) (iN) := (Sets.others hC5 hi (by omega))
  replace h20 : Fe w5 (w.heap.size + 1) (0) (R1) := (Sets.others hC5 h20 (by omega))
  replace h23 : Fe w5 (w1.heap.size) (0) (R3) := (Sets.others hC5 h23 (by omega))
  replace h19 : Fe w5 (w.heap.size) (0) (R4) := (Sets.others hC5 h19 (by omega))
  replace h30 : Fe w5 (w3.heap.size) (0) (R5) := (Sets.fe' hC5 h30)
  have hBw5 : Hid (Below w.heap.size w w5) := Lib.hid (hBw4.out.trans (hC5.below (by omega) hBw4.out.size))
  clear hC5
  go_wp2_with fail
  obtain ⟨R6, qR6⟩ : ∃ uu : Nat, uu = R5 ^ eQ % pF := ⟨_, rfl⟩
  have HR6 := Lib.hid qR6; clear qR6
  refine (pow22523_to (w.heap.size) (0) (w3.heap.size) (0) _ _ _ (Fe.alloc h19 _) (Fe.alloc h30 _) R6 HR6).mono ?_
  rintro e w6 ⟨rfl, hC6⟩
  have hs6 : w5.heap.size + 1 ≤ w6.heap.size := by have := hC6.size; (try simp only [alloc_size, setRow_size] at this); omega
  replace hr : Fe w6 (rb) (ro) (r0) := (Sets.others hC6 (Fe.alloc hr _) (by omega))
  replace hu : Fe w6 (ub) (uo) (u) := (Sets.others hC6 (Fe.alloc hu _) (by omega))
  replace hv : Fe w6 (vb) (vo) (v) := (Sets.others hC6 (Fe.alloc hv _) (by omega))
  replace hi : Fe w6 (ib) (io) (iN) := (Sets.others hC6 (Fe.alloc hi _) (by omega))
  replace h20 : Fe w6 (w.heap.size + 1) (0) (R1) := (Sets.others hC6 (Fe.alloc h20 _) (by omega))
  replace h23 : Fe w6 (w1.heap.size) (0) (R3) := (Sets.others hC6 (Fe.alloc h23 _) (by omega))
  replace h30 : Fe w6 (w3.heap.size) (0) (R5) := (Sets.others hC6 (Fe.alloc h30 _) (by omega))
  replace h36 : Fe w6 (w5.heap.size) (0) (0) := (Sets.others hC6 (Fe.newz_at _ _ rfl) (by omega))
  replace h19 : Fe w6 (w.heap.size) (0) (R6) := (Sets.fe' hC6 (Fe.alloc h19 _))
  have hBw6 : Hid (Below w.heap.size w w6) := Lib.hid ((below_alloc hBw5.out _).trans (hC6.below (by omega) (below_alloc hBw5.out _).size))
  clear hC6
  go_wp2_with fail
  obtain ⟨R7, qR7⟩ : ∃ uu : Nat, uu = R3 * R6 % pF := ⟨_, rfl⟩
  have HR7 := Lib.hid qR7; clear qR7
  refine (mul_fe (w5.heap.size) (0) (w1.heap.size) (0) (w.heap.size) (0) _ _ _ _ h36 h23 h19 R7 HR7).mono ?_
  rintro e w7 ⟨rfl, hC7⟩
  have hs7 : w6.heap.size ≤ w7.heap.size := by have := hC7.size; (try simp only [alloc_size, setRow_size] at this); omega
  replace hr : Fe w7 (rb) (ro) (r0) := (Sets.others hC7 hr (by omega))
  replace hu : Fe w7 (ub) (uo) (u) := (Sets.others hC7 hu (by omega))
  replace hv : Fe w7 (vb) (vo) (v) := (Sets.others hC7 hv (by omega))
  replace hi : Fe w7 (ib) (io) (iN) := (Sets.others hC7 hi (by omega))
  replace h20 : Fe w7 (w.heap.size + 1) (0) (R1) := (Sets.others hC7 h20 (by omega))
  replace h23 : Fe w7 (w1.heap.size) (0) (R3) := (Sets.others hC7 h23 (by omega))
  replace h30 : Fe w7 (w3.heap.size) (0) (R5) := (Sets.others hC7 h30 (by omega))
  replace h19 : Fe w7 (w.heap.size) (0) (R6) := (Sets.others hC7 h19 (by omega))
  replace h36 : Fe w7 (w5.heap.size) (0) (R7) := (Sets.fe' hC7 h36)
  have hBw7 : Hid (Below w.heap.size w w7) := Lib.hid (hBw6.out.trans (hC7.below (by omega) hBw6.out.size))
  clear hC7
  go_wp2_with fail
  obtain ⟨R8, qR8⟩ : ∃ uu : Nat, uu = R7 * R7 % pF := ⟨_, rfl⟩
  have HR8 := Lib.hid qR8; clear qR8
  refine (square_fe (w.heap.size) (0) (w5.heap.size) (0) _ _ _ (Fe.alloc h19 _) (Fe.alloc h36 _) R8 HR8).mono ?_
  rintro e w8 ⟨rfl, hC8⟩
  have hs8 : w7.heap.size + 1 ≤ w8.heap.size := by have := hC8.size; (try simp only [alloc_size, setRow_size] at this); omega
  replace hr : Fe w8 (rb) (ro) (r0) := (Sets.others hC8 (Fe.alloc hr _) (by omega))
  replace hu : Fe w8 (ub) (uo) (u) := (Sets.others hC8 (Fe.alloc hu _) (by omega))
  replace hv : Fe w8 (vb) (vo) (v) := (Sets.others hC8 (Fe.alloc hv _) (by omega))
  replace hi : Fe w8 (ib) (io) (iN) := (Sets.others hC8 (Fe.alloc hi _) (by omega))
  replace h20 : Fe w8 (w.heap.size + 1) (0) (R1) := (Sets.others hC8 (Fe.alloc h20 _) (by omega))
  replace h23 : Fe w8 (w1.heap.size) (0) (R3) := (Sets.others hC8 (Fe.alloc h23 _) (by omega))
  replace h30 : Fe w8 (w3.heap.size) (0) (R5) := (Sets.others hC8 (Fe.alloc h30 _) (by omega))
  replace h36 : Fe w8 (w5.heap.size) (0) (R7) := (Sets.others hC8 (Fe.alloc h36 _) (by omega))
  replace h42 : Fe w8 (w7.heap.size) (0) (0) := (Sets.others hC8 (Fe.newz_at _ _ rfl) (by omega))
  replace h19 : Fe w8 (w.heap.size) (0) (R8) := (Sets.fe' hC8 (Fe.alloc h19 _))
  have hBw8 : Hid (Below w.heap.size w w8) := Lib.hid ((below_alloc hBw7.out _).trans (hC8.below (by omega) (below_alloc hBw7.out _).size))
  clear hC8
  go_wp2_with fail
  obtain ⟨R9, qR9⟩ : ∃ uu : Nat, uu = v * R8 % pF := ⟨_, rfl⟩
  have HR9 := Lib.hid qR9; clear qR9
  refine (mul_fe (w7.heap.size) (0) (vb) (vo) (w.heap.size) (0) _ _ _ _ h42 hv h19 R9 HR9).mono ?_
  rintro e w9 ⟨rfl, hC9⟩
  have hs9 : w8.heap.size ≤ w9.heap.size := by have := hC9.size; (try simp only [alloc_size, setRow_size] at this); omega
  replace hr : Fe w9 (rb) (ro) (r0) := (Sets.others hC9 hr (by omega))
  replace hu : Fe w9 (ub) (uo) (u) := (Sets.others hC9 hu (by omega))
  replace hv : Fe w9 (vb) (vo) (v) := (Sets.others hC9 hv (by omega))
  replace hi : Fe w9 (ib) (io) (iN) := (Sets.others hC9 hi (by omega))
  replace h20 : Fe w9 (w.heap.size + 1) (0) (R1) := (Sets.others hC9 h20 (by omega))
  replace h23 : Fe w9 (w1.heap.size) (0) (R3) := (Sets.others hC9 h23 (by omega))
  replace h30 : Fe w9 (w3.heap.size) (0) (R5) := (Sets.others hC9 h30 (by omega))
  replace h36 : Fe w9 (w5.heap.size) (0) (R7) := (Sets.others hC9 h36 (by omega))
  replace h19 : Fe w9 (w.heap.size) (0) (R8) := (Sets.others hC9 h19 (by omega))
  replace h42 : Fe w9 (w7.heap.size) (0) (R9) := (Sets.fe' hC9 h42)
  have hBw9 : Hid (Below w.heap.size w w9) := Lib.hid (hBw8.out.trans (hC9.below (by omega) hBw8.out.size))
  clear hC9
  go_wp2_with fail
  obtain ⟨R10, qR10⟩ : ∃ uu : Nat, uu = (pF - u) % pF := ⟨_, rfl⟩
  have HR10 := Lib.hid qR10; clear qR10
  refine (neg_fe (w9.heap.size) (0) (ub) (uo) _ _ B _ (hD0.later (below_alloc hBw9.out _)) (by omega) (Fe.newz_at _ _ rfl) (Fe.alloc hu _) (apart_blk _ _ _ _ (by omega)) R10 HR10).mono ?_
  rintro e w10 ⟨rfl, hC10⟩
  have hs10 : w9.heap.size + 1 ≤ w10.heap.size := by have := hC10.size; (try simp only [alloc_size, setRow_size] at this); omega
  replace hr : Fe w10 (rb) (ro) (r0) := (Sets.others hC10 (Fe.alloc hr _) (by omega))
  replace hu : Fe w10 (ub) (uo) (u) := (Sets.others hC10 (Fe.alloc hu _) (by omega))
  replace hv : Fe w10 (vb) (vo) (v) := (Sets.others hC10 (Fe.alloc hv _) (by omega))
  replace hi : Fe w10 (ib) (io) (iN) := (Sets.others hC10 (Fe.alloc hi _) (by omega))
  replace h20 : Fe w10 (w.heap.size + 1) (0) (R1) := (Sets.others hC10 (Fe.alloc h20 _) (by omega))
  replace h23 : Fe w10 (w1.heap.size) (0) (R3) := (Sets.others hC10 (Fe.alloc h23 _) (by omega))
  replace h30 : Fe w10 (w3.heap.size) (0) (R5) := (Sets.others hC10 (Fe.alloc h30 _) (by omega))
  replace h36 : Fe w10 (w5.heap.size) (0) (R7) := (Sets.others hC10 (Fe.alloc h36 _) (by omega))
  replace h19 : Fe w10 (w.heap.size) (0) (R8) := (Sets.others hC10 (Fe.alloc h19 _) (by omega))
  replace h42 : Fe w10 (w7.heap.size) (0) (R9) := (Sets.others hC10 (Fe.alloc h42 _) (by omega))
  replace h48 : Fe w10 (w9.heap.size) (0) (R10) := (Sets.fe' hC10 (Fe.newz_at _ _ rfl))
  have hBw10 : Hid (Below w.heap.size w w10) := Lib.hid ((below_alloc hBw9.out _).trans (hC10.below (by omega) (below_alloc hBw9.out _).size))
  clear hC10
  obtain ⟨Z1, q1⟩ : ∃ Z : Int, Hid (Z = if R9 = u then 1 else 0) := ⟨_, rfl⟩
  obtain ⟨Z2, q2⟩ : ∃ Z : Int, Hid (Z = if R9 = R10 then 1 else 0) := ⟨_, rfl⟩
  obtain ⟨Z3, q3⟩ : ∃ Z : Int, Hid (Z = if R9 = R10 * iN % pF then 1 else 0) := ⟨_, rfl⟩
  have K1 := HR1
  have K2 := HR2
  have K3 := HR3
  have K4 := HR4
  have K5 := HR5
  have K6 := HR6
  have K7 := HR7
  have K8 := HR8
  have K9 := HR9
  have K10 := HR10
  have hc : R9 = sqC u v := by
      simp only [HR10.out, HR9.out, HR8.out, HR7.out, HR6.out, HR5.out, HR4.out, HR3.out, HR2.out, HR1.out]; rfl
  have hrr : R7 = sqRR u v := by
      simp only [HR10.out, HR9.out, HR8.out, HR7.out, HR6.out, HR5.out, HR4.out, HR3.out, HR2.out, HR1.out]; rfl
  have hun : R10 = (pF - u) % pF := HR10.out
  have hW1 := Lib.hid (zor1 u v _ _ _ hc hun q1.out q2.out hZW.out)
  have hW2 := Lib.hid (zor2 u v _ _ _ hc hun q2.out q3.out hCC.out)
  have Hrr := Lib.hid hrr; clear hc hrr hun
  have o1 := hW1.out; have o2 := hW2.out
  go_wp2_with fail
  refine (Equal_any (w7.heap.size) (0) (ub) (uo) _ _ _ h42 hu Z1 (by exact q1)).mono ?_
  rintro e w11 ⟨rfl, hC11⟩
  have hs11 : w10.heap.size ≤ w11.heap.size := by have := hC11.size; (try simp only [alloc_size, setRow_size] at this); omega
  replace hr : Fe w11 (rb) (ro) (r0) := (Fe.below_all hr hC11)
  replace hu : Fe w11 (ub) (uo) (u) := (Fe.below_all hu hC11)
  replace hv : Fe w11 (vb) (vo) (v) := (Fe.below_all hv hC11)
  replace hi : Fe w11 (ib) (io) (iN) := (Fe.below_all hi hC11)
  replace h20 : Fe w11 (w.heap.size + 1) (0) (R1) := (Fe.below_all h20 hC11)
  replace h23 : Fe w11 (w1.heap.size) (0) (R3) := (Fe.below_all h23 hC11)
  replace h30 : Fe w11 (w3.heap.size) (0) (R5) := (Fe.below_all h30 hC11)
  replace h36 : Fe w11 (w5.heap.size) (0) (R7) := (Fe.below_all h36 hC11)
  replace h19 : Fe w11 (w.heap.size) (0) (R8) := (Fe.below_all h19 hC11)
  replace h42 : Fe w11 (w7.heap.size) (0) (R9) := (Fe.below_all h42 hC11)
  replace h48 : Fe w11 (w9.heap.size) (0) (R10) := (Fe.below_all h48 hC11)
  have hBw11 : Hid (Below w.heap.size w w11) := Lib.hid (below_call hBw10.out hC11)
  clear hC11
  go_wp2_with fail
  refine (Equal_any (w7.heap.size) (0) (w9.heap.size) (0) _ _ _ h42 h48 Z2 (by exact q2)).mono ?_
  rintro e w12 ⟨rfl, hC12⟩
  have hs12 : w11.heap.size ≤ w12.heap.size := by have := hC12.size; (try simp only [alloc_size, setRow_size] at this); omega
  replace hr : Fe w12 (rb) (ro) (r0) := (Fe.below_all hr hC12)
  replace hu : Fe w12 (ub) (uo) (u) := (Fe.below_all hu hC12)
  replace hv : Fe w12 (vb) (vo) (v) := (Fe.below_all hv hC12)
  replace hi : Fe w12 (ib) (io) (iN) := (Fe.below_all hi hC12)
  replace h20 : Fe w12 (w.heap.size + 1) (0) (R1) := (Fe.below_all h20 hC12)
  replace h23 : Fe w12 (w1.heap.size) (0) (R3) := (Fe.below_all h23 hC12)
  replace h30 : Fe w12 (w3.heap.size) (0) (R5) := (Fe.below_all h30 hC12)
  replace h36 : Fe w12 (w5.heap.size) (0) (R7) := (Fe.below_all h36 hC12)
  replace h19 : Fe w12 (w.heap.size) (0) (R8) := (Fe.below_all h19 hC12)
  replace h42 : Fe w12 (w7.heap.size) (0) (R9) := (Fe.below_all h42 hC12)
  replace h48 : Fe w12 (w9.heap.size) (0) (R10) := (Fe.below_all h48 hC12)
  have hBw12 : Hid (Below w.heap.size w w12) := Lib.hid (below_call hBw11.out hC12)
  clear hC12
  have hci := ((hBw12.out).cell (p := ⟨1, 0, none⟩) hgl).trans hcell
  have HRx : Hid (Z3 = if R9 = R10 * iN % pF then 1 else 0) := q3
  go_wp2_with fail
  obtain ⟨R11, qR11⟩ : ∃ uu : Nat, uu = R10 * iN % pF := ⟨_, rfl⟩
  have HR11 := Lib.hid qR11; clear qR11
  refine (mul_fe (w.heap.size) (0) (w9.heap.size) (0) (ib) (io) _ _ _ _ h19 h48 hi R11 HR11).mono ?_
  rintro e w13 ⟨rfl, hC13⟩
  have hs13 : w12.heap.size ≤ w13.heap.size := by have := hC13.size; (try simp only [alloc_size, setRow_size] at this); omega
  replace hr : Fe w13 (rb) (ro) (r0) := (Sets.others hC13 hr (by omega))
  replace hu : Fe w13 (ub) (uo) (u) := (Sets.others hC13 hu (by omega))
  replace hv : Fe w13 (vb) (vo) (v) := (Sets.others hC13 hv (by omega))
  replace hi : Fe w13 (ib) (io) (iN) := (Sets.others hC13 hi (by omega))
  replace h20 : Fe w13 (w.heap.size + 1) (0) (R1) := (Sets.others hC13 h20 (by omega))
  replace h23 : Fe w13 (w1.heap.size) (0) (R3) := (Sets.others hC13 h23 (by omega))
  replace h30 : Fe w13 (w3.heap.size) (0) (R5) := (Sets.others hC13 h30 (by omega))
  replace h36 : Fe w13 (w5.heap.size) (0) (R7) := (Sets.others hC13 h36 (by omega))
  replace h42 : Fe w13 (w7.heap.size) (0) (R9) := (Sets.others hC13 h42 (by omega))
  replace h48 : Fe w13 (w9.heap.size) (0) (R10) := (Sets.others hC13 h48 (by omega))
  replace h19 : Fe w13 (w.heap.size) (0) (R11) := (Sets.fe' hC13 h19)
  have hBw13 : Hid (Below w.heap.size w w13) := Lib.hid (hBw12.out.trans (hC13.below (by omega) hBw12.out.size))
  clear hC13
  go_wp2_with fail
  refine (Equal_any (w7.heap.size) (0) (w.heap.size) (0) _ _ _ h42 h19 Z3 (Lib.hid (by rw [HR11.out]; exact q3.out))).mono ?_
  rintro e w14 ⟨rfl, hC14⟩
  have hs14 : w13.heap.size ≤ w14.heap.size := by have := hC14.size; (try simp only [alloc_size, setRow_size] at this); omega
  replace hr : Fe w14 (rb) (ro) (r0) := (Fe.below_all hr hC14)
  replace hu : Fe w14 (ub) (uo) (u) := (Fe.below_all hu hC14)
  replace hv : Fe w14 (vb) (vo) (v) := (Fe.below_all hv hC14)
  replace hi : Fe w14 (ib) (io) (iN) := (Fe.below_all hi hC14)
  replace h20 : Fe w14 (w.heap.size + 1) (0) (R1) := (Fe.below_all h20 hC14)
  replace h23 : Fe w14 (w1.heap.size) (0) (R3) := (Fe.below_all h23 hC14)
  replace h30 : Fe w14 (w3.heap.size) (0) (R5) := (Fe.below_all h30 hC14)
  replace h36 : Fe w14 (w5.heap.size) (0) (R7) := (Fe.below_all h36 hC14)
  replace h42 : Fe w14 (w7.heap.size) (0) (R9) := (Fe.below_all h42 hC14)
  replace h48 : Fe w14 (w9.heap.size) (0) (R10) := (Fe.below_all h48 hC14)
  replace h19 : Fe w14 (w.heap.size) (0) (R11) := (Fe.below_all h19 hC14)
  have hBw14 : Hid (Below w.heap.size w w14) := Lib.hid (below_call hBw13.out hC14)
  clear hC14
  have hci : (w14.alloc (.cells #[.int .u64 0, .int .u64 0, .int .u64 0, .int .u64 0, .int .u64 0] 50)).cell? ⟨1, 0, none⟩ = some (.pointer (some ⟨ib, io, none⟩)) := ((below_alloc hBw14.out _).cell (p := ⟨1, 0, none⟩) hgl).trans hcell
  go_wp2_with fail
  obtain ⟨R12, qR12⟩ : ∃ uu : Nat, uu = R7 * iN % pF := ⟨_, rfl⟩
  have HR12 := Lib.hid qR12; clear qR12
  refine (mul_fe (w14.heap.size) (0) (w5.heap.size) (0) (ib) (io) _ _ _ _ (Fe.newz_at _ _ rfl) (Fe.alloc h36 _) (Fe.alloc hi _) R12 HR12).mono ?_
  rintro e w15 ⟨rfl, hC15⟩
  have hs15 : w14.heap.size + 1 ≤ w15.heap.size := by have := hC15.size; (try simp only [alloc_size, setRow_size] at this); omega
  replace hr : Fe w15 (rb) (ro) (r0) := (Sets.others hC15 (Fe.alloc hr _) (by omega))
  replace hu : Fe w15 (ub) (uo) (u) := (Sets.others hC15 (Fe.alloc hu _) (by omega))
  replace hv : Fe w15 (vb) (vo) (v) := (Sets.others hC15 (Fe.alloc hv _) (by omega))
  replace hi : Fe w15 (ib) (io) (iN) := (Sets.others hC15 (Fe.alloc hi _) (by omega))
  replace h20 : Fe w15 (w.heap.size + 1) (0) (R1) := (Sets.others hC15 (Fe.alloc h20 _) (by omega))
  replace h23 : Fe w15 (w1.heap.size) (0) (R3) := (Sets.others hC15 (Fe.alloc h23 _) (by omega))
  replace h30 : Fe w15 (w3.heap.size) (0) (R5) := (Sets.others hC15 (Fe.alloc h30 _) (by omega))
  replace h36 : Fe w15 (w5.heap.size) (0) (R7) := (Sets.others hC15 (Fe.alloc h36 _) (by omega))
  replace h42 : Fe w15 (w7.heap.size) (0) (R9) := (Sets.others hC15 (Fe.alloc h42 _) (by omega))
  replace h48 : Fe w15 (w9.heap.size) (0) (R10) := (Sets.others hC15 (Fe.alloc h48 _) (by omega))
  replace h19 : Fe w15 (w.heap.size) (0) (R11) := (Sets.others hC15 (Fe.alloc h19 _) (by omega))
  replace h63 : Fe w15 (w14.heap.size) (0) (R12) := (Sets.fe' hC15 (Fe.newz_at _ _ rfl))
  have hBw15 : Hid (Below w.heap.size w w15) := Lib.hid ((below_alloc hBw14.out _).trans (hC15.below (by omega) (below_alloc hBw14.out _).size))
  clear hC15
  go_wp2_with fail
  refine (select_fe1 (w5.heap.size) (0) (w14.heap.size) (0) (w5.heap.size) (0) _ _ _ (apart_blk _ _ _ _ (by omega)) (Or.inl ⟨rfl, rfl⟩) _ h36 h63 h36).mono ?_
  rintro e w16 ⟨rfl, hC16⟩
  have hs16 : w15.heap.size ≤ w16.heap.size := by have := hC16.size; (try simp only [alloc_size, setRow_size] at this); omega
  replace hr : Fe w16 (rb) (ro) (r0) := (Sets.others hC16 hr (by omega))
  replace hu : Fe w16 (ub) (uo) (u) := (Sets.others hC16 hu (by omega))
  replace hv : Fe w16 (vb) (vo) (v) := (Sets.others hC16 hv (by omega))
  replace hi : Fe w16 (ib) (io) (iN) := (Sets.others hC16 hi (by omega))
  replace h20 : Fe w16 (w.heap.size + 1) (0) (R1) := (Sets.others hC16 h20 (by omega))
  replace h23 : Fe w16 (w1.heap.size) (0) (R3) := (Sets.others hC16 h23 (by omega))
  replace h30 : Fe w16 (w3.heap.size) (0) (R5) := (Sets.others hC16 h30 (by omega))
  replace h42 : Fe w16 (w7.heap.size) (0) (R9) := (Sets.others hC16 h42 (by omega))
  replace h48 : Fe w16 (w9.heap.size) (0) (R10) := (Sets.others hC16 h48 (by omega))
  replace h19 : Fe w16 (w.heap.size) (0) (R11) := (Sets.others hC16 h19 (by omega))
  replace h63 : Fe w16 (w14.heap.size) (0) (R12) := (Sets.others hC16 h63 (by omega))
  replace h36 : Fe w16 (w5.heap.size) (0) (R12) := (Sets.fe' hC16 h36)
  have hBw16 : Hid (Below w.heap.size w w16) := Lib.hid (hBw15.out.trans (hC16.below (by omega) hBw15.out.size))
  clear hC16
  have HF : Hid (Rf = absN R12) := Lib.hid (by rw [hRf.out]; unfold sqR; rw [hSB.out]; simp only [if_true, if_false, Bool.false_eq_true, ↓reduceIte]; rw [← Hrr.out]; rw [HR12.out])
  go_wp2_with fail
  refine (absolute_fe rb ro (w5.heap.size) (0) _ _ B (apart_blk _ _ _ _ (by omega)) _ (hD0.later hBw16.out) hr h36 Rf HF).mono ?_
  rintro e w17 ⟨rfl, hC17⟩
  go_wp2
  go_ret2
  exact ⟨rfl, Sets.ahead hBw16.out hC17 hvl⟩

theorem sqrt_fe (rb ro ub uo vb vo u v r0 B : Nat) (w : World) (hD0 : Var 0 z5 B w) (hD1 : Var 1 i5 B w) (hr : Fe w rb ro r0) (hu : Fe w ub uo u) (hv : Fe w vb vo v) (R : Nat) (hR : Hid (R = sqR u v)) (Z : Int) (hZ : Hid (Z = if sqW u v then 1 else 0)) :
    Calls Tryd.prog 27 #[.pointer (some ⟨rb, ro, none⟩), .pointer (some ⟨ub, uo, none⟩), .pointer (some ⟨vb, vo, none⟩)] w fun e w' => e = .returned (.tuple #[.pointer (some ⟨rb, ro, none⟩), .int .i64 Z]) ∧ Sets w w' rb ro R := by
  cases h : sqB u v
  · exact sqrt_raw0 rb ro ub uo vb vo u v r0 B R Z hR hZ (Lib.hid h) w hD0 hD1 hr hu hv
  · exact sqrt_raw1 rb ro ub uo vb vo u v r0 B R Z hR hZ (Lib.hid h) w hD0 hD1 hr hu hv
end
section
open Go.RowKit

theorem fadd_val (a b : Fp) : (a + b).val = (a.val + b.val) % pF := Fin.val_add a b
theorem fmul_val (a b : Fp) : (a * b).val = a.val * b.val % pF := Fin.val_mul a b
theorem fsub_val (a b : Fp) : (a - b).val = (a.val + (pF - b.val)) % pF := by
  rw [← fp_val, fp_sub _ _ (Nat.le_of_lt b.isLt), fp_of, fp_of]
theorem fneg_val (a : Fp) : (-a).val = (pF - a.val) % pF := by
  rw [← fp_val, fp_neg _ (Nat.le_of_lt a.isLt), fp_of]
theorem fpow_val (a : Fp) (n : Nat) : (a ^ n).val = a.val ^ n % pF := by
  rw [← fp_val, fp_pow, fp_of]
theorem finv_val (a : Fp) (E : Nat) (hE : E = pF - 2) : (fpInv a).val = xp a.val E := by
  unfold fpInv xp; rw [hE]; exact fpow_val a _

theorem add_ff (vb vo ab ao cb co : Nat) (a b : Fp) (v0 : Nat) (w : World) (hv : Fe w vb vo v0) (ha : Fe w ab ao a.val) (hb : Fe w cb co b.val) (dA : Apart vb vo ab ao) (dB : Apart vb vo cb co) (R : Fp) (hR : Hid (R = a + b)) :
    Calls Tryd.prog 18 #[.pointer (some ⟨vb, vo, none⟩), .pointer (some ⟨ab, ao, none⟩), .pointer (some ⟨cb, co, none⟩)] w fun e w' => e = .returned (.pointer (some ⟨vb, vo, none⟩)) ∧ Sets w w' vb vo R.val := by
  obtain ⟨L, hL, _⟩ := hv
  rw [hR.out, fadd_val]
  exact add_any vb vo ab ao cb co _ _ L w hL ha hb dA dB

theorem sub_ff (vb vo ab ao cb co : Nat) (a b : Fp) (v0 : Nat) (w : World) (hv : Fe w vb vo v0) (ha : Fe w ab ao a.val) (hb : Fe w cb co b.val) (dA : Apart vb vo ab ao) (dB : Apart vb vo cb co) (R : Fp) (hR : Hid (R = a - b)) :
    Calls Tryd.prog 19 #[.pointer (some ⟨vb, vo, none⟩), .pointer (some ⟨ab, ao, none⟩), .pointer (some ⟨cb, co, none⟩)] w fun e w' => e = .returned (.pointer (some ⟨vb, vo, none⟩)) ∧ Sets w w' vb vo R.val := by
  obtain ⟨L, hL, _⟩ := hv
  rw [hR.out, fsub_val]
  exact sub_any vb vo ab ao cb co _ _ L w hL ha hb dA dB

theorem mul_ff (vb vo ab ao cb co : Nat) (a b : Fp) (v0 : Nat) (w : World) (hv : Fe w vb vo v0) (ha : Fe w ab ao a.val) (hb : Fe w cb co b.val) (R : Fp) (hR : Hid (R = a * b)) :
    Calls Tryd.prog 20 #[.pointer (some ⟨vb, vo, none⟩), .pointer (some ⟨ab, ao, none⟩), .pointer (some ⟨cb, co, none⟩)] w fun e w' => e = .returned (.pointer (some ⟨vb, vo, none⟩)) ∧ Sets w w' vb vo R.val :=
  mul_fe vb vo ab ao cb co _ _ v0 w hv ha hb _ (Lib.hid (by rw [hR.out]; exact fmul_val a b))
theorem square_ff (vb vo ab ao : Nat) (a : Fp) (v0 : Nat) (w : World) (hv : Fe w vb vo v0) (ha : Fe w ab ao a.val) (R : Fp) (hR : Hid (R = a * a)) :
    Calls Tryd.prog 21 #[.pointer (some ⟨vb, vo, none⟩), .pointer (some ⟨ab, ao, none⟩)] w fun e w' => e = .returned (.pointer (some ⟨vb, vo, none⟩)) ∧ Sets w w' vb vo R.val :=
  square_fe vb vo ab ao _ v0 w hv ha _ (Lib.hid (by rw [hR.out]; exact fmul_val a a))
theorem invert_ff (vb vo ab ao : Nat) (a : Fp) (v0 : Nat) (w : World) (hv : Fe w vb vo v0) (ha : Fe w ab ao a.val) (R : Fp) (hR : Hid (R = fpInv a)) :
    Calls Tryd.prog 24 #[.pointer (some ⟨vb, vo, none⟩), .pointer (some ⟨ab, ao, none⟩)] w fun e w' => e = .returned (.pointer (some ⟨vb, vo, none⟩)) ∧ Sets w w' vb vo R.val := by
  rw [hR.out, finv_val a 57896044618658097711785492504343953926634992332820282019728792003956564819947 (by unfold pF; omega)]
  exact invert_fe vb vo ab ao _ v0 w hv ha
theorem neg_ff (vb vo ab ao : Nat) (a : Fp) (v0 B : Nat) (w : World) (hD : Var 0 z5 B w) (hvB : B ≤ vb) (hv : Fe w vb vo v0) (ha : Fe w ab ao a.val) (dA : Apart vb vo ab ao) (R : Fp) (hR : Hid (R = -a)) :
    Calls Tryd.prog 22 #[.pointer (some ⟨vb, vo, none⟩), .pointer (some ⟨ab, ao, none⟩)] w fun e w' => e = .returned (.pointer (some ⟨vb, vo, none⟩)) ∧ Sets w w' vb vo R.val :=
  neg_fe vb vo ab ao _ v0 B w hD hvB hv ha dA _ (Lib.hid (by rw [hR.out]; exact fneg_val a))
set_option maxHeartbeats 1000000 in
theorem set_fe (vb vo ab ao x v0 : Nat) (w : World) (hv : Fe w vb vo v0) (ha : Fe w ab ao x) :
    Calls Tryd.prog 30 #[.pointer (some ⟨vb, vo, none⟩), .pointer (some ⟨ab, ao, none⟩)] w fun e w' => e = .returned (.pointer (some ⟨vb, vo, none⟩)) ∧ Sets w w' vb vo x := by
  obtain ⟨Lv, hL, _⟩ := hv
  obtain ⟨L, hE, hb, hx⟩ := ha
  have h0 := hE.c0; have h1 := hE.c1; have h2 := hE.c2; have h3 := hE.c3; have h4 := hE.c4
  have f0 := hL.f0; have f1 := hL.f1; have f2 := hL.f2; have f3 := hL.f3; have f4 := hL.f4
  have k0 := hL.c0; have k1 := hL.c1; have k2 := hL.c2; have k3 := hL.c3; have k4 := hL.c4
  have HL := Lib.hid hL; have Hx := Lib.hid hx; have Hb := Lib.hid hb; clear hL hE hx hb
  go_enter Tryd.func30, Tryd.ntmps30
  go_wp2
  go_ret
  exact ⟨rfl, L, Hb.out, Hx.out, Wr.five ((((((Wr.start HL.out).set 0 _).set 1 _).set 2 _).set 3 _).set 4 _) rfl rfl rfl rfl rfl⟩
end
section
open Go.RowKit


set_option maxHeartbeats 4000000 in
theorem step_0 (rb len cap z x y n zb xb yb v0 vx vy B : Nat) (hz : z < len) (hx : x < len) (hy : y < len) (w : World)
    (cz : w.cell? ⟨rb, z, none⟩ = some (.pointer (some ⟨zb, 0, none⟩))) (cx : w.cell? ⟨rb, x, none⟩ = some (.pointer (some ⟨xb, 0, none⟩))) (cy : w.cell? ⟨rb, y, none⟩ = some (.pointer (some ⟨yb, 0, none⟩)))
    (fz : Fe w zb 0 v0) (fx : Fe w xb 0 vx) (fy : Fe w yb 0 vy) :
    Calls Tryd.prog 10 #[.slice (some ⟨rb, 0, none⟩) len cap, .agg (opC 0 (z : Int) (x : Int) (y : Int) n)] w fun e w' => e = .returned (.tuple #[]) ∧ Sets w w' zb 0 ((vx + vy) % pF) := by
  go_enter Tryd.func10, Tryd.ntmps10
  go_upto_region 1 with fail
  refine wp_named ?_
  intro w1 ew1
  have hs1 : w.heap.size + 1 ≤ w1.heap.size := by rw [ew1]; (try simp only [alloc_size, setRow_size]); omega
  have hg : w1.heap[w.heap.size]? = some (.cells (opC 0 (z : Int) (x : Int) (y : Int) n) 33 (0, 0)) := by rw [ew1]; exact heap_new_at _ _ _ rfl
  have hB1 : Hid (Below w.heap.size w w1) := Lib.hid (by rw [ew1]; exact below_alloc (Below.refl _ w) _)
  have k0 : w1.cell? ⟨w.heap.size, 0, none⟩ = some (.int .i64 0) := cell_of_row w1 _ 0 _ _ _ hg
  have k1 : w1.cell? ⟨w.heap.size, 1, none⟩ = some (.int .i64 (z : Int)) := cell_of_row w1 _ 1 _ _ _ hg
  have k2 : w1.cell? ⟨w.heap.size, 2, none⟩ = some (.int .i64 (x : Int)) := cell_of_row w1 _ 2 _ _ _ hg
  have k3 : w1.cell? ⟨w.heap.size, 3, none⟩ = some (.int .i64 (y : Int)) := cell_of_row w1 _ 3 _ _ _ hg
  have k4 : w1.cell? ⟨w.heap.size, 4, none⟩ = some (.int .u32 (n : Int)) := cell_of_row w1 _ 4 _ _ _ hg
  have lz := Lib.hid fz.lt
  have c1 : w1.cell? ⟨rb, z, none⟩ = some (.pointer (some ⟨zb, 0, none⟩)) := (hB1.out.cell (p := ⟨rb, z, none⟩) (World.block_lt_of_cell? w ⟨rb, z, none⟩ cz)).trans cz
  have F1 := Lib.hid (Fe.below_all fz hB1.out)
  have c2 : w1.cell? ⟨rb, x, none⟩ = some (.pointer (some ⟨xb, 0, none⟩)) := (hB1.out.cell (p := ⟨rb, x, none⟩) (World.block_lt_of_cell? w ⟨rb, x, none⟩ cx)).trans cx
  have F2 := Lib.hid (Fe.below_all fx hB1.out)
  have c3 : w1.cell? ⟨rb, y, none⟩ = some (.pointer (some ⟨yb, 0, none⟩)) := (hB1.out.cell (p := ⟨rb, y, none⟩) (World.block_lt_of_cell? w ⟨rb, y, none⟩ cy)).trans cy
  have F3 := Lib.hid (Fe.below_all fy hB1.out)
  obtain ⟨Lv, hL, _⟩ := F1.out
  have HL := Lib.hid hL; clear hL
  clear ew1 hg cz fz cx fx cy fy
  go_wp2
  go_still_tail 11, (by kernel_rfl)
  change wpList _ _ _ _ _ w1.drew
  go_wp2_with fail
  refine (add_any zb 0 xb 0 yb 0 vx vy Lv _ (Row.drew HL.out) (Fe.drew F2.out) (Fe.drew F3.out) (apart0 _ _) (apart0 _ _)).mono ?_
  rintro e w2 ⟨rfl, hS⟩
  go_wp2
  go_end0
  exact ⟨rfl, Sets.ahead hB1.out (sets_ofDrew hS) lz.out⟩
end
section
open Go.RowKit


set_option maxHeartbeats 4000000 in
theorem step_1 (rb len cap z x y n zb xb yb v0 vx vy B : Nat) (hz : z < len) (hx : x < len) (hy : y < len) (w : World)
    (cz : w.cell? ⟨rb, z, none⟩ = some (.pointer (some ⟨zb, 0, none⟩))) (cx : w.cell? ⟨rb, x, none⟩ = some (.pointer (some ⟨xb, 0, none⟩))) (cy : w.cell? ⟨rb, y, none⟩ = some (.pointer (some ⟨yb, 0, none⟩)))
    (fz : Fe w zb 0 v0) (fx : Fe w xb 0 vx) (fy : Fe w yb 0 vy) :
    Calls Tryd.prog 10 #[.slice (some ⟨rb, 0, none⟩) len cap, .agg (opC 1 (z : Int) (x : Int) (y : Int) n)] w fun e w' => e = .returned (.tuple #[]) ∧ Sets w w' zb 0 ((vx + (pF - vy)) % pF) := by
  go_enter Tryd.func10, Tryd.ntmps10
  go_upto_region 1 with fail
  refine wp_named ?_
  intro w1 ew1
  have hs1 : w.heap.size + 1 ≤ w1.heap.size := by rw [ew1]; (try simp only [alloc_size, setRow_size]); omega
  have hg : w1.heap[w.heap.size]? = some (.cells (opC 1 (z : Int) (x : Int) (y : Int) n) 33 (0, 0)) := by rw [ew1]; exact heap_new_at _ _ _ rfl
  have hB1 : Hid (Below w.heap.size w w1) := Lib.hid (by rw [ew1]; exact below_alloc (Below.refl _ w) _)
  have k0 : w1.cell? ⟨w.heap.size, 0, none⟩ = some (.int .i64 1) := cell_of_row w1 _ 0 _ _ _ hg
  have k1 : w1.cell? ⟨w.heap.size, 1, none⟩ = some (.int .i64 (z : Int)) := cell_of_row w1 _ 1 _ _ _ hg
  have k2 : w1.cell? ⟨w.heap.size, 2, none⟩ = some (.int .i64 (x : Int)) := cell_of_row w1 _ 2 _ _ _ hg
  have k3 : w1.cell? ⟨w.heap.size, 3, none⟩ = some (.int .i64 (y : Int)) := cell_of_row w1 _ 3 _ _ _ hg
  have k4 : w1.cell? ⟨w.heap.size, 4, none⟩ = some (.int .u32 (n : Int)) := cell_of_row w1 _ 4 _ _ _ hg
  have lz := Lib.hid fz.lt
  have c1 : w1.cell? ⟨rb, z, none⟩ = some (.pointer (some ⟨zb, 0, none⟩)) := (hB1.out.cell (p := ⟨rb, z, none⟩) (World.block_lt_of_cell? w ⟨rb, z, none⟩ cz)).trans cz
  have F1 := Lib.hid (Fe.below_all fz hB1.out)
  have c2 : w1.cell? ⟨rb, x, none⟩ = some (.pointer (some ⟨xb, 0, none⟩)) := (hB1.out.cell (p := ⟨rb, x, none⟩) (World.block_lt_of_cell? w ⟨rb, x, none⟩ cx)).trans cx
  have F2 := Lib.hid (Fe.below_all fx hB1.out)
  have c3 : w1.cell? ⟨rb, y, none⟩ = some (.pointer (some ⟨yb, 0, none⟩)) := (hB1.out.cell (p := ⟨rb, y, none⟩) (World.block_lt_of_cell? w ⟨rb, y, none⟩ cy)).trans cy
  have F3 := Lib.hid (Fe.below_all fy hB1.out)
  obtain ⟨Lv, hL, _⟩ := F1.out
  have HL := Lib.hid hL; clear hL
  clear ew1 hg cz fz cx fx cy fy
  go_wp2
  go_still_tail 11, (by kernel_rfl)
  change wpList _ _ _ _ _ w1.drew
  go_wp2_with fail
  refine (sub_any zb 0 xb 0 yb 0 vx vy Lv _ (Row.drew HL.out) (Fe.drew F2.out) (Fe.drew F3.out) (apart0 _ _) (apart0 _ _)).mono ?_
  rintro e w2 ⟨rfl, hS⟩
  go_wp2
  go_end0
  exact ⟨rfl, Sets.ahead hB1.out (sets_ofDrew hS) lz.out⟩
end
section
open Go.RowKit


set_option maxHeartbeats 4000000 in
theorem step_2 (rb len cap z x y n zb xb yb v0 vx vy B : Nat) (hz : z < len) (hx : x < len) (hy : y < len) (w : World)
    (cz : w.cell? ⟨rb, z, none⟩ = some (.pointer (some ⟨zb, 0, none⟩))) (cx : w.cell? ⟨rb, x, none⟩ = some (.pointer (some ⟨xb, 0, none⟩))) (cy : w.cell? ⟨rb, y, none⟩ = some (.pointer (some ⟨yb, 0, none⟩)))
    (fz : Fe w zb 0 v0) (fx : Fe w xb 0 vx) (fy : Fe w yb 0 vy) :
    Calls Tryd.prog 10 #[.slice (some ⟨rb, 0, none⟩) len cap, .agg (opC 2 (z : Int) (x : Int) (y : Int) n)] w fun e w' => e = .returned (.tuple #[]) ∧ Sets w w' zb 0 (vx * vy % pF) := by
  go_enter Tryd.func10, Tryd.ntmps10
  go_upto_region 1 with fail
  refine wp_named ?_
  intro w1 ew1
  have hs1 : w.heap.size + 1 ≤ w1.heap.size := by rw [ew1]; (try simp only [alloc_size, setRow_size]); omega
  have hg : w1.heap[w.heap.size]? = some (.cells (opC 2 (z : Int) (x : Int) (y : Int) n) 33 (0, 0)) := by rw [ew1]; exact heap_new_at _ _ _ rfl
  have hB1 : Hid (Below w.heap.size w w1) := Lib.hid (by rw [ew1]; exact below_alloc (Below.refl _ w) _)
  have k0 : w1.cell? ⟨w.heap.size, 0, none⟩ = some (.int .i64 2) := cell_of_row w1 _ 0 _ _ _ hg
  have k1 : w1.cell? ⟨w.heap.size, 1, none⟩ = some (.int .i64 (z : Int)) := cell_of_row w1 _ 1 _ _ _ hg
  have k2 : w1.cell? ⟨w.heap.size, 2, none⟩ = some (.int .i64 (x : Int)) := cell_of_row w1 _ 2 _ _ _ hg
  have k3 : w1.cell? ⟨w.heap.size, 3, none⟩ = some (.int .i64 (y : Int)) := cell_of_row w1 _ 3 _ _ _ hg
  have k4 : w1.cell? ⟨w.heap.size, 4, none⟩ = some (.int .u32 (n : Int)) := cell_of_row w1 _ 4 _ _ _ hg
  have lz := Lib.hid fz.lt
  have c1 : w1.cell? ⟨rb, z, none⟩ = some (.pointer (some ⟨zb, 0, none⟩)) := (hB1.out.cell (p := ⟨rb, z, none⟩) (World.block_lt_of_cell? w ⟨rb, z, none⟩ cz)).trans cz
  have F1 := Lib.hid (Fe.below_all fz hB1.out)
  have c2 : w1.cell? ⟨rb, x, none⟩ = some (.pointer (some ⟨xb, 0, none⟩)) := (hB1.out.cell (p := ⟨rb, x, none⟩) (World.block_lt_of_cell? w ⟨rb, x, none⟩ cx)).trans cx
  have F2 := Lib.hid (Fe.below_all fx hB1.out)
  have c3 : w1.cell? ⟨rb, y, none⟩ = some (.pointer (some ⟨yb, 0, none⟩)) := (hB1.out.cell (p := ⟨rb, y, none⟩) (World.block_lt_of_cell? w ⟨rb, y, none⟩ cy)).trans cy
  have F3 := Lib.hid (Fe.below_all fy hB1.out)
  clear ew1 hg cz fz cx fx cy fy
  go_wp2
  go_still_tail 11, (by kernel_rfl)
  change wpList _ _ _ _ _ w1.drew
  go_wp2_with fail
  refine (mul_fe zb 0 xb 0 yb 0 vx vy v0 _ (Fe.drew F1.out) (Fe.drew F2.out) (Fe.drew F3.out) _ (Lib.hid rfl)).mono ?_
  rintro e w2 ⟨rfl, hS⟩
  go_wp2
  go_end0
  exact ⟨rfl, Sets.ahead hB1.out (sets_ofDrew hS) lz.out⟩
end
section
open Go.RowKit


set_option maxHeartbeats 4000000 in
theorem step_3 (rb len cap z x n zb xb v0 vx B : Nat) (y : Int) (hz : z < len) (hx : x < len) (w : World)
    (cz : w.cell? ⟨rb, z, none⟩ = some (.pointer (some ⟨zb, 0, none⟩))) (cx : w.cell? ⟨rb, x, none⟩ = some (.pointer (some ⟨xb, 0, none⟩)))
    (fz : Fe w zb 0 v0) (fx : Fe w xb 0 vx) :
    Calls Tryd.prog 10 #[.slice (some ⟨rb, 0, none⟩) len cap, .agg (opC 3 (z : Int) (x : Int) (y : Int) n)] w fun e w' => e = .returned (.tuple #[]) ∧ Sets w w' zb 0 (vx * vx % pF) := by
  go_enter Tryd.func10, Tryd.ntmps10
  go_upto_region 1 with fail
  refine wp_named ?_
  intro w1 ew1
  have hs1 : w.heap.size + 1 ≤ w1.heap.size := by rw [ew1]; (try simp only [alloc_size, setRow_size]); omega
  have hg : w1.heap[w.heap.size]? = some (.cells (opC 3 (z : Int) (x : Int) (y : Int) n) 33 (0, 0)) := by rw [ew1]; exact heap_new_at _ _ _ rfl
  have hB1 : Hid (Below w.heap.size w w1) := Lib.hid (by rw [ew1]; exact below_alloc (Below.refl _ w) _)
  have k0 : w1.cell? ⟨w.heap.size, 0, none⟩ = some (.int .i64 3) := cell_of_row w1 _ 0 _ _ _ hg
  have k1 : w1.cell? ⟨w.heap.size, 1, none⟩ = some (.int .i64 (z : Int)) := cell_of_row w1 _ 1 _ _ _ hg
  have k2 : w1.cell? ⟨w.heap.size, 2, none⟩ = some (.int .i64 (x : Int)) := cell_of_row w1 _ 2 _ _ _ hg
  have k3 : w1.cell? ⟨w.heap.size, 3, none⟩ = some (.int .i64 (y : Int)) := cell_of_row w1 _ 3 _ _ _ hg
  have k4 : w1.cell? ⟨w.heap.size, 4, none⟩ = some (.int .u32 (n : Int)) := cell_of_row w1 _ 4 _ _ _ hg
  have lz := Lib.hid fz.lt
  have c1 : w1.cell? ⟨rb, z, none⟩ = some (.pointer (some ⟨zb, 0, none⟩)) := (hB1.out.cell (p := ⟨rb, z, none⟩) (World.block_lt_of_cell? w ⟨rb, z, none⟩ cz)).trans cz
  have F1 := Lib.hid (Fe.below_all fz hB1.out)
  have c2 : w1.cell? ⟨rb, x, none⟩ = some (.pointer (some ⟨xb, 0, none⟩)) := (hB1.out.cell (p := ⟨rb, x, none⟩) (World.block_lt_of_cell? w ⟨rb, x, none⟩ cx)).trans cx
  have F2 := Lib.hid (Fe.below_all fx hB1.out)
  clear ew1 hg cz fz cx fx
  go_wp2_with fail
  refine (square_fe zb 0 xb 0 vx v0 _ F1.out F2.out _ (Lib.hid rfl)).mono ?_
  rintro e w2 ⟨rfl, hS⟩
  go_wp2
  go_end0
  exact ⟨rfl, Sets.ahead hB1.out hS lz.out⟩
end
section
open Go.RowKit


set_option maxHeartbeats 4000000 in
theorem step_4 (rb len cap z x n zb xb v0 vx B : Nat) (y : Int) (hz : z < len) (hx : x < len) (hB : B ≤ zb) (w : World)
    (cz : w.cell? ⟨rb, z, none⟩ = some (.pointer (some ⟨zb, 0, none⟩))) (cx : w.cell? ⟨rb, x, none⟩ = some (.pointer (some ⟨xb, 0, none⟩)))
    (fz : Fe w zb 0 v0) (fx : Fe w xb 0 vx) (hD0 : Var 0 z5 B w) :
    Calls Tryd.prog 10 #[.slice (some ⟨rb, 0, none⟩) len cap, .agg (opC 4 (z : Int) (x : Int) (y : Int) n)] w fun e w' => e = .returned (.tuple #[]) ∧ Sets w w' zb 0 ((pF - vx) % pF) := by
  go_enter Tryd.func10, Tryd.ntmps10
  go_upto_region 1 with fail
  refine wp_named ?_
  intro w1 ew1
  have hs1 : w.heap.size + 1 ≤ w1.heap.size := by rw [ew1]; (try simp only [alloc_size, setRow_size]); omega
  have hg : w1.heap[w.heap.size]? = some (.cells (opC 4 (z : Int) (x : Int) (y : Int) n) 33 (0, 0)) := by rw [ew1]; exact heap_new_at _ _ _ rfl
  have hB1 : Hid (Below w.heap.size w w1) := Lib.hid (by rw [ew1]; exact below_alloc (Below.refl _ w) _)
  have k0 : w1.cell? ⟨w.heap.size, 0, none⟩ = some (.int .i64 4) := cell_of_row w1 _ 0 _ _ _ hg
  have k1 : w1.cell? ⟨w.heap.size, 1, none⟩ = some (.int .i64 (z : Int)) := cell_of_row w1 _ 1 _ _ _ hg
  have k2 : w1.cell? ⟨w.heap.size, 2, none⟩ = some (.int .i64 (x : Int)) := cell_of_row w1 _ 2 _ _ _ hg
  have k3 : w1.cell? ⟨w.heap.size, 3, none⟩ = some (.int .i64 (y : Int)) := cell_of_row w1 _ 3 _ _ _ hg
  have k4 : w1.cell? ⟨w.heap.size, 4, none⟩ = some (.int .u32 (n : Int)) := cell_of_row w1 _ 4 _ _ _ hg
  have lz := Lib.hid fz.lt
  have c1 : w1.cell? ⟨rb, z, none⟩ = some (.pointer (some ⟨zb, 0, none⟩)) := (hB1.out.cell (p := ⟨rb, z, none⟩) (World.block_lt_of_cell? w ⟨rb, z, none⟩ cz)).trans cz
  have F1 := Lib.hid (Fe.below_all fz hB1.out)
  have c2 : w1.cell? ⟨rb, x, none⟩ = some (.pointer (some ⟨xb, 0, none⟩)) := (hB1.out.cell (p := ⟨rb, x, none⟩) (World.block_lt_of_cell? w ⟨rb, x, none⟩ cx)).trans cx
  have F2 := Lib.hid (Fe.below_all fx hB1.out)
  have V0 := Lib.hid (hD0.later hB1.out); clear hD0
  clear ew1 hg cz fz cx fx
  go_wp2_with fail
  refine (neg_fe zb 0 xb 0 vx v0 B _ V0.out hB F1.out F2.out (apart0 _ _) _ (Lib.hid rfl)).mono ?_
  rintro e w2 ⟨rfl, hS⟩
  go_wp2
  go_end0
  exact ⟨rfl, Sets.ahead hB1.out hS lz.out⟩
end
section
open Go.RowKit


set_option maxHeartbeats 4000000 in
theorem step_5 (rb len cap z x n zb xb v0 vx B : Nat) (y : Int) (hz : z < len) (hx : x < len) (hn : n < 4294967296) (w : World)
    (cz : w.cell? ⟨rb, z, none⟩ = some (.pointer (some ⟨zb, 0, none⟩))) (cx : w.cell? ⟨rb, x, none⟩ = some (.pointer (some ⟨xb, 0, none⟩)))
    (fz : Fe w zb 0 v0) (fx : Fe w xb 0 vx) :
    Calls Tryd.prog 10 #[.slice (some ⟨rb, 0, none⟩) len cap, .agg (opC 5 (z : Int) (x : Int) (y : Int) n)] w fun e w' => e = .returned (.tuple #[]) ∧ Sets w w' zb 0 (vx * n % pF) := by
  go_enter Tryd.func10, Tryd.ntmps10
  go_upto_region 1 with fail
  refine wp_named ?_
  intro w1 ew1
  have hs1 : w.heap.size + 1 ≤ w1.heap.size := by rw [ew1]; (try simp only [alloc_size, setRow_size]); omega
  have hg : w1.heap[w.heap.size]? = some (.cells (opC 5 (z : Int) (x : Int) (y : Int) n) 33 (0, 0)) := by rw [ew1]; exact heap_new_at _ _ _ rfl
  have hB1 : Hid (Below w.heap.size w w1) := Lib.hid (by rw [ew1]; exact below_alloc (Below.refl _ w) _)
  have k0 : w1.cell? ⟨w.heap.size, 0, none⟩ = some (.int .i64 5) := cell_of_row w1 _ 0 _ _ _ hg
  have k1 : w1.cell? ⟨w.heap.size, 1, none⟩ = some (.int .i64 (z : Int)) := cell_of_row w1 _ 1 _ _ _ hg
  have k2 : w1.cell? ⟨w.heap.size, 2, none⟩ = some (.int .i64 (x : Int)) := cell_of_row w1 _ 2 _ _ _ hg
  have k3 : w1.cell? ⟨w.heap.size, 3, none⟩ = some (.int .i64 (y : Int)) := cell_of_row w1 _ 3 _ _ _ hg
  have k4 : w1.cell? ⟨w.heap.size, 4, none⟩ = some (.int .u32 (n : Int)) := cell_of_row w1 _ 4 _ _ _ hg
  have lz := Lib.hid fz.lt
  have c1 : w1.cell? ⟨rb, z, none⟩ = some (.pointer (some ⟨zb, 0, none⟩)) := (hB1.out.cell (p := ⟨rb, z, none⟩) (World.block_lt_of_cell? w ⟨rb, z, none⟩ cz)).trans cz
  have F1 := Lib.hid (Fe.below_all fz hB1.out)
  have c2 : w1.cell? ⟨rb, x, none⟩ = some (.pointer (some ⟨xb, 0, none⟩)) := (hB1.out.cell (p := ⟨rb, x, none⟩) (World.block_lt_of_cell? w ⟨rb, x, none⟩ cx)).trans cx
  have F2 := Lib.hid (Fe.below_all fx hB1.out)
  clear ew1 hg cz fz cx fx
  go_wp2
  go_still_tail 8, (by kernel_rfl)
  change wpList _ _ _ _ _ w1.drew
  go_wp2_with fail
  refine (mult32_fe zb 0 xb 0 vx n v0 _ hn (Fe.drew F1.out) (Fe.drew F2.out) _ (Lib.hid rfl)).mono ?_
  rintro e w2 ⟨rfl, hS⟩
  go_wp2
  go_end0
  exact ⟨rfl, Sets.ahead hB1.out (sets_ofDrew hS) lz.out⟩
end
section
open Go.RowKit


set_option maxHeartbeats 4000000 in
theorem step_6 (rb len cap z x n zb xb v0 vx B : Nat) (y : Int) (hz : z < len) (hx : x < len) (w : World)
    (cz : w.cell? ⟨rb, z, none⟩ = some (.pointer (some ⟨zb, 0, none⟩))) (cx : w.cell? ⟨rb, x, none⟩ = some (.pointer (some ⟨xb, 0, none⟩)))
    (fz : Fe w zb 0 v0) (fx : Fe w xb 0 vx) :
    Calls Tryd.prog 10 #[.slice (some ⟨rb, 0, none⟩) len cap, .agg (opC 6 (z : Int) (x : Int) (y : Int) n)] w fun e w' => e = .returned (.tuple #[]) ∧ Sets w w' zb 0 (xp vx 57896044618658097711785492504343953926634992332820282019728792003956564819947) := by
  go_enter Tryd.func10, Tryd.ntmps10
  go_upto_region 1 with fail
  refine wp_named ?_
  intro w1 ew1
  have hs1 : w.heap.size + 1 ≤ w1.heap.size := by rw [ew1]; (try simp only [alloc_size, setRow_size]); omega
  have hg : w1.heap[w.heap.size]? = some (.cells (opC 6 (z : Int) (x : Int) (y : Int) n) 33 (0, 0)) := by rw [ew1]; exact heap_new_at _ _ _ rfl
  have hB1 : Hid (Below w.heap.size w w1) := Lib.hid (by rw [ew1]; exact below_alloc (Below.refl _ w) _)
  have k0 : w1.cell? ⟨w.heap.size, 0, none⟩ = some (.int .i64 6) := cell_of_row w1 _ 0 _ _ _ hg
  have k1 : w1.cell? ⟨w.heap.size, 1, none⟩ = some (.int .i64 (z : Int)) := cell_of_row w1 _ 1 _ _ _ hg
  have k2 : w1.cell? ⟨w.heap.size, 2, none⟩ = some (.int .i64 (x : Int)) := cell_of_row w1 _ 2 _ _ _ hg
  have k3 : w1.cell? ⟨w.heap.size, 3, none⟩ = some (.int .i64 (y : Int)) := cell_of_row w1 _ 3 _ _ _ hg
  have k4 : w1.cell? ⟨w.heap.size, 4, none⟩ = some (.int .u32 (n : Int)) := cell_of_row w1 _ 4 _ _ _ hg
  have lz := Lib.hid fz.lt
  have c1 : w1.cell? ⟨rb, z, none⟩ = some (.pointer (some ⟨zb, 0, none⟩)) := (hB1.out.cell (p := ⟨rb, z, none⟩) (World.block_lt_of_cell? w ⟨rb, z, none⟩ cz)).trans cz
  have F1 := Lib.hid (Fe.below_all fz hB1.out)
  have c2 : w1.cell? ⟨rb, x, none⟩ = some (.pointer (some ⟨xb, 0, none⟩)) := (hB1.out.cell (p := ⟨rb, x, none⟩) (World.block_lt_of_cell? w ⟨rb, x, none⟩ cx)).trans cx
  have F2 := Lib.hid (Fe.below_all fx hB1.out)
  clear ew1 hg cz fz cx fx
  go_wp2_with fail
  refine (invert_fe zb 0 xb 0 vx v0 _ F1.out F2.out).mono ?_
  rintro e w2 ⟨rfl, hS⟩
  go_wp2
  go_end0
  exact ⟨rfl, Sets.ahead hB1.out hS lz.out⟩
end
section
open Go.RowKit


set_option maxHeartbeats 4000000 in
theorem step_7 (rb len cap z x n zb xb v0 vx B : Nat) (y : Int) (hz : z < len) (hx : x < len) (w : World)
    (cz : w.cell? ⟨rb, z, none⟩ = some (.pointer (some ⟨zb, 0, none⟩))) (cx : w.cell? ⟨rb, x, none⟩ = some (.pointer (some ⟨xb, 0, none⟩)))
    (fz : Fe w zb 0 v0) (fx : Fe w xb 0 vx) (hD0 : Var 0 z5 B w) :
    Calls Tryd.prog 10 #[.slice (some ⟨rb, 0, none⟩) len cap, .agg (opC 7 (z : Int) (x : Int) (y : Int) n)] w fun e w' => e = .returned (.tuple #[]) ∧ Sets w w' zb 0 (absN vx) := by
  go_enter Tryd.func10, Tryd.ntmps10
  go_upto_region 1 with fail
  refine wp_named ?_
  intro w1 ew1
  have hs1 : w.heap.size + 1 ≤ w1.heap.size := by rw [ew1]; (try simp only [alloc_size, setRow_size]); omega
  have hg : w1.heap[w.heap.size]? = some (.cells (opC 7 (z : Int) (x : Int) (y : Int) n) 33 (0, 0)) := by rw [ew1]; exact heap_new_at _ _ _ rfl
  have hB1 : Hid (Below w.heap.size w w1) := Lib.hid (by rw [ew1]; exact below_alloc (Below.refl _ w) _)
  have k0 : w1.cell? ⟨w.heap.size, 0, none⟩ = some (.int .i64 7) := cell_of_row w1 _ 0 _ _ _ hg
  have k1 : w1.cell? ⟨w.heap.size, 1, none⟩ = some (.int .i64 (z : Int)) := cell_of_row w1 _ 1 _ _ _ hg
  have k2 : w1.cell? ⟨w.heap.size, 2, none⟩ = some (.int .i64 (x : Int)) := cell_of_row w1 _ 2 _ _ _ hg
  have k3 : w1.cell? ⟨w.heap.size, 3, none⟩ = some (.int .i64 (y : Int)) := cell_of_row w1 _ 3 _ _ _ hg
  have k4 : w1.cell? ⟨w.heap.size, 4, none⟩ = some (.int .u32 (n : Int)) := cell_of_row w1 _ 4 _ _ _ hg
  have lz := Lib.hid fz.lt
  have c1 : w1.cell? ⟨rb, z, none⟩ = some (.pointer (some ⟨zb, 0, none⟩)) := (hB1.out.cell (p := ⟨rb, z, none⟩) (World.block_lt_of_cell? w ⟨rb, z, none⟩ cz)).trans cz
  have F1 := Lib.hid (Fe.below_all fz hB1.out)
  have c2 : w1.cell? ⟨rb, x, none⟩ = some (.pointer (some ⟨xb, 0, none⟩)) := (hB1.out.cell (p := ⟨rb, x, none⟩) (World.block_lt_of_cell? w ⟨rb, x, none⟩ cx)).trans cx
  have F2 := Lib.hid (Fe.below_all fx hB1.out)
  have V0 := Lib.hid (hD0.later hB1.out); clear hD0
  clear ew1 hg cz fz cx fx
  go_wp2_with fail
  refine (absolute_fe zb 0 xb 0 vx v0 B (apart0 _ _) _ V0.out F1.out F2.out _ (Lib.hid rfl)).mono ?_
  rintro e w2 ⟨rfl, hS⟩
  go_wp2
  go_end0
  exact ⟨rfl, Sets.ahead hB1.out hS lz.out⟩
end
section
open Go.RowKit


set_option maxHeartbeats 4000000 in
theorem step_8 (rb len cap z x n zb xb v0 vx B : Nat) (y : Int) (hz : z < len) (hx : x < len) (w : World)
    (cz : w.cell? ⟨rb, z, none⟩ = some (.pointer (some ⟨zb, 0, none⟩))) (cx : w.cell? ⟨rb, x, none⟩ = some (.pointer (some ⟨xb, 0, none⟩)))
    (fz : Fe w zb 0 v0) (fx : Fe w xb 0 vx) :
    Calls Tryd.prog 10 #[.slice (some ⟨rb, 0, none⟩) len cap, .agg (opC 8 (z : Int) (x : Int) (y : Int) n)] w fun e w' => e = .returned (.tuple #[]) ∧ Sets w w' zb 0 (xp vx 7237005577332262213973186563042994240829374041602535252466099000494570602493) := by
  go_enter Tryd.func10, Tryd.ntmps10
  go_upto_region 1 with fail
  refine wp_named ?_
  intro w1 ew1
  have hs1 : w.heap.size + 1 ≤ w1.heap.size := by rw [ew1]; (try simp only [alloc_size, setRow_size]); omega
  have hg : w1.heap[w.heap.size]? = some (.cells (opC 8 (z : Int) (x : Int) (y : Int) n) 33 (0, 0)) := by rw [ew1]; exact heap_new_at _ _ _ rfl
  have hB1 : Hid (Below w.heap.size w w1) := Lib.hid (by rw [ew1]; exact below_alloc (Below.refl _ w) _)
  have k0 : w1.cell? ⟨w.heap.size, 0, none⟩ = some (.int .i64 8) := cell_of_row w1 _ 0 _ _ _ hg
  have k1 : w1.cell? ⟨w.heap.size, 1, none⟩ = some (.int .i64 (z : Int)) := cell_of_row w1 _ 1 _ _ _ hg
  have k2 : w1.cell? ⟨w.heap.size, 2, none⟩ = some (.int .i64 (x : Int)) := cell_of_row w1 _ 2 _ _ _ hg
  have k3 : w1.cell? ⟨w.heap.size, 3, none⟩ = some (.int .i64 (y : Int)) := cell_of_row w1 _ 3 _ _ _ hg
  have k4 : w1.cell? ⟨w.heap.size, 4, none⟩ = some (.int .u32 (n : Int)) := cell_of_row w1 _ 4 _ _ _ hg
  have lz := Lib.hid fz.lt
  have c1 : w1.cell? ⟨rb, z, none⟩ = some (.pointer (some ⟨zb, 0, none⟩)) := (hB1.out.cell (p := ⟨rb, z, none⟩) (World.block_lt_of_cell? w ⟨rb, z, none⟩ cz)).trans cz
  have F1 := Lib.hid (Fe.below_all fz hB1.out)
  have c2 : w1.cell? ⟨rb, x, none⟩ = some (.pointer (some ⟨xb, 0, none⟩)) := (hB1.out.cell (p := ⟨rb, x, none⟩) (World.block_lt_of_cell? w ⟨rb, x, none⟩ cx)).trans cx
  have F2 := Lib.hid (Fe.below_all fx hB1.out)
  clear ew1 hg cz fz cx fx
  go_wp2_with fail
  refine (pow22523_fe zb 0 xb 0 vx v0 _ F1.out F2.out).mono ?_
  rintro e w2 ⟨rfl, hS⟩
  go_wp2
  go_end0
  exact ⟨rfl, Sets.ahead hB1.out hS lz.out⟩
end
section
open Go.RowKit


set_option maxHeartbeats 4000000 in
theorem step_9 (rb len cap z x y n zb xb yb v0 vx vy B : Nat) (hz : z < len) (hx : x < len) (hy : y < len) (w : World)
    (cz : w.cell? ⟨rb, z, none⟩ = some (.pointer (some ⟨zb, 0, none⟩))) (cx : w.cell? ⟨rb, x, none⟩ = some (.pointer (some ⟨xb, 0, none⟩))) (cy : w.cell? ⟨rb, y, none⟩ = some (.pointer (some ⟨yb, 0, none⟩)))
    (fz : Fe w zb 0 v0) (fx : Fe w xb 0 vx) (fy : Fe w yb 0 vy) (hD0 : Var 0 z5 B w) (hD1 : Var 1 i5 B w) :
    Calls Tryd.prog 10 #[.slice (some ⟨rb, 0, none⟩) len cap, .agg (opC 9 (z : Int) (x : Int) (y : Int) n)] w fun e w' => e = .returned (.tuple #[]) ∧ Sets w w' zb 0 (sqR vx vy) := by
  go_enter Tryd.func10, Tryd.ntmps10
  go_upto_region 1 with fail
  refine wp_named ?_
  intro w1 ew1
  have hs1 : w.heap.size + 1 ≤ w1.heap.size := by rw [ew1]; (try simp only [alloc_size, setRow_size]); omega
  have hg : w1.heap[w.heap.size]? = some (.cells (opC 9 (z : Int) (x : Int) (y : Int) n) 33 (0, 0)) := by rw [ew1]; exact heap_new_at _ _ _ rfl
  have hB1 : Hid (Below w.heap.size w w1) := Lib.hid (by rw [ew1]; exact below_alloc (Below.refl _ w) _)
  have k0 : w1.cell? ⟨w.heap.size, 0, none⟩ = some (.int .i64 9) := cell_of_row w1 _ 0 _ _ _ hg
  have k1 : w1.cell? ⟨w.heap.size, 1, none⟩ = some (.int .i64 (z : Int)) := cell_of_row w1 _ 1 _ _ _ hg
  have k2 : w1.cell? ⟨w.heap.size, 2, none⟩ = some (.int .i64 (x : Int)) := cell_of_row w1 _ 2 _ _ _ hg
  have k3 : w1.cell? ⟨w.heap.size, 3, none⟩ = some (.int .i64 (y : Int)) := cell_of_row w1 _ 3 _ _ _ hg
  have k4 : w1.cell? ⟨w.heap.size, 4, none⟩ = some (.int .u32 (n : Int)) := cell_of_row w1 _ 4 _ _ _ hg
  have lz := Lib.hid fz.lt
  have c1 : w1.cell? ⟨rb, z, none⟩ = some (.pointer (some ⟨zb, 0, none⟩)) := (hB1.out.cell (p := ⟨rb, z, none⟩) (World.block_lt_of_cell? w ⟨rb, z, none⟩ cz)).trans cz
  have F1 := Lib.hid (Fe.below_all fz hB1.out)
  have c2 : w1.cell? ⟨rb, x, none⟩ = some (.pointer (some ⟨xb, 0, none⟩)) := (hB1.out.cell (p := ⟨rb, x, none⟩) (World.block_lt_of_cell? w ⟨rb, x, none⟩ cx)).trans cx
  have F2 := Lib.hid (Fe.below_all fx hB1.out)
  have c3 : w1.cell? ⟨rb, y, none⟩ = some (.pointer (some ⟨yb, 0, none⟩)) := (hB1.out.cell (p := ⟨rb, y, none⟩) (World.block_lt_of_cell? w ⟨rb, y, none⟩ cy)).trans cy
  have F3 := Lib.hid (Fe.below_all fy hB1.out)
  have V0 := Lib.hid (hD0.later hB1.out); clear hD0
  have V1 := Lib.hid (hD1.later hB1.out); clear hD1
  obtain ⟨Z, qZ⟩ : ∃ Z : Int, Z = if sqW vx vy then 1 else 0 := ⟨_, rfl⟩
  have HZ := Lib.hid qZ; clear qZ
  clear ew1 hg cz fz cx fx cy fy
  go_wp2
  go_still_tail 11, (by kernel_rfl)
  change wpList _ _ _ _ _ w1.drew
  go_wp2_with fail
  refine (sqrt_fe zb 0 xb 0 yb 0 vx vy v0 B _ (Var.drew V0.out) (Var.drew V1.out) (Fe.drew F1.out) (Fe.drew F2.out) (Fe.drew F3.out) _ (Lib.hid rfl) Z HZ).mono ?_
  rintro e w2 ⟨rfl, hS⟩
  go_wp2
  go_end0
  exact ⟨rfl, Sets.ahead hB1.out (sets_ofDrew hS) lz.out⟩
end
section
open Go.RowKit


set_option maxHeartbeats 4000000 in
theorem step_10a (rb len cap z x y n zb xb yb v0 vx vy B : Nat) (hz : z < len) (hx : x < len) (hy : y < len) (hn : n % 2 = 0) (w : World)
    (cz : w.cell? ⟨rb, z, none⟩ = some (.pointer (some ⟨zb, 0, none⟩))) (cx : w.cell? ⟨rb, x, none⟩ = some (.pointer (some ⟨xb, 0, none⟩))) (cy : w.cell? ⟨rb, y, none⟩ = some (.pointer (some ⟨yb, 0, none⟩)))
    (fz : Fe w zb 0 v0) (fx : Fe w xb 0 vx) (fy : Fe w yb 0 vy) :
    Calls Tryd.prog 10 #[.slice (some ⟨rb, 0, none⟩) len cap, .agg (opC 10 (z : Int) (x : Int) (y : Int) n)] w fun e w' => e = .returned (.tuple #[]) ∧ Sets w w' zb 0 vy := by
  go_enter Tryd.func10, Tryd.ntmps10
  go_upto_region 1 with fail
  refine wp_named ?_
  intro w1 ew1
  have hs1 : w.heap.size + 1 ≤ w1.heap.size := by rw [ew1]; (try simp only [alloc_size, setRow_size]); omega
  have hg : w1.heap[w.heap.size]? = some (.cells (opC 10 (z : Int) (x : Int) (y : Int) n) 33 (0, 0)) := by rw [ew1]; exact heap_new_at _ _ _ rfl
  have hB1 : Hid (Below w.heap.size w w1) := Lib.hid (by rw [ew1]; exact below_alloc (Below.refl _ w) _)
  have k0 : w1.cell? ⟨w.heap.size, 0, none⟩ = some (.int .i64 10) := cell_of_row w1 _ 0 _ _ _ hg
  have k1 : w1.cell? ⟨w.heap.size, 1, none⟩ = some (.int .i64 (z : Int)) := cell_of_row w1 _ 1 _ _ _ hg
  have k2 : w1.cell? ⟨w.heap.size, 2, none⟩ = some (.int .i64 (x : Int)) := cell_of_row w1 _ 2 _ _ _ hg
  have k3 : w1.cell? ⟨w.heap.size, 3, none⟩ = some (.int .i64 (y : Int)) := cell_of_row w1 _ 3 _ _ _ hg
  have k4 : w1.cell? ⟨w.heap.size, 4, none⟩ = some (.int .u32 (n : Int)) := cell_of_row w1 _ 4 _ _ _ hg
  have lz := Lib.hid fz.lt
  have c1 : w1.cell? ⟨rb, z, none⟩ = some (.pointer (some ⟨zb, 0, none⟩)) := (hB1.out.cell (p := ⟨rb, z, none⟩) (World.block_lt_of_cell? w ⟨rb, z, none⟩ cz)).trans cz
  have F1 := Lib.hid (Fe.below_all fz hB1.out)
  have c2 : w1.cell? ⟨rb, x, none⟩ = some (.pointer (some ⟨xb, 0, none⟩)) := (hB1.out.cell (p := ⟨rb, x, none⟩) (World.block_lt_of_cell? w ⟨rb, x, none⟩ cx)).trans cx
  have F2 := Lib.hid (Fe.below_all fx hB1.out)
  have c3 : w1.cell? ⟨rb, y, none⟩ = some (.pointer (some ⟨yb, 0, none⟩)) := (hB1.out.cell (p := ⟨rb, y, none⟩) (World.block_lt_of_cell? w ⟨rb, y, none⟩ cy)).trans cy
  have F3 := Lib.hid (Fe.below_all fy hB1.out)
  clear ew1 hg cz fz cx fx cy fy
  go_wp2
  go_still_tail 15, (by kernel_rfl)
  change wpList _ _ _ _ _ w1.drew
  go_wp2_with fail
  rw [show ((n : Int) % 2) = 0 by omega]
  refine (select_fe0 zb 0 xb 0 yb 0 vx vy v0 (apart0 _ _) (apart0 _ _) _ (Fe.drew F1.out) (Fe.drew F2.out) (Fe.drew F3.out)).mono ?_
  rintro e w2 ⟨rfl, hS⟩
  go_wp2
  go_end0
  exact ⟨rfl, Sets.ahead hB1.out (sets_ofDrew hS) lz.out⟩
end
section
open Go.RowKit


set_option maxHeartbeats 4000000 in
theorem step_10b (rb len cap z x y n zb xb yb v0 vx vy B : Nat) (hz : z < len) (hx : x < len) (hy : y < len) (hn : n % 2 = 1) (w : World)
    (cz : w.cell? ⟨rb, z, none⟩ = some (.pointer (some ⟨zb, 0, none⟩))) (cx : w.cell? ⟨rb, x, none⟩ = some (.pointer (some ⟨xb, 0, none⟩))) (cy : w.cell? ⟨rb, y, none⟩ = some (.pointer (some ⟨yb, 0, none⟩)))
    (fz : Fe w zb 0 v0) (fx : Fe w xb 0 vx) (fy : Fe w yb 0 vy) :
    Calls Tryd.prog 10 #[.slice (some ⟨rb, 0, none⟩) len cap, .agg (opC 10 (z : Int) (x : Int) (y : Int) n)] w fun e w' => e = .returned (.tuple #[]) ∧ Sets w w' zb 0 vx := by
  go_enter Tryd.func10, Tryd.ntmps10
  go_upto_region 1 with fail
  refine wp_named ?_
  intro w1 ew1
  have hs1 : w.heap.size + 1 ≤ w1.heap.size := by rw [ew1]; (try simp only [alloc_size, setRow_size]); omega
  have hg : w1.heap[w.heap.size]? = some (.cells (opC 10 (z : Int) (x : Int) (y : Int) n) 33 (0, 0)) := by rw [ew1]; exact heap_new_at _ _ _ rfl
  have hB1 : Hid (Below w.heap.size w w1) := Lib.hid (by rw [ew1]; exact below_alloc (Below.refl _ w) _)
  have k0 : w1.cell? ⟨w.heap.size, 0, none⟩ = some (.int .i64 10) := cell_of_row w1 _ 0 _ _ _ hg
  have k1 : w1.cell? ⟨w.heap.size, 1, none⟩ = some (.int .i64 (z : Int)) := cell_of_row w1 _ 1 _ _ _ hg
  have k2 : w1.cell? ⟨w.heap.size, 2, none⟩ = some (.int .i64 (x : Int)) := cell_of_row w1 _ 2 _ _ _ hg
  have k3 : w1.cell? ⟨w.heap.size, 3, none⟩ = some (.int .i64 (y : Int)) := cell_of_row w1 _ 3 _ _ _ hg
  have k4 : w1.cell? ⟨w.heap.size, 4, none⟩ = some (.int .u32 (n : Int)) := cell_of_row w1 _ 4 _ _ _ hg
  have lz := Lib.hid fz.lt
  have c1 : w1.cell? ⟨rb, z, none⟩ = some (.pointer (some ⟨zb, 0, none⟩)) := (hB1.out.cell (p := ⟨rb, z, none⟩) (World.block_lt_of_cell? w ⟨rb, z, none⟩ cz)).trans cz
  have F1 := Lib.hid (Fe.below_all fz hB1.out)
  have c2 : w1.cell? ⟨rb, x, none⟩ = some (.pointer (some ⟨xb, 0, none⟩)) := (hB1.out.cell (p := ⟨rb, x, none⟩) (World.block_lt_of_cell? w ⟨rb, x, none⟩ cx)).trans cx
  have F2 := Lib.hid (Fe.below_all fx hB1.out)
  have c3 : w1.cell? ⟨rb, y, none⟩ = some (.pointer (some ⟨yb, 0, none⟩)) := (hB1.out.cell (p := ⟨rb, y, none⟩) (World.block_lt_of_cell? w ⟨rb, y, none⟩ cy)).trans cy
  have F3 := Lib.hid (Fe.below_all fy hB1.out)
  clear ew1 hg cz fz cx fx cy fy
  go_wp2
  go_still_tail 15, (by kernel_rfl)
  change wpList _ _ _ _ _ w1.drew
  go_wp2_with fail
  rw [show ((n : Int) % 2) = 1 by omega]
  refine (select_fe1 zb 0 xb 0 yb 0 vx vy v0 (apart0 _ _) (apart0 _ _) _ (Fe.drew F1.out) (Fe.drew F2.out) (Fe.drew F3.out)).mono ?_
  rintro e w2 ⟨rfl, hS⟩
  go_wp2
  go_end0
  exact ⟨rfl, Sets.ahead hB1.out (sets_ofDrew hS) lz.out⟩
end
section
open Go.RowKit


set_option maxHeartbeats 4000000 in
theorem step_12 (rb len cap z x n zb xb v0 vx B : Nat) (y : Int) (hz : z < len) (hx : x < len) (w : World)
    (cz : w.cell? ⟨rb, z, none⟩ = some (.pointer (some ⟨zb, 0, none⟩))) (cx : w.cell? ⟨rb, x, none⟩ = some (.pointer (some ⟨xb, 0, none⟩)))
    (fz : Fe w zb 0 v0) (fx : Fe w xb 0 vx) :
    Calls Tryd.prog 10 #[.slice (some ⟨rb, 0, none⟩) len cap, .agg (opC 12 (z : Int) (x : Int) (y : Int) n)] w fun e w' => e = .returned (.tuple #[]) ∧ Sets w w' zb 0 vx := by
  go_enter Tryd.func10, Tryd.ntmps10
  go_upto_region 1 with fail
  refine wp_named ?_
  intro w1 ew1
  have hs1 : w.heap.size + 1 ≤ w1.heap.size := by rw [ew1]; (try simp only [alloc_size, setRow_size]); omega
  have hg : w1.heap[w.heap.size]? = some (.cells (opC 12 (z : Int) (x : Int) (y : Int) n) 33 (0, 0)) := by rw [ew1]; exact heap_new_at _ _ _ rfl
  have hB1 : Hid (Below w.heap.size w w1) := Lib.hid (by rw [ew1]; exact below_alloc (Below.refl _ w) _)
  have k0 : w1.cell? ⟨w.heap.size, 0, none⟩ = some (.int .i64 12) := cell_of_row w1 _ 0 _ _ _ hg
  have k1 : w1.cell? ⟨w.heap.size, 1, none⟩ = some (.int .i64 (z : Int)) := cell_of_row w1 _ 1 _ _ _ hg
  have k2 : w1.cell? ⟨w.heap.size, 2, none⟩ = some (.int .i64 (x : Int)) := cell_of_row w1 _ 2 _ _ _ hg
  have k3 : w1.cell? ⟨w.heap.size, 3, none⟩ = some (.int .i64 (y : Int)) := cell_of_row w1 _ 3 _ _ _ hg
  have k4 : w1.cell? ⟨w.heap.size, 4, none⟩ = some (.int .u32 (n : Int)) := cell_of_row w1 _ 4 _ _ _ hg
  have lz := Lib.hid fz.lt
  have c1 : w1.cell? ⟨rb, z, none⟩ = some (.pointer (some ⟨zb, 0, none⟩)) := (hB1.out.cell (p := ⟨rb, z, none⟩) (World.block_lt_of_cell? w ⟨rb, z, none⟩ cz)).trans cz
  have F1 := Lib.hid (Fe.below_all fz hB1.out)
  have c2 : w1.cell? ⟨rb, x, none⟩ = some (.pointer (some ⟨xb, 0, none⟩)) := (hB1.out.cell (p := ⟨rb, x, none⟩) (World.block_lt_of_cell? w ⟨rb, x, none⟩ cx)).trans cx
  have F2 := Lib.hid (Fe.below_all fx hB1.out)
  clear ew1 hg cz fz cx fx
  go_wp2_with fail
  refine (set_fe zb 0 xb 0 vx v0 _ F1.out F2.out).mono ?_
  rintro e w2 ⟨rfl, hS⟩
  go_wp2
  go_end0
  exact ⟨rfl, Sets.ahead hB1.out hS lz.out⟩
end
section
open Go.RowKit


set_option maxHeartbeats 4000000 in
theorem step_13 (rb len cap z n zb v0 B : Nat) (x : Int) (y : Int) (hz : z < len) (hB : B ≤ zb) (w : World)
    (cz : w.cell? ⟨rb, z, none⟩ = some (.pointer (some ⟨zb, 0, none⟩)))
    (fz : Fe w zb 0 v0) (hD0 : Var 0 z5 B w) :
    Calls Tryd.prog 10 #[.slice (some ⟨rb, 0, none⟩) len cap, .agg (opC 13 (z : Int) (x : Int) (y : Int) n)] w fun e w' => e = .returned (.tuple #[]) ∧ Sets w w' zb 0 0 := by
  go_enter Tryd.func10, Tryd.ntmps10
  go_upto_region 1 with fail
  refine wp_named ?_
  intro w1 ew1
  have hs1 : w.heap.size + 1 ≤ w1.heap.size := by rw [ew1]; (try simp only [alloc_size, setRow_size]); omega
  have hg : w1.heap[w.heap.size]? = some (.cells (opC 13 (z : Int) (x : Int) (y : Int) n) 33 (0, 0)) := by rw [ew1]; exact heap_new_at _ _ _ rfl
  have hB1 : Hid (Below w.heap.size w w1) := Lib.hid (by rw [ew1]; exact below_alloc (Below.refl _ w) _)
  have k0 : w1.cell? ⟨w.heap.size, 0, none⟩ = some (.int .i64 13) := cell_of_row w1 _ 0 _ _ _ hg
  have k1 : w1.cell? ⟨w.heap.size, 1, none⟩ = some (.int .i64 (z : Int)) := cell_of_row w1 _ 1 _ _ _ hg
  have k2 : w1.cell? ⟨w.heap.size, 2, none⟩ = some (.int .i64 (x : Int)) := cell_of_row w1 _ 2 _ _ _ hg
  have k3 : w1.cell? ⟨w.heap.size, 3, none⟩ = some (.int .i64 (y : Int)) := cell_of_row w1 _ 3 _ _ _ hg
  have k4 : w1.cell? ⟨w.heap.size, 4, none⟩ = some (.int .u32 (n : Int)) := cell_of_row w1 _ 4 _ _ _ hg
  have lz := Lib.hid fz.lt
  have c1 : w1.cell? ⟨rb, z, none⟩ = some (.pointer (some ⟨zb, 0, none⟩)) := (hB1.out.cell (p := ⟨rb, z, none⟩) (World.block_lt_of_cell? w ⟨rb, z, none⟩ cz)).trans cz
  have F1 := Lib.hid (Fe.below_all fz hB1.out)
  have V0 := Lib.hid (hD0.later hB1.out); clear hD0
  clear ew1 hg cz fz
  go_wp2_with fail
  refine (zero_fe zb 0 v0 B _ V0.out hB F1.out).mono ?_
  rintro e w2 ⟨rfl, hS⟩
  go_wp2
  go_end0
  exact ⟨rfl, Sets.ahead hB1.out hS lz.out⟩
end
section
open Go.RowKit


set_option maxHeartbeats 4000000 in
theorem step_14 (rb len cap z n zb v0 B : Nat) (x : Int) (y : Int) (hz : z < len) (hB : B ≤ zb) (w : World)
    (cz : w.cell? ⟨rb, z, none⟩ = some (.pointer (some ⟨zb, 0, none⟩)))
    (fz : Fe w zb 0 v0) (hDo : Var 2 o5 B w) :
    Calls Tryd.prog 10 #[.slice (some ⟨rb, 0, none⟩) len cap, .agg (opC 14 (z : Int) (x : Int) (y : Int) n)] w fun e w' => e = .returned (.tuple #[]) ∧ Sets w w' zb 0 1 := by
  go_enter Tryd.func10, Tryd.ntmps10
  go_upto_region 1 with fail
  refine wp_named ?_
  intro w1 ew1
  have hs1 : w.heap.size + 1 ≤ w1.heap.size := by rw [ew1]; (try simp only [alloc_size, setRow_size]); omega
  have hg : w1.heap[w.heap.size]? = some (.cells (opC 14 (z : Int) (x : Int) (y : Int) n) 33 (0, 0)) := by rw [ew1]; exact heap_new_at _ _ _ rfl
  have hB1 : Hid (Below w.heap.size w w1) := Lib.hid (by rw [ew1]; exact below_alloc (Below.refl _ w) _)
  have k0 : w1.cell? ⟨w.heap.size, 0, none⟩ = some (.int .i64 14) := cell_of_row w1 _ 0 _ _ _ hg
  have k1 : w1.cell? ⟨w.heap.size, 1, none⟩ = some (.int .i64 (z : Int)) := cell_of_row w1 _ 1 _ _ _ hg
  have k2 : w1.cell? ⟨w.heap.size, 2, none⟩ = some (.int .i64 (x : Int)) := cell_of_row w1 _ 2 _ _ _ hg
  have k3 : w1.cell? ⟨w.heap.size, 3, none⟩ = some (.int .i64 (y : Int)) := cell_of_row w1 _ 3 _ _ _ hg
  have k4 : w1.cell? ⟨w.heap.size, 4, none⟩ = some (.int .u32 (n : Int)) := cell_of_row w1 _ 4 _ _ _ hg
  have lz := Lib.hid fz.lt
  have c1 : w1.cell? ⟨rb, z, none⟩ = some (.pointer (some ⟨zb, 0, none⟩)) := (hB1.out.cell (p := ⟨rb, z, none⟩) (World.block_lt_of_cell? w ⟨rb, z, none⟩ cz)).trans cz
  have F1 := Lib.hid (Fe.below_all fz hB1.out)
  have VO := Lib.hid (hDo.later hB1.out); clear hDo
  clear ew1 hg cz fz
  go_wp2_with fail
  refine (one_fe zb 0 v0 B _ VO.out hB F1.out).mono ?_
  rintro e w2 ⟨rfl, hS⟩
  go_wp2
  go_end0
  exact ⟨rfl, Sets.ahead hB1.out hS lz.out⟩
end
section
open Go.RowKit


set_option maxHeartbeats 4000000 in
theorem step_15 (rb len cap z x n zb xb v0 vx B : Nat) (y : Int) (hz : z < len) (hx : x < len) (w : World)
    (cz : w.cell? ⟨rb, z, none⟩ = some (.pointer (some ⟨zb, 0, none⟩))) (cx : w.cell? ⟨rb, x, none⟩ = some (.pointer (some ⟨xb, 0, none⟩)))
    (fz : Fe w zb 0 v0) (fx : Fe w xb 0 vx) :
    Calls Tryd.prog 10 #[.slice (some ⟨rb, 0, none⟩) len cap, .agg (opC 15 (z : Int) (x : Int) (y : Int) n)] w fun e w' => e = .returned (.tuple #[]) ∧ Sets w w' zb 0 (xp vx (2 ^ (n % 10 + 1))) := by
  go_enter Tryd.func10, Tryd.ntmps10
  go_upto_region 1 with fail
  refine wp_named ?_
  intro w1 ew1
  have hs1 : w.heap.size + 1 ≤ w1.heap.size := by rw [ew1]; (try simp only [alloc_size, setRow_size]); omega
  have hg : w1.heap[w.heap.size]? = some (.cells (opC 15 (z : Int) (x : Int) (y : Int) n) 33 (0, 0)) := by rw [ew1]; exact heap_new_at _ _ _ rfl
  have hB1 : Hid (Below w.heap.size w w1) := Lib.hid (by rw [ew1]; exact below_alloc (Below.refl _ w) _)
  have k0 : w1.cell? ⟨w.heap.size, 0, none⟩ = some (.int .i64 15) := cell_of_row w1 _ 0 _ _ _ hg
  have k1 : w1.cell? ⟨w.heap.size, 1, none⟩ = some (.int .i64 (z : Int)) := cell_of_row w1 _ 1 _ _ _ hg
  have k2 : w1.cell? ⟨w.heap.size, 2, none⟩ = some (.int .i64 (x : Int)) := cell_of_row w1 _ 2 _ _ _ hg
  have k3 : w1.cell? ⟨w.heap.size, 3, none⟩ = some (.int .i64 (y : Int)) := cell_of_row w1 _ 3 _ _ _ hg
  have k4 : w1.cell? ⟨w.heap.size, 4, none⟩ = some (.int .u32 (n : Int)) := cell_of_row w1 _ 4 _ _ _ hg
  have lz := Lib.hid fz.lt
  have c1 : w1.cell? ⟨rb, z, none⟩ = some (.pointer (some ⟨zb, 0, none⟩)) := (hB1.out.cell (p := ⟨rb, z, none⟩) (World.block_lt_of_cell? w ⟨rb, z, none⟩ cz)).trans cz
  have F1 := Lib.hid (Fe.below_all fz hB1.out)
  have c2 : w1.cell? ⟨rb, x, none⟩ = some (.pointer (some ⟨xb, 0, none⟩)) := (hB1.out.cell (p := ⟨rb, x, none⟩) (World.block_lt_of_cell? w ⟨rb, x, none⟩ cx)).trans cx
  have F2 := Lib.hid (Fe.below_all fx hB1.out)
  clear ew1 hg cz fz cx fx
  go_wp2
  go_still_tail 11, (by kernel_rfl)
  change wpList _ _ _ _ _ w1.drew
  go_wp2_with fail
  rw [show ((n : Int) % 10 + 1) = ((n % 10 + 1 : Nat) : Int) by omega]
  refine (squareN_fe zb 0 xb 0 vx v0 (n % 10 + 1) (by omega) _ (Fe.drew F1.out) (Fe.drew F2.out) _ (Lib.hid rfl)).mono ?_
  rintro e w2 ⟨rfl, hS⟩
  go_wp2
  go_end0
  exact ⟨rfl, Sets.ahead hB1.out (sets_ofDrew hS) lz.out⟩
end
section
theorem fp_lt {n : Nat} (h : n < pF) : (fp n).val = n := by rw [fp_val, Nat.mod_eq_of_lt h]
theorem decP_some {N : Nat} {P : CP} (h : decP N = some P) : dcIs (valN N) = true ∧ dcX (valN N) (N / 57896044618658097711785492504343953926634992332820282019728792003956564819968) = P.x.val ∧ valN N = P.y.val := by
  unfold decP at h
  split at h
  · rename_i hi
    injection h with h
    subst h
    refine ⟨hi, ?_, ?_⟩
    · exact (fp_lt (dcX_lt _ _)).symm
    · exact (fp_lt (Nat.mod_lt _ pF_pos)).symm
  · cases h
theorem decP_none {N : Nat} (h : decP N = none) : dcIs (valN N) = false := by
  unfold decP at h
  split at h
  · cases h
  · rename_i hi
    simpa using hi
theorem zero_enc : encN CP.zero = 1 := by decide +kernel
theorem zero_dec : decP 1 = some CP.zero := by rw [← zero_enc]; exact dec_enc _
theorem zero_rp : Rp CP.zero 0 1 1 := ⟨fp_one_ne, by show (0 : Fp) = 0 * 1; grind, by show (1 : Fp) = 1 * 1; grind⟩
theorem top_bit (N : Nat) (h : N < 256 ^ 32) : 128 ≤ byteN N 31 ↔ N / 57896044618658097711785492504343953926634992332820282019728792003956564819968 = 1 := by unfold byteN; omega
theorem top_div (N : Nat) (h : N < 256 ^ 32) : byteN N 31 / 128 = N / 57896044618658097711785492504343953926634992332820282019728792003956564819968 := by unfold byteN; omega
theorem top_lt (N : Nat) (h : N < 57896044618658097711785492504343953926634992332820282019728792003956564819968) : byteN N 31 < 128 := by unfold byteN; omega
theorem top_set (N : Nat) (h : N < 57896044618658097711785492504343953926634992332820282019728792003956564819968) (i : Nat) (hi : i < 32) :
    byV (N + 57896044618658097711785492504343953926634992332820282019728792003956564819968) i = if i = 31 then .int .u8 ((byteN N 31 + 128 : Nat) : Int) else byV N i := by
  unfold byV
  have h' : ∀ j, j < 31 → byteN (N + 57896044618658097711785492504343953926634992332820282019728792003956564819968) j = byteN N j := by
    intro j hj
    have e : (N + 57896044618658097711785492504343953926634992332820282019728792003956564819968) % 256 ^ 31 = N % 256 ^ 31 := by omega
    rw [← byteN_mod _ 31 j hj, e, byteN_mod _ 31 j hj]
  by_cases e : i = 31
  · subst e
    rw [if_pos rfl]
    congr 2
    unfold byteN
    omega
  · rw [if_neg e, h' i (by omega)]
theorem enc_of (P : CP) : encN P = P.y.val + (P.x.val % 2) * 57896044618658097711785492504343953926634992332820282019728792003956564819968 := by
  unfold encN
  split <;> omega
end
section
open Go.RowKit

set_option maxHeartbeats 1000000 in
theorem power_to (a b m F : Nat) (HF : Hid (F = pm a b m)) (ha : a < m) (hb : b < 2 ^ 256) (hm1 : 1 < m) (hm : m < 57896044618658097711785492504343953926634992332820282019728792003956564819968) (w : World) :
    Calls Tryd.prog 44 #[.agg (numC a), .agg (numC b), .agg (numC m)] w fun e w' => e = .returned (.agg (numC F)) ∧ Below w.heap.size w w' := by
  go_enter Tryd.func44, Tryd.ntmps44
  go_wp2_with fail
  refine (small_any 1 (by omega) _).mono ?_
  rintro e w1 ⟨rfl, hC1⟩
  have hs1 : w.heap.size + 1 + 1 + 1 + 1 ≤ w1.heap.size := by have := hC1.size; (try simp only [alloc_size, setRow_size] at this); omega
  have h3 : w1.heap[w.heap.size]? = some (.cells (numC a) 42 (0, 0)) := (heap_call hC1 (heap_old _ (heap_old _ (heap_old _ (heap_new_at _ _ _ rfl)))))
  have h4 : w1.heap[w.heap.size + 1]? = some (.cells (numC b) 42 (0, 0)) := (heap_call hC1 (heap_old _ (heap_old _ (heap_new_at _ _ _ (by simp only [alloc_size, setRow_size])))))
  have h5 : w1.heap[w.heap.size + 1 + 1]? = some (.cells (numC m) 42 (0, 0)) := (heap_call hC1 (heap_old _ (heap_new_at _ _ _ (by simp only [alloc_size, setRow_size]))))
  have h6 : w1.heap[w.heap.size + 1 + 1 + 1]? = some (.cells (z4) 42 (0, 0)) := (heap_call hC1 (heap_new_at _ _ _ (by simp only [alloc_size, setRow_size])))
  have hB1 : Hid (Below w.heap.size w w1) := Lib.hid (below_call (below_alloc (below_alloc (below_alloc (below_alloc (Below.refl _ w) _) _) _) _) hC1)
  clear hC1
  go_wp2_with (first
    | ((with_reducible refine at_store 7 ?_); refine wpList_store_row rfl 42 _ _ rfl (w1.heap.size) (numC 1) rfl rfl 42 (z4) (heap_new_at _ _ _ rfl) (infoNum_of (numC 1) (numC_size _)) (z4_size.trans (numC_size _).symm) (numC_one _) ?_))
  go_loopw [8] (fun i wr => ∃ k X : Nat, k ≤ 256 ∧ i = .int .i64 ((k : Int) - 1) ∧ Hid (X = pm a (b / 2 ^ k) m) ∧ Hid (wr.heap[w.heap.size]? = some (.cells (numC a) 42 (0, 0))) ∧ Hid (wr.heap[w.heap.size + 1]? = some (.cells (numC b) 42 (0, 0))) ∧ Hid (wr.heap[w.heap.size + 1 + 1]? = some (.cells (numC m) 42 (0, 0))) ∧ Hid (wr.heap[w.heap.size + 1 + 1 + 1]? = some (.cells (z4) 42 (0, 0))) ∧ Hid (wr.heap[w1.heap.size]? = some (.cells (numC X) 42 (0, 0))) ∧ Hid (Below w.heap.size w wr)) (fun i _ => (intOf i + 1).toNat)
  case atStart =>
    exact ⟨256, 1, by omega, rfl, Lib.hid (by unfold pm; rw [Nat.div_eq_of_lt hb, Nat.pow_zero, Nat.mod_eq_of_lt hm1]), Lib.hid (heap_row _ (by omega) (heap_old _ h3)), Lib.hid (heap_row _ (by omega) (heap_old _ h4)), Lib.hid (heap_row _ (by omega) (heap_old _ h5)), Lib.hid (heap_row _ (by omega) (heap_old _ h6)), Lib.hid (setRow_heap _ _ _ _ _ _ (heap_new_at _ _ _ rfl)), Lib.hid (below_setRow (below_alloc hB1.out _) (by omega) _)⟩
  case round =>
    obtain ⟨k, X, hk, rfl, HX, H3, H4, H5, H6, H7, HB⟩ := hrel
    have h3 := H3.out
    have h4 := H4.out
    have h5 := H5.out
    have h6 := H6.out
    have h7 := H7.out
    clear H3 H4 H5 H6 H7
    rcases Nat.eq_zero_or_pos k with rfl | hpos
    · skip
      obtain rfl : X = F := by rw [HX.out, HF.out, Nat.pow_zero, Nat.div_one]
      go_wp2_with (first
        | ((with_reducible refine at_dst 25 ?_); refine wpList_load_row rfl 42 _ rfl (w1.heap.size) rfl 42 (numC X) (0, 0) _ h7 underNum rfl (infoNum_of (numC X) (numC_size _)) ?_)
        | ((with_reducible refine at_store 6 ?_); refine wpList_store_row rfl 42 _ _ rfl (w.heap.size + 1 + 1 + 1) (numC X) rfl rfl 42 (z4) h6 (infoNum_of (numC X) (numC_size _)) (z4_size.trans (numC_size _).symm) (numC_one _) ?_))
      refine bodyPost_ret (results_cell_row rfl _ _ (w.heap.size + 1 + 1 + 1) 42 (numC X) (0, 0) _ rfl (setRow_heap _ _ _ _ _ _ h6) underNum rfl (infoNum_of (numC X) (numC_size _))) rfl ⟨rfl, (below_setRow HB.out (by omega) _)⟩
    · obtain ⟨j, rfl⟩ : ∃ j, k = j + 1 := ⟨k - 1, by omega⟩
      have bl : X < m := by rw [HX.out]; exact Nat.mod_lt _ (by omega)
      obtain ⟨Y, qY⟩ : ∃ u : Nat, u = X * X % m := ⟨_, rfl⟩
      have bl2 : Y < m := by rw [qY]; exact Nat.mod_lt _ (by omega)
      have HY := Lib.hid qY; clear qY
      obtain ⟨Z, qZ⟩ : ∃ u : Nat, u = Y * a % m := ⟨_, rfl⟩
      have HZ := Lib.hid qZ; clear qZ
      by_cases hbit : b / 2 ^ j % 2 = 1
      · skip
        go_wp2_with (first
          | ((with_reducible refine at_dst 14 ?_); refine wpList_load_row rfl 42 _ rfl (w1.heap.size) rfl 42 (numC X) (0, 0) _ h7 underNum rfl (infoNum_of (numC X) (numC_size _)) ?_)
          | ((with_reducible refine at_dst 15 ?_); refine wpList_load_row rfl 42 _ rfl (w1.heap.size) rfl 42 (numC X) (0, 0) _ h7 underNum rfl (infoNum_of (numC X) (numC_size _)) ?_)
          | ((with_reducible refine at_dst 16 ?_); refine wpList_load_row rfl 42 _ rfl (w.heap.size + 1 + 1) rfl 42 (numC m) (0, 0) _ h5 underNum rfl (infoNum_of (numC m) (numC_size _)) ?_))
        refine (times_to X X m Y HY bl (by omega) hm _).mono ?_
        rintro e w2 ⟨rfl, hC2⟩
        have hs2 : wr.heap.size ≤ w2.heap.size := by have := hC2.size; (try simp only [alloc_size, setRow_size] at this); omega
        have h3 : w2.heap[w.heap.size]? = some (.cells (numC a) 42 (0, 0)) := (heap_call hC2 h3)
        have h4 : w2.heap[w.heap.size + 1]? = some (.cells (numC b) 42 (0, 0)) := (heap_call hC2 h4)
        have h5 : w2.heap[w.heap.size + 1 + 1]? = some (.cells (numC m) 42 (0, 0)) := (heap_call hC2 h5)
        have h6 : w2.heap[w.heap.size + 1 + 1 + 1]? = some (.cells (z4) 42 (0, 0)) := (heap_call hC2 h6)
        have h7 : w2.heap[w1.heap.size]? = some (.cells (numC X) 42 (0, 0)) := (heap_call hC2 h7)
        have hB2 : Hid (Below w.heap.size w w2) := Lib.hid (below_call HB.out hC2)
        clear hC2
        go_wp2_with (first
          | ((with_reducible refine at_store 7 ?_); refine wpList_store_row rfl 42 _ _ rfl (w1.heap.size) (numC Y) rfl rfl 42 (numC X) h7 (infoNum_of (numC Y) (numC_size _)) ((numC_size _).trans (numC_size _).symm) (numC_one _) ?_)
          | ((with_reducible refine at_dst 18 ?_); refine wpList_load_row rfl 42 _ rfl (w.heap.size + 1) rfl 42 (numC b) (0, 0) _ (heap_row _ (by omega) h4) underNum rfl (infoNum_of (numC b) (numC_size _)) ?_))
        refine (bit_true b j (by omega) hbit _).mono ?_
        rintro e w3 ⟨rfl, hC3⟩
        have hs3 : w2.heap.size ≤ w3.heap.size := by have := hC3.size; (try simp only [alloc_size, setRow_size] at this); omega
        have h3 : w3.heap[w.heap.size]? = some (.cells (numC a) 42 (0, 0)) := (heap_call hC3 (heap_row _ (by omega) h3))
        have h4 : w3.heap[w.heap.size + 1]? = some (.cells (numC b) 42 (0, 0)) := (heap_call hC3 (heap_row _ (by omega) h4))
        have h5 : w3.heap[w.heap.size + 1 + 1]? = some (.cells (numC m) 42 (0, 0)) := (heap_call hC3 (heap_row _ (by omega) h5))
        have h6 : w3.heap[w.heap.size + 1 + 1 + 1]? = some (.cells (z4) 42 (0, 0)) := (heap_call hC3 (heap_row _ (by omega) h6))
        have h7 : w3.heap[w1.heap.size]? = some (.cells (numC Y) 42 (0, 0)) := (heap_call hC3 (setRow_heap _ _ _ _ _ _ h7))
        have hB3 : Hid (Below w.heap.size w w3) := Lib.hid (below_call (below_setRow hB2.out (by omega) _) hC3)
        clear hC3
        go_wp2_with (first
          | ((with_reducible refine at_dst 21 ?_); refine wpList_load_row rfl 42 _ rfl (w1.heap.size) rfl 42 (numC Y) (0, 0) _ h7 underNum rfl (infoNum_of (numC Y) (numC_size _)) ?_)
          | ((with_reducible refine at_dst 22 ?_); refine wpList_load_row rfl 42 _ rfl (w.heap.size) rfl 42 (numC a) (0, 0) _ h3 underNum rfl (infoNum_of (numC a) (numC_size _)) ?_)
          | ((with_reducible refine at_dst 23 ?_); refine wpList_load_row rfl 42 _ rfl (w.heap.size + 1 + 1) rfl 42 (numC m) (0, 0) _ h5 underNum rfl (infoNum_of (numC m) (numC_size _)) ?_))
        refine (times_to Y a m Z HZ bl2 (by omega) hm _).mono ?_
        rintro e w4 ⟨rfl, hC4⟩
        have hs4 : w3.heap.size ≤ w4.heap.size := by have := hC4.size; (try simp only [alloc_size, setRow_size] at this); omega
        have h3 : w4.heap[w.heap.size]? = some (.cells (numC a) 42 (0, 0)) := (heap_call hC4 h3)
        have h4 : w4.heap[w.heap.size + 1]? = some (.cells (numC b) 42 (0, 0)) := (heap_call hC4 h4)
        have h5 : w4.heap[w.heap.size + 1 + 1]? = some (.cells (numC m) 42 (0, 0)) := (heap_call hC4 h5)
        have h6 : w4.heap[w.heap.size + 1 + 1 + 1]? = some (.cells (z4) 42 (0, 0)) := (heap_call hC4 h6)
        have h7 : w4.heap[w1.heap.size]? = some (.cells (numC Y) 42 (0, 0)) := (heap_call hC4 h7)
        have hB4 : Hid (Below w.heap.size w w4) := Lib.hid (below_call hB3.out hC4)
        clear hC4
        go_wp2_with (first
          | ((with_reducible refine at_store 7 ?_); refine wpList_store_row rfl 42 _ _ rfl (w1.heap.size) (numC Z) rfl rfl 42 (numC Y) h7 (infoNum_of (numC Z) (numC_size _)) ((numC_size _).trans (numC_size _).symm) (numC_one _) ?_))
        go_roundw
        case rel =>
          exact ⟨j, _, by omega, by go_num, Lib.hid (by rw [HZ.out, HY.out, HX.out]; exact pm_step1 a b m j hbit), Lib.hid (heap_row _ (by omega) h3), Lib.hid (heap_row _ (by omega) h4), Lib.hid (heap_row _ (by omega) h5), Lib.hid (heap_row _ (by omega) h6), Lib.hid (setRow_heap _ _ _ _ _ _ h7), Lib.hid (below_setRow hB4.out (by omega) _)⟩
        case measure => simp [intOf]
      · skip
        go_wp2_with (first
          | ((with_reducible refine at_dst 14 ?_); refine wpList_load_row rfl 42 _ rfl (w1.heap.size) rfl 42 (numC X) (0, 0) _ h7 underNum rfl (infoNum_of (numC X) (numC_size _)) ?_)
          | ((with_reducible refine at_dst 15 ?_); refine wpList_load_row rfl 42 _ rfl (w1.heap.size) rfl 42 (numC X) (0, 0) _ h7 underNum rfl (infoNum_of (numC X) (numC_size _)) ?_)
          | ((with_reducible refine at_dst 16 ?_); refine wpList_load_row rfl 42 _ rfl (w.heap.size + 1 + 1) rfl 42 (numC m) (0, 0) _ h5 underNum rfl (infoNum_of (numC m) (numC_size _)) ?_))
        refine (times_to X X m Y HY bl (by omega) hm _).mono ?_
        rintro e w2 ⟨rfl, hC2⟩
        have hs2 : wr.heap.size ≤ w2.heap.size := by have := hC2.size; (try simp only [alloc_size, setRow_size] at this); omega
        have h3 : w2.heap[w.heap.size]? = some (.cells (numC a) 42 (0, 0)) := (heap_call hC2 h3)
        have h4 : w2.heap[w.heap.size + 1]? = some (.cells (numC b) 42 (0, 0)) := (heap_call hC2 h4)
        have h5 : w2.heap[w.heap.size + 1 + 1]? = some (.cells (numC m) 42 (0, 0)) := (heap_call hC2 h5)
        have h6 : w2.heap[w.heap.size + 1 + 1 + 1]? = some (.cells (z4) 42 (0, 0)) := (heap_call hC2 h6)
        have h7 : w2.heap[w1.heap.size]? = some (.cells (numC X) 42 (0, 0)) := (heap_call hC2 h7)
        have hB2 : Hid (Below w.heap.size w w2) := Lib.hid (below_call HB.out hC2)
        clear hC2
        go_wp2_with (first
          | ((with_reducible refine at_store 7 ?_); refine wpList_store_row rfl 42 _ _ rfl (w1.heap.size) (numC Y) rfl rfl 42 (numC X) h7 (infoNum_of (numC Y) (numC_size _)) ((numC_size _).trans (numC_size _).symm) (numC_one _) ?_)
          | ((with_reducible refine at_dst 18 ?_); refine wpList_load_row rfl 42 _ rfl (w.heap.size + 1) rfl 42 (numC b) (0, 0) _ (heap_row _ (by omega) h4) underNum rfl (infoNum_of (numC b) (numC_size _)) ?_))
        refine (bit_false b j (by omega) hbit _).mono ?_
        rintro e w3 ⟨rfl, hC3⟩
        have hs3 : w2.heap.size ≤ w3.heap.size := by have := hC3.size; (try simp only [alloc_size, setRow_size] at this); omega
        have h3 : w3.heap[w.heap.size]? = some (.cells (numC a) 42 (0, 0)) := (heap_call hC3 (heap_row _ (by omega) h3))
        have h4 : w3.heap[w.heap.size + 1]? = some (.cells (numC b) 42 (0, 0)) := (heap_call hC3 (heap_row _ (by omega) h4))
        have h5 : w3.heap[w.heap.size + 1 + 1]? = some (.cells (numC m) 42 (0, 0)) := (heap_call hC3 (heap_row _ (by omega) h5))
        have h6 : w3.heap[w.heap.size + 1 + 1 + 1]? = some (.cells (z4) 42 (0, 0)) := (heap_call hC3 (heap_row _ (by omega) h6))
        have h7 : w3.heap[w1.heap.size]? = some (.cells (numC Y) 42 (0, 0)) := (heap_call hC3 (setRow_heap _ _ _ _ _ _ h7))
        have hB3 : Hid (Below w.heap.size w w3) := Lib.hid (below_call (below_setRow hB2.out (by omega) _) hC3)
        clear hC3
        go_wp2
        go_roundw
        case rel =>
          exact ⟨j, _, by omega, by go_num, Lib.hid (by rw [HY.out, HX.out]; exact pm_step0 a b m j hbit), Lib.hid h3, Lib.hid h4, Lib.hid h5, Lib.hid h6, Lib.hid h7, Lib.hid hB3.out⟩
        case measure => simp [intOf]
end
section
open Go.RowKit

theorem and127 (B : Nat) (hB : B < 256) : bits .and .u8 (B : Int) 127 = ((B % 128 : Nat) : Int) := by
  refine (bits_and_u8_nat B 127 hB (by omega)).trans ?_
  rw [show B &&& 127 = B % 128 from Nat.and_two_pow_sub_one_eq_mod B 7]

theorem low255 (N i : Nat) (hi : i < 32) : byV (N % 57896044618658097711785492504343953926634992332820282019728792003956564819968) i = if i = 31 then .int .u8 ((byteN N 31 % 128 : Nat) : Int) else byV N i := by
  unfold byV
  have h : ∀ j, j < 31 → byteN (N % 57896044618658097711785492504343953926634992332820282019728792003956564819968) j = byteN N j := by
    intro j hj
    have e : N % 57896044618658097711785492504343953926634992332820282019728792003956564819968 % 256 ^ 31 = N % 256 ^ 31 := by omega
    rw [← byteN_mod _ 31 j hj, e, byteN_mod _ 31 j hj]
  by_cases e : i = 31
  · subst e
    rw [if_pos rfl]
    congr 2
    unfold byteN
    omega
  · rw [if_neg e, h i (by omega)]

theorem reduced_to (N n m b off cap r : Nat) (hr : Hid (r = N % m)) (hN : N < 2 ^ (8 * n)) (hn : n ≤ 140737488351232) (hm1 : 1 < m) (hm : m < 57896044618658097711785492504343953926634992332820282019728792003956564819968) (w : World) (hR : Row w b off n (byV N)) :
    Calls Tryd.prog 35 #[.slice (some ⟨b, off, none⟩) n cap, .agg (numC m)] w fun e w' => e = .returned (.agg (numC r)) ∧ Below w.heap.size w w' := by
  rw [hr.out]; exact reduced_any N n m b off cap hN hn hm1 hm w hR
set_option maxHeartbeats 1000000 in
theorem element_any (N : Nat) (w : World) : Calls Tryd.prog 12 #[.agg (arrC N)] w fun e w' => e = .returned (.agg (numC (valN N))) ∧ Below w.heap.size w w' := by
  obtain ⟨R, qR⟩ : ∃ u : Nat, u = valN N := ⟨_, rfl⟩
  rw [← qR]
  have HR := Lib.hid qR; clear qR
  have r0 := (Row.ofArr (heap_new w (.cells (arrC N) 27))).alloc (.cells #[.int .u64 0, .int .u64 0, .int .u64 0, .int .u64 0] 42)
  have hw := Lib.hid (Wr.start r0)
  have c31 := r0.cell (i := 31) (by omega)
  have f31 := r0.frozen (i := 31) (by omega)
  rw [Nat.zero_add] at c31 f31
  unfold byV at c31
  have hb := byteN_lt N 31
  have h127 := and127 _ hb
  have hl := Lib.hid (low255 N)
  generalize byteN N 31 = B at *
  generalize hq : B % 128 = D at *
  have Hr := Lib.hid r0
  clear r0 hq
  go_enter Tryd.func12, Tryd.ntmps12
  go_wp2
  refine wp_named ?_
  intro w1 hw1
  obtain ⟨M, qM⟩ : ∃ u : Nat, u = N % 57896044618658097711785492504343953926634992332820282019728792003956564819968 := ⟨_, rfl⟩
  have hM : M < 2 ^ (8 * 32) := by omega
  have HRM : Hid (R = M % pF) := Lib.hid (by rw [HR.out, qM]; rfl)
  rw [← qM] at hl
  clear qM
  have eM : (arrC N).setIfInBounds 31 (.int .u8 (D : Int)) = arrC M := by
    refine arr_ext M _ (by simp [arrC_size]) fun i hi => ?_
    rw [Array.getElem?_setIfInBounds, hl.out i hi]
    by_cases e : i = 31
    · subst e; simp [arrC_size]
    · rw [if_neg (by omega), if_neg e]; exact arr_get N i hi
  rw [eM] at hw1
  have h1 : w1.heap[w.heap.size]? = some (.cells (arrC M) 27 (0, 0)) := by rw [hw1]; exact heap_old _ (heap_new_at _ _ _ rfl)
  have h2 : w1.heap[w.heap.size + 1]? = some (.cells z4 42 (0, 0)) := by rw [hw1]; exact heap_new_at _ _ _ (by simp only [alloc_size])
  have hs1 : w.heap.size + 2 ≤ w1.heap.size := by rw [hw1]; simp only [alloc_size]; omega
  have hB1 := Lib.hid (show Below w.heap.size w w1 by rw [hw1]; exact below_alloc (below_alloc (Below.refl _ w) _) _)
  clear hw1 hw Hr eM hl c31 f31 h127
  refine wp_region_noPanic ?_
  refine wp_region_held_drew (S := Keep (w.heap.size + 1) w1) (by kernel_rfl) (Keep.start _ _) ?_
  intro hS
  obtain ⟨w2, ed⟩ : ∃ u : World, u = w1.drew := ⟨_, rfl⟩
  rw [← ed] at hS ⊢
  have hT : w2.heap[w.heap.size + 1]? = some (.cells (z4) 42 (0, 0)) := by rw [ed]; exact h2
  clear ed
  refine wpAnyH_take (i := 0) (v := .slice (some ⟨w.heap.size, 0, none⟩) 32 32) rfl (by kernel_rfl) (by kernel_rfl) (by kernel_rfl) (fun _ _ _ h => h) (take_run rfl (fun _ _ => by go_simp)) hS ?_
  simp only [Act.put, List.setIfInBounds_toArray, List.set_cons_zero, List.set_cons_succ]
  refine wpAnyH_ready (rs := [1]) (by kernel_rfl) (by simp) ?_
  refine (AllReadyH.cons rfl ?_ AllReadyH.nil)
  intro K hK
  go_simp
  refine (prime_any _).mono ?_
  rintro e w3 ⟨rfl, hC⟩
  have hT := heap_call hC hT
  have hS := hS.call hC
  clear hC
  refine hK.out _ _ hS ?_
  clear hK K
  intro _
  refine wpAnyH_ready (rs := [2]) (by kernel_rfl) (by simp) ?_
  refine (AllReadyH.cons rfl ?_ AllReadyH.nil)
  intro K hK
  go_simp
  refine (reduced_to M 32 pF (w.heap.size) 0 32 R HRM (by omega) (by omega) (by unfold pF; omega) (by unfold pF; omega) _ (Row.ofArr (hS.old h1 (by omega)))).mono ?_
  rintro e w4 ⟨rfl, hC⟩
  have hT := heap_call hC hT
  have hS := hS.call hC
  clear hC
  refine hK.out _ _ hS ?_
  clear hK K
  intro _
  refine wpAnyH_ready (rs := [3]) (by kernel_rfl) (by simp) ?_
  refine (AllReadyH.cons rfl ?_ AllReadyH.nil)
  intro K hK
  rw [if_pos (by rfl)]
  refine wp_store_row 42 _ _ rfl (w.heap.size + 1) (numC R) rfl rfl 42 (z4) hT (infoNum_of (numC R) (numC_size _)) (z4_size.trans (numC_size _).symm) (numC_one _) ?_
  simp only [Act.put, List.setIfInBounds_toArray, List.set_cons_zero, List.set_cons_succ]
  have hS := hS.store (numC R)
  have hT : (w4.setRow (w.heap.size + 1) (numC R)).heap[w.heap.size + 1]? = some (.cells (numC R) 42 (0, 0)) := setRow_heap _ _ _ _ _ _ hT
  generalize w4.setRow (w.heap.size + 1) (numC R) = w5 at *
  refine hK.out _ _ hS ?_
  clear hK K
  intro _
  refine wpAnyH_done (by kernel_rfl) ?_ _
  refine NoPanic.normal ?_
  have h1 : w5.heap[w.heap.size]? = some (.cells (arrC M) 27 (0, 0)) := hS.old h1 (by omega)
  have h2 := hT
  have hsz6 := hS.size
  have hB6 : Hid (Below w.heap.size w w5) := Lib.hid (hB1.out.trans (hS.below (by omega) hB1.out.size))
  clear hS
  go_wp2
  refine bodyPost_ret (results_cell_row rfl _ _ (w.heap.size + 1) 42 (numC R) (0, 0) _ rfl h2 underNum rfl (infoNum_of (numC R) (numC_size _))) rfl ⟨rfl, hB6.out⟩
end
section
open Go.RowKit

theorem element_to (N r : Nat) (hr : Hid (r = valN N)) (w : World) : Calls Tryd.prog 12 #[.agg (arrC N)] w fun e w' => e = .returned (.agg (numC r)) ∧ Below w.heap.size w w' := by
  rw [hr.out]; exact element_any N w

theorem valN_lt' (x : Nat) : valN x < pF := Nat.mod_lt _ pF_pos
end
section
open Go.RowKit

theorem rest_to (a b d k : Nat) (ha : a < 18446744073709551616 ^ 4 ∧ b < 18446744073709551616 ^ 4) (h : difN a b = d ∧ (if a < b then 1 else 0 : Nat) = k) (w : World) : Calls Tryd.prog 59 #[.agg (numC a), .agg (numC b)] w fun e w' => e = .returned (.tuple #[.agg (numC d), .int .u64 (k : Int)]) ∧ Below w.heap.size w w' := by
  rw [← h.1, ← h.2]; exact rest_any a b ha.1 ha.2 w

set_option maxHeartbeats 1000000 in
theorem inverse_to (a R : Nat) (ha : a < pF) (hR : Hid (R = xp a 57896044618658097711785492504343953926634992332820282019728792003956564819947)) (w : World) :
    Calls Tryd.prog 42 #[.agg (numC a)] w fun e w' => e = .returned (.agg (numC R)) ∧ Below w.heap.size w w' := by
  have HR : Hid (R = pm a 57896044618658097711785492504343953926634992332820282019728792003956564819947 pF) := Lib.hid hR.out
  clear hR
  go_enter Tryd.func42, Tryd.ntmps42
  go_wp2_with fail
  refine (prime_any _).mono ?_
  rintro e w1 ⟨rfl, hC1⟩
  have hs1 : w.heap.size + 1 + 1 ≤ w1.heap.size := by have := hC1.size; (try simp only [alloc_size, setRow_size] at this); omega
  replace h1 : w1.heap[w.heap.size]? = some (.cells (numC a) 42 (0, 0)) := (heap_call hC1 (heap_old _ (heap_new_at _ _ _ rfl)))
  replace h2 : w1.heap[w.heap.size + 1]? = some (.cells (z4) 42 (0, 0)) := (heap_call hC1 (heap_new_at _ _ _ (by simp only [alloc_size, setRow_size])))
  have hBw1 : Hid (Below w.heap.size w w1) := Lib.hid (below_call (below_alloc (below_alloc (Below.refl _ w) _) _) hC1)
  clear hC1
  go_wp2_with fail
  refine (small_any 2 (by omega) _).mono ?_
  rintro e w2 ⟨rfl, hC2⟩
  have hs2 : w1.heap.size ≤ w2.heap.size := by have := hC2.size; (try simp only [alloc_size, setRow_size] at this); omega
  replace h1 : w2.heap[w.heap.size]? = some (.cells (numC a) 42 (0, 0)) := (heap_call hC2 h1)
  replace h2 : w2.heap[w.heap.size + 1]? = some (.cells (z4) 42 (0, 0)) := (heap_call hC2 h2)
  have hBw2 : Hid (Below w.heap.size w w2) := Lib.hid (below_call hBw1.out hC2)
  clear hC2
  go_wp2_with fail
  refine (rest_to pF 2 57896044618658097711785492504343953926634992332820282019728792003956564819947 0 (by decide +kernel) (by decide +kernel) _).mono ?_
  rintro e w3 ⟨rfl, hC3⟩
  have hs3 : w2.heap.size ≤ w3.heap.size := by have := hC3.size; (try simp only [alloc_size, setRow_size] at this); omega
  replace h1 : w3.heap[w.heap.size]? = some (.cells (numC a) 42 (0, 0)) := (heap_call hC3 h1)
  replace h2 : w3.heap[w.heap.size + 1]? = some (.cells (z4) 42 (0, 0)) := (heap_call hC3 h2)
  have hBw3 : Hid (Below w.heap.size w w3) := Lib.hid (below_call hBw2.out hC3)
  clear hC3
  go_wp2_with (first
    | ((with_reducible refine at_store 3 ?_); refine wpList_store_row rfl 42 _ _ rfl (w3.heap.size) (numC 57896044618658097711785492504343953926634992332820282019728792003956564819947) rfl rfl 42 (z4) (heap_new_at _ _ _ rfl) (infoNum_of (numC 57896044618658097711785492504343953926634992332820282019728792003956564819947) (numC_size _)) (z4_size.trans (numC_size _).symm) (numC_one _) ?_))
  refine wp_named ?_
  intro w4 ew4
  have hs4 : w3.heap.size + 1 ≤ w4.heap.size := by rw [ew4]; (try simp only [alloc_size, setRow_size]); omega
  replace h1 : w4.heap[w.heap.size]? = some (.cells (numC a) 42 (0, 0)) := by rw [ew4]; exact (heap_row _ (by omega) (heap_old _ h1))
  replace h2 : w4.heap[w.heap.size + 1]? = some (.cells (z4) 42 (0, 0)) := by rw [ew4]; exact (heap_row _ (by omega) (heap_old _ h2))
  replace h3 : w4.heap[w3.heap.size]? = some (.cells (numC 57896044618658097711785492504343953926634992332820282019728792003956564819947) 42 (0, 0)) := by rw [ew4]; exact (setRow_heap _ _ _ _ _ _ (heap_new_at _ _ _ rfl))
  have hBw4 : Hid (Below w.heap.size w w4) := Lib.hid (by rw [ew4]; exact (below_setRow (below_alloc hBw3.out _) (by omega) _))
  clear ew4
  refine wp_region_noPanic ?_
  refine wp_region_held_drew (S := Keep (w.heap.size + 1) w4) (by kernel_rfl) (Keep.start _ _) ?_
  intro hS
  obtain ⟨w5, ed⟩ : ∃ u : World, u = w4.drew := ⟨_, rfl⟩
  rw [← ed] at hS ⊢
  have xh1 : w5.heap[w.heap.size]? = some (.cells (numC a) 42 (0, 0)) := by rw [ed]; exact h1
  have xh2 : w5.heap[w.heap.size + 1]? = some (.cells (z4) 42 (0, 0)) := by rw [ed]; exact h2
  have xh3 : w5.heap[w3.heap.size]? = some (.cells (numC 57896044618658097711785492504343953926634992332820282019728792003956564819947) 42 (0, 0)) := by rw [ed]; exact h3
  clear ed
  have hSz := hS.size
  clear xh1
  clear xh3
  refine takeAt (i := 0) (v := .agg (numC a)) rfl (some 11) rfl (by kernel_rfl) (by kernel_rfl) (by kernel_rfl) (fun _ _ _ h => h) (take_row rfl _ _ rfl (w.heap.size) rfl _ _ _ h1 (by omega) underNum rfl (infoNum_of (numC a) (numC_size _))) hS ?_
  simp only [Act.put, List.setIfInBounds_toArray, List.set_cons_zero, List.set_cons_succ]
  refine takeAt (i := 1) (v := .agg (numC 57896044618658097711785492504343953926634992332820282019728792003956564819947)) rfl (some 12) rfl (by kernel_rfl) (by kernel_rfl) (by kernel_rfl) (fun _ _ _ h => h) (take_row rfl _ _ rfl (w3.heap.size) rfl _ _ _ h3 (by omega) underNum rfl (infoNum_of (numC 57896044618658097711785492504343953926634992332820282019728792003956564819947) (numC_size _))) hS ?_
  simp only [Act.put, List.setIfInBounds_toArray, List.set_cons_zero, List.set_cons_succ]
  refine wpAnyH_ready (rs := [2]) (by kernel_rfl) (by simp) ?_
  refine (AllReadyH.cons rfl ?_ AllReadyH.nil)
  intro K hK
  refine ready_call rfl (some 13) rfl 36 #[] (by go_simp) ?_
  refine (prime_any _).mono ?_
  rintro e w6 ⟨rfl, hC⟩
  refine ⟨_, rfl, ?_⟩
  simp only [Act.put, List.setIfInBounds_toArray, List.set_cons_zero, List.set_cons_succ]
  have xh2 : w6.heap[w.heap.size + 1]? = some (.cells (z4) 42 (0, 0)) := (heap_call hC xh2)
  have hS := hS.call hC
  have hz6 := hC.size
  clear hC
  refine hK.out _ _ hS ?_
  clear hK K
  intro _
  have hSz := hS.size
  refine wpAnyH_ready (rs := [3]) (by kernel_rfl) (by simp) ?_
  refine (AllReadyH.cons rfl ?_ AllReadyH.nil)
  intro K hK
  refine ready_call rfl (some 14) rfl 44 #[.agg (numC a), .agg (numC 57896044618658097711785492504343953926634992332820282019728792003956564819947), .agg (numC pF)] (by go_simp) ?_
  refine (power_to a 57896044618658097711785492504343953926634992332820282019728792003956564819947 pF R HR ha (by decide +kernel) (by unfold pF; omega) (by decide +kernel) _).mono ?_
  rintro e w7 ⟨rfl, hC⟩
  refine ⟨_, rfl, ?_⟩
  simp only [Act.put, List.setIfInBounds_toArray, List.set_cons_zero, List.set_cons_succ]
  have xh2 : w7.heap[w.heap.size + 1]? = some (.cells (z4) 42 (0, 0)) := (heap_call hC xh2)
  have hS := hS.call hC
  have hz7 := hC.size
  clear hC
  refine hK.out _ _ hS ?_
  clear hK K
  intro _
  have hSz := hS.size
  refine wpAnyH_ready (rs := [4]) (by kernel_rfl) (by simp) ?_
  refine (AllReadyH.cons rfl ?_ AllReadyH.nil)
  intro K hK
  rw [if_pos (by rfl)]
  refine wp_store_row 42 _ _ rfl (w.heap.size + 1) (numC R) rfl rfl 42 (z4) xh2 (infoNum_of (numC R) (numC_size _)) (z4_size.trans (numC_size _).symm) (numC_one _) ?_
  refine put_at (none) rfl ?_
  simp only [Act.put, List.setIfInBounds_toArray, List.set_cons_zero, List.set_cons_succ]
  have xh2 : (w7.setRow (w.heap.size + 1) (numC R)).heap[w.heap.size + 1]? = some (.cells (numC R) 42 (0, 0)) := (setRow_heap _ _ _ _ _ _ xh2)
  have hS := hS.store (numC R)
  generalize w7.setRow (w.heap.size + 1) (numC R) = w8 at *
  refine hK.out _ _ hS ?_
  clear hK K
  intro _
  have hSz := hS.size
  refine wpAnyH_done (by kernel_rfl) ?_ _
  refine NoPanic.normal ?_
  have hsz := hS.size
  have h1 : w8.heap[w.heap.size]? = some (.cells (numC a) 42 (0, 0)) := hS.old h1 (by omega)
  have h3 : w8.heap[w3.heap.size]? = some (.cells (numC 57896044618658097711785492504343953926634992332820282019728792003956564819947) 42 (0, 0)) := hS.old h3 (by omega)
  have h2 := xh2
  have hBw8 : Hid (Below w.heap.size w w8) := Lib.hid (hBw4.out.trans (hS.below (by omega) hBw4.out.size))
  clear hS
  go_wp2
  refine bodyPost_ret (results_cell_row rfl _ _ (w.heap.size + 1) 42 (numC R) (0, 0) _ rfl h2 underNum rfl (infoNum_of (numC R) (numC_size _))) rfl ⟨rfl, hBw8.out⟩
end
section
open Go.RowKit

set_option maxHeartbeats 1000000 in
theorem opposite_to (a R : Nat) (ha : a < pF) (hR : Hid (R = (pF - a) % pF)) (w : World) :
    Calls Tryd.prog 40 #[.agg (numC a)] w fun e w' => e = .returned (.agg (numC R)) ∧ Below w.heap.size w w' := by
  have HR : Hid (R = (0 + (pF - a)) % pF) := Lib.hid (by rw [Nat.zero_add]; exact hR.out)
  clear hR
  go_enter Tryd.func40, Tryd.ntmps40
  go_wp2_with fail
  refine wp_named ?_
  intro w1 ew1
  have hs1 : w.heap.size + 1 + 1 ≤ w1.heap.size := by rw [ew1]; (try simp only [alloc_size, setRow_size]); omega
  have h1 : w1.heap[w.heap.size]? = some (.cells (numC a) 42 (0, 0)) := by rw [ew1]; exact (heap_old _ (heap_new_at _ _ _ rfl))
  have h2 : w1.heap[w.heap.size + 1]? = some (.cells (z4) 42 (0, 0)) := by rw [ew1]; exact (heap_new_at _ _ _ (by simp only [alloc_size, setRow_size]))
  have hBw1 : Hid (Below w.heap.size w w1) := Lib.hid (by rw [ew1]; exact (below_alloc (below_alloc (Below.refl _ w) _) _))
  clear ew1
  refine wp_region_noPanic ?_
  refine wp_region_held_drew (S := Keep (w.heap.size + 1) w1) (by kernel_rfl) (Keep.start _ _) ?_
  intro hS
  obtain ⟨w2, ed⟩ : ∃ u : World, u = w1.drew := ⟨_, rfl⟩
  rw [← ed] at hS ⊢
  have xh1 : w2.heap[w.heap.size]? = some (.cells (numC a) 42 (0, 0)) := by rw [ed]; exact h1
  have xh2 : w2.heap[w.heap.size + 1]? = some (.cells (z4) 42 (0, 0)) := by rw [ed]; exact h2
  clear ed
  have hSz := hS.size
  clear xh1
  refine takeAt (i := 0) (v := .agg (numC 0)) rfl (some 3) rfl (by kernel_rfl) (by kernel_rfl) (by kernel_rfl) (fun _ _ _ h => h) (take_run rfl (fun _ _ => by go_simp; rfl)) hS ?_
  simp only [Act.put, List.setIfInBounds_toArray, List.set_cons_zero, List.set_cons_succ]
  refine takeAt (i := 1) (v := .agg (numC a)) rfl (some 4) rfl (by kernel_rfl) (by kernel_rfl) (by kernel_rfl) (fun _ _ _ h => h) (take_row rfl _ _ rfl (w.heap.size) rfl _ _ _ h1 (by omega) underNum rfl (infoNum_of (numC a) (numC_size _))) hS ?_
  simp only [Act.put, List.setIfInBounds_toArray, List.set_cons_zero, List.set_cons_succ]
  refine wpAnyH_ready (rs := [2]) (by kernel_rfl) (by simp) ?_
  refine (AllReadyH.cons rfl ?_ AllReadyH.nil)
  intro K hK
  refine ready_call rfl (some 5) rfl 36 #[] (by go_simp) ?_
  refine (prime_any _).mono ?_
  rintro e w3 ⟨rfl, hC⟩
  refine ⟨_, rfl, ?_⟩
  simp only [Act.put, List.setIfInBounds_toArray, List.set_cons_zero, List.set_cons_succ]
  have xh2 : w3.heap[w.heap.size + 1]? = some (.cells (z4) 42 (0, 0)) := (heap_call hC xh2)
  have hS := hS.call hC
  have hz3 := hC.size
  clear hC
  refine hK.out _ _ hS ?_
  clear hK K
  intro _
  have hSz := hS.size
  refine wpAnyH_ready (rs := [3]) (by kernel_rfl) (by simp) ?_
  refine (AllReadyH.cons rfl ?_ AllReadyH.nil)
  intro K hK
  refine ready_call rfl (some 6) rfl 38 #[.agg (numC 0), .agg (numC a), .agg (numC pF)] (by go_simp) ?_
  refine (minus_to 0 a pF R HR (by unfold pF; omega) ha (by unfold pF; omega) _).mono ?_
  rintro e w4 ⟨rfl, hC⟩
  refine ⟨_, rfl, ?_⟩
  simp only [Act.put, List.setIfInBounds_toArray, List.set_cons_zero, List.set_cons_succ]
  have xh2 : w4.heap[w.heap.size + 1]? = some (.cells (z4) 42 (0, 0)) := (heap_call hC xh2)
  have hS := hS.call hC
  have hz4 := hC.size
  clear hC
  refine hK.out _ _ hS ?_
  clear hK K
  intro _
  have hSz := hS.size
  refine wpAnyH_ready (rs := [4]) (by kernel_rfl) (by simp) ?_
  refine (AllReadyH.cons rfl ?_ AllReadyH.nil)
  intro K hK
  rw [if_pos (by rfl)]
  refine wp_store_row 42 _ _ rfl (w.heap.size + 1) (numC R) rfl rfl 42 (z4) xh2 (infoNum_of (numC R) (numC_size _)) (z4_size.trans (numC_size _).symm) (numC_one _) ?_
  refine put_at (none) rfl ?_
  simp only [Act.put, List.setIfInBounds_toArray, List.set_cons_zero, List.set_cons_succ]
  have xh2 : (w4.setRow (w.heap.size + 1) (numC R)).heap[w.heap.size + 1]? = some (.cells (numC R) 42 (0, 0)) := (setRow_heap _ _ _ _ _ _ xh2)
  have hS := hS.store (numC R)
  generalize w4.setRow (w.heap.size + 1) (numC R) = w5 at *
  refine hK.out _ _ hS ?_
  clear hK K
  intro _
  have hSz := hS.size
  refine wpAnyH_done (by kernel_rfl) ?_ _
  refine NoPanic.normal ?_
  have hsz := hS.size
  have h1 : w5.heap[w.heap.size]? = some (.cells (numC a) 42 (0, 0)) := hS.old h1 (by omega)
  have h2 := xh2
  have hBw5 : Hid (Below w.heap.size w w5) := Lib.hid (hBw1.out.trans (hS.below (by omega) hBw1.out.size))
  clear hS
  go_wp2
  refine bodyPost_ret (results_cell_row rfl _ _ (w.heap.size + 1) 42 (numC R) (0, 0) _ rfl h2 underNum rfl (infoNum_of (numC R) (numC_size _))) rfl ⟨rfl, hBw5.out⟩
end
section
open Go.RowKit

set_option maxHeartbeats 1000000 in
theorem negative_true (a : Nat) (h : Hid (a % 2 = 1)) (w : World) :
    Calls Tryd.prog 61 #[.agg (numC a)] w fun e w' => e = .returned (.bool true) ∧ Below w.heap.size w w' := by
  go_enter Tryd.func61, Tryd.ntmps61
  go_wp2_with (first
    | ((with_reducible refine at_dst 3 ?_); refine wpList_load_row rfl 42 _ rfl (w.heap.size) rfl 42 (numC a) (0, 0) _ (heap_new_at _ _ _ rfl) underNum rfl (infoNum_of (numC a) (numC_size _)) ?_))
  refine (bit_true a 0 (by omega) (by rw [Nat.pow_zero, Nat.div_one]; exact h.out) _).mono ?_
  rintro e w1 ⟨rfl, hC1⟩
  have hs1 : w.heap.size + 1 ≤ w1.heap.size := by have := hC1.size; (try simp only [alloc_size, setRow_size] at this); omega
  have h1 : w1.heap[w.heap.size]? = some (.cells (numC a) 42 (0, 0)) := (heap_call hC1 (heap_new_at _ _ _ rfl))
  have hB1 : Hid (Below w.heap.size w w1) := Lib.hid (below_call (below_alloc (Below.refl _ w) _) hC1)
  clear hC1
  go_wp2
  go_ret
  exact ⟨rfl, hB1.out⟩

set_option maxHeartbeats 1000000 in
theorem negative_false (a : Nat) (h : Hid (¬ a % 2 = 1)) (w : World) :
    Calls Tryd.prog 61 #[.agg (numC a)] w fun e w' => e = .returned (.bool false) ∧ Below w.heap.size w w' := by
  go_enter Tryd.func61, Tryd.ntmps61
  go_wp2_with (first
    | ((with_reducible refine at_dst 3 ?_); refine wpList_load_row rfl 42 _ rfl (w.heap.size) rfl 42 (numC a) (0, 0) _ (heap_new_at _ _ _ rfl) underNum rfl (infoNum_of (numC a) (numC_size _)) ?_))
  refine (bit_false a 0 (by omega) (by rw [Nat.pow_zero, Nat.div_one]; exact h.out) _).mono ?_
  rintro e w1 ⟨rfl, hC1⟩
  have hs1 : w.heap.size + 1 ≤ w1.heap.size := by have := hC1.size; (try simp only [alloc_size, setRow_size] at this); omega
  have h1 : w1.heap[w.heap.size]? = some (.cells (numC a) 42 (0, 0)) := (heap_call hC1 (heap_new_at _ _ _ rfl))
  have hB1 : Hid (Below w.heap.size w w1) := Lib.hid (below_call (below_alloc (Below.refl _ w) _) hC1)
  clear hC1
  go_wp2
  go_ret
  exact ⟨rfl, hB1.out⟩
end
end Go.Proofs.YtemgflkecflhmaaDoor
