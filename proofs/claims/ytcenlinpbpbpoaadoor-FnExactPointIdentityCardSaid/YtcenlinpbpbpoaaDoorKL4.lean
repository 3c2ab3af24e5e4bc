/- Parts of texts for several laws: Multiply. The field's functions over values of the field. What the reference and the package compute of points, in numbers. Constants of the curve; elements of new blocks. Pow22523. Kit: 32 bytes copied, a byte of a block read and written in a drawn region. -/
import Derived.BigRegion
import Derived.ChangeKeysEq
import Derived.Deep.DeepCutAuto
import Derived.Deep.Draws
import Derived.Deep.Fields
import Derived.Deep.MidRow
import Derived.Deep.Quiet
import Derived.Deep.RegionHeld3
import Derived.Deep.WholeRow
import Derived.Great.BuildSlice
import Derived.LaidMore
import Derived.Laws.Bits64b
import Derived.Laws.CopyOwn
import Derived.Laws.CopyRow
import Derived.Laws.Externs
import Derived.Laws.StructEq
import Derived.Laws.Tables
import Derived.Lib.Hide
import Derived.LoopTactic
import Derived.OpenShut
import Derived.ProofKit
import Derived.StillTailTactics
import Derived.Stop.Joined
import Derived.Test.YtcenlinpbpbpoaaDoorProg
import Derived.WalkKit
import Derived.WalkLawsBesides
import Derived.WalkSpells
import Derived.WideKeyArgs
import Derived.Test.YtcenlinpbpbpoaaDoorKHF1
import Derived.Test.YtcenlinpbpbpoaaDoorKHF3
import Derived.Test.YtcenlinpbpbpoaaDoorKHGr
import Derived.Test.YtcenlinpbpbpoaaDoorKHU1
import Derived.Test.YtcenlinpbpbpoaaDoorKHUM
import Derived.Test.YtcenlinpbpbpoaaDoorKHUN
import Derived.Test.YtcenlinpbpbpoaaDoorKHUS
import Derived.Test.YtcenlinpbpbpoaaDoorKL0
import Derived.Test.YtcenlinpbpbpoaaDoorKL1
import Derived.Test.YtcenlinpbpbpoaaDoorKL2
import Derived.Test.YtcenlinpbpbpoaaDoorKL3
namespace Go.Proofs.YtcenlinpbpbpoaaDoor
set_option maxRecDepth 4000
set_option linter.unusedSimpArgs false
set_option linter.unusedVariables false
section
open Go.RowKit
theorem feMul_fn (vb vo ab ao bb bo a0 a1 a2 a3 a4 b0 b1 b2 b3 b4 : Nat) (vs : Nat → Value) (ba0 : a0 ≤ 2252074691592191) (ba1 : a1 ≤ 2252074691592191) (ba2 : a2 ≤ 2252074691592191) (ba3 : a3 ≤ 2252074691592191) (ba4 : a4 ≤ 2252074691592191) (bb0 : b0 ≤ 2252074691592191) (bb1 : b1 ≤ 2252074691592191) (bb2 : b2 ≤ 2252074691592191) (bb3 : b3 ≤ 2252074691592191) (bb4 : b4 ≤ 2252074691592191) (KK : L5) (hKK : Hid (KK = ⟨a0 * b0 + 19 * (a1 * b4) + 19 * (a2 * b3) + 19 * (a3 * b2) + 19 * (a4 * b1), a0 * b1 + a1 * b0 + 19 * (a2 * b4) + 19 * (a3 * b3) + 19 * (a4 * b2), a0 * b2 + a1 * b1 + a2 * b0 + 19 * (a3 * b4) + 19 * (a4 * b3), a0 * b3 + a1 * b2 + a2 * b1 + a3 * b0 + 19 * (a4 * b4), a0 * b4 + a1 * b3 + a2 * b2 + a3 * b1 + a4 * b0⟩)) (w : World)
    (hv : Row w vb vo 5 vs) (hA : El w ab ao ⟨a0, a1, a2, a3, a4⟩) (hB : El w bb bo ⟨b0, b1, b2, b3, b4⟩) :
    Calls Tryd.prog 75 #[.pointer (some ⟨vb, vo, none⟩), .pointer (some ⟨ab, ao, none⟩), .pointer (some ⟨bb, bo, none⟩)] w fun e w' => e = .returned (.tuple #[]) ∧ Wr w w' vb vo 5 (limbV (cpL (cpL KK))) := by
  have HV := Lib.hid hv; have HA := Lib.hid hA; have HB := Lib.hid hB; clear hv hA hB
  go_enter Tryd.func75, Tryd.ntmps75
  go_wp2_with fail
  refine (feMul_raw vb vo ab ao bb bo a0 a1 a2 a3 a4 b0 b1 b2 b3 b4 vs ba0 ba1 ba2 ba3 ba4 bb0 bb1 bb2 bb3 bb4 KK hKK _ HV.out (El.c0 HA.out) (El.c1 HA.out) (El.c2 HA.out) (El.c3 HA.out) (El.c4 HA.out) (El.c0 HB.out) (El.c1 HB.out) (El.c2 HB.out) (El.c3 HB.out) (El.c4 HB.out)).mono ?_
  rintro e w1 ⟨rfl, hw⟩
  go_wp2
  go_end0
  exact ⟨rfl, hw⟩
theorem col_bd (a b M N : Nat) (ha : a ≤ M) (hb : b ≤ N) : a * b ≤ M * N := Nat.mul_le_mul ha hb
theorem cp2_bd (V0 V1 V2 V3 V4 : Nat) (h0 : V0 ≤ 390531712071274790018052217897037) (h1 : V1 ≤ 390531712071274790018052217897037) (h2 : V2 ≤ 390531712071274790018052217897037) (h3 : V3 ≤ 390531712071274790018052217897037) (h4 : V4 ≤ 390531712071274790018052217897037) : Bd (cpL (cpL ⟨V0, V1, V2, V3, V4⟩)) := by
  refine cpL_bd _ ?_
  unfold W64 cpL
  simp only
  omega
theorem mul_bd (a0 a1 a2 a3 a4 b0 b1 b2 b3 b4 : Nat) (ha0 : a0 ≤ 2252074691592191) (ha1 : a1 ≤ 2252074691592191) (ha2 : a2 ≤ 2252074691592191) (ha3 : a3 ≤ 2252074691592191) (ha4 : a4 ≤ 2252074691592191) (hb0 : b0 ≤ 2252074691592191) (hb1 : b1 ≤ 2252074691592191) (hb2 : b2 ≤ 2252074691592191) (hb3 : b3 ≤ 2252074691592191) (hb4 : b4 ≤ 2252074691592191) : Bd (cpL (cpL ⟨a0 * b0 + 19 * (a1 * b4) + 19 * (a2 * b3) + 19 * (a3 * b2) + 19 * (a4 * b1), a0 * b1 + a1 * b0 + 19 * (a2 * b4) + 19 * (a3 * b3) + 19 * (a4 * b2), a0 * b2 + a1 * b1 + a2 * b0 + 19 * (a3 * b4) + 19 * (a4 * b3), a0 * b3 + a1 * b2 + a2 * b1 + a3 * b0 + 19 * (a4 * b4), a0 * b4 + a1 * b3 + a2 * b2 + a3 * b1 + a4 * b0⟩)) := by
  have p00 := col_bd _ _ _ _ ha0 hb0
  have p01 := col_bd _ _ _ _ ha0 hb1
  have p02 := col_bd _ _ _ _ ha0 hb2
  have p03 := col_bd _ _ _ _ ha0 hb3
  have p04 := col_bd _ _ _ _ ha0 hb4
  have p10 := col_bd _ _ _ _ ha1 hb0
  have p11 := col_bd _ _ _ _ ha1 hb1
  have p12 := col_bd _ _ _ _ ha1 hb2
  have p13 := col_bd _ _ _ _ ha1 hb3
  have p14 := col_bd _ _ _ _ ha1 hb4
  have p20 := col_bd _ _ _ _ ha2 hb0
  have p21 := col_bd _ _ _ _ ha2 hb1
  have p22 := col_bd _ _ _ _ ha2 hb2
  have p23 := col_bd _ _ _ _ ha2 hb3
  have p24 := col_bd _ _ _ _ ha2 hb4
  have p30 := col_bd _ _ _ _ ha3 hb0
  have p31 := col_bd _ _ _ _ ha3 hb1
  have p32 := col_bd _ _ _ _ ha3 hb2
  have p33 := col_bd _ _ _ _ ha3 hb3
  have p34 := col_bd _ _ _ _ ha3 hb4
  have p40 := col_bd _ _ _ _ ha4 hb0
  have p41 := col_bd _ _ _ _ ha4 hb1
  have p42 := col_bd _ _ _ _ ha4 hb2
  have p43 := col_bd _ _ _ _ ha4 hb3
  have p44 := col_bd _ _ _ _ ha4 hb4
  generalize a0 * b0 = q00 at *
  generalize a0 * b1 = q01 at *
  generalize a0 * b2 = q02 at *
  generalize a0 * b3 = q03 at *
  generalize a0 * b4 = q04 at *
  generalize a1 * b0 = q10 at *
  generalize a1 * b1 = q11 at *
  generalize a1 * b2 = q12 at *
  generalize a1 * b3 = q13 at *
  generalize a1 * b4 = q14 at *
  generalize a2 * b0 = q20 at *
  generalize a2 * b1 = q21 at *
  generalize a2 * b2 = q22 at *
  generalize a2 * b3 = q23 at *
  generalize a2 * b4 = q24 at *
  generalize a3 * b0 = q30 at *
  generalize a3 * b1 = q31 at *
  generalize a3 * b2 = q32 at *
  generalize a3 * b3 = q33 at *
  generalize a3 * b4 = q34 at *
  generalize a4 * b0 = q40 at *
  generalize a4 * b1 = q41 at *
  generalize a4 * b2 = q42 at *
  generalize a4 * b3 = q43 at *
  generalize a4 * b4 = q44 at *
  refine cp2_bd _ _ _ _ _ ?_ ?_ ?_ ?_ ?_ <;> omega
set_option maxHeartbeats 1000000 in
theorem mul_fe' (vb vo ab ao bb bo x y : Nat) (vs : Nat → Value) (w : World) (hL : Row w vb vo 5 vs) (ha : Fe w ab ao x) (hb : Fe w bb bo y) (R : Nat) (hR : Hid (R = x * y % pF)) :
    Calls Tryd.prog 42 #[.pointer (some ⟨vb, vo, none⟩), .pointer (some ⟨ab, ao, none⟩), .pointer (some ⟨bb, bo, none⟩)] w fun e w' => e = .returned (.pointer (some ⟨vb, vo, none⟩)) ∧ Sets w w' vb vo R := by
  obtain ⟨⟨a0, a1, a2, a3, a4⟩, hA, ⟨p0, p1, p2, p3, p4⟩, hx⟩ := ha
  obtain ⟨⟨b0, b1, b2, b3, b4⟩, hB, ⟨q0, q1, q2, q3, q4⟩, hy⟩ := hb
  simp only at p0 p1 p2 p3 p4 q0 q1 q2 q3 q4
  have hbd := Lib.hid (mul_bd a0 a1 a2 a3 a4 b0 b1 b2 b3 b4 (by omega) (by omega) (by omega) (by omega) (by omega) (by omega) (by omega) (by omega) (by omega) (by omega))
  have hval : Hid (val5 (cpL (cpL ⟨a0 * b0 + 19 * (a1 * b4) + 19 * (a2 * b3) + 19 * (a3 * b2) + 19 * (a4 * b1), a0 * b1 + a1 * b0 + 19 * (a2 * b4) + 19 * (a3 * b3) + 19 * (a4 * b2), a0 * b2 + a1 * b1 + a2 * b0 + 19 * (a3 * b4) + 19 * (a4 * b3), a0 * b3 + a1 * b2 + a2 * b1 + a3 * b0 + 19 * (a4 * b4), a0 * b4 + a1 * b3 + a2 * b2 + a3 * b1 + a4 * b0⟩)) % pF = R) := Lib.hid (by
    rw [cpL_mod, cpL_mod, mul_val, hR.out, ← hx, ← hy, ← Nat.mul_mod])
  have HL := Lib.hid hL; have HA := Lib.hid hA; have HB := Lib.hid hB; clear hL hA hB hx hy hR
  go_enter Tryd.func42, Tryd.ntmps42
  go_wp2_with fail
  refine (feMul_fn vb vo ab ao bb bo a0 a1 a2 a3 a4 b0 b1 b2 b3 b4 vs (by omega) (by omega) (by omega) (by omega) (by omega) (by omega) (by omega) (by omega) (by omega) (by omega) _ rfl _ HL.out HA.out HB.out).mono ?_
  rintro e w1 ⟨rfl, hw⟩
  go_wp2
  go_ret
  exact ⟨rfl, _, hbd.out, hval.out, hw⟩
theorem mul_fe (vb vo ab ao bb bo x y v0 : Nat) (w : World) (hv : Fe w vb vo v0) (ha : Fe w ab ao x) (hb : Fe w bb bo y) (R : Nat) (hR : Hid (R = x * y % pF)) :
    Calls Tryd.prog 42 #[.pointer (some ⟨vb, vo, none⟩), .pointer (some ⟨ab, ao, none⟩), .pointer (some ⟨bb, bo, none⟩)] w fun e w' => e = .returned (.pointer (some ⟨vb, vo, none⟩)) ∧ Sets w w' vb vo R := by
  obtain ⟨Lv, hL, _⟩ := hv
  exact mul_fe' vb vo ab ao bb bo x y _ w hL ha hb R hR
end

section
open Go.RowKit
theorem fadd_val (a b : Fp) : (a + b).val = (a.val + b.val) % pF := Fin.val_add a b
theorem fmul_val (a b : Fp) : (a * b).val = a.val * b.val % pF := Fin.val_mul a b
theorem fsub_val (a b : Fp) : (a - b).val = (a.val + (pF - b.val)) % pF := by
  rw [← fp_val, fp_sub _ _ (Nat.le_of_lt b.isLt), fp_of, fp_of]
theorem fneg_val (a : Fp) : (-a).val = (pF - a.val) % pF := by
  rw [← fp_val, fp_neg _ (Nat.le_of_lt a.isLt), fp_of]
theorem fpow_val (a : Fp) (n : Nat) : (a ^ n).val = a.val ^ n % pF := by
  rw [← fp_val, fp_pow, fp_of]
theorem finv_val (a : Fp) (E : Nat) (hE : E = pF - 2) : (fpInv a).val = xp a.val E := by
  unfold fpInv xp; rw [hE]; exact fpow_val a _
theorem add_ff (vb vo ab ao cb co : Nat) (a b : Fp) (v0 : Nat) (w : World) (hv : Fe w vb vo v0) (ha : Fe w ab ao a.val) (hb : Fe w cb co b.val) (dA : Apart vb vo ab ao) (dB : Apart vb vo cb co) (R : Fp) (hR : Hid (R = a + b)) :
    Calls Tryd.prog 60 #[.pointer (some ⟨vb, vo, none⟩), .pointer (some ⟨ab, ao, none⟩), .pointer (some ⟨cb, co, none⟩)] w fun e w' => e = .returned (.pointer (some ⟨vb, vo, none⟩)) ∧ Sets w w' vb vo R.val := by
  obtain ⟨L, hL, _⟩ := hv
  rw [hR.out, fadd_val]
  exact add_any vb vo ab ao cb co _ _ L w hL ha hb dA dB
theorem sub_ff (vb vo ab ao cb co : Nat) (a b : Fp) (v0 : Nat) (w : World) (hv : Fe w vb vo v0) (ha : Fe w ab ao a.val) (hb : Fe w cb co b.val) (dA : Apart vb vo ab ao) (dB : Apart vb vo cb co) (R : Fp) (hR : Hid (R = a - b)) :
    Calls Tryd.prog 57 #[.pointer (some ⟨vb, vo, none⟩), .pointer (some ⟨ab, ao, none⟩), .pointer (some ⟨cb, co, none⟩)] w fun e w' => e = .returned (.pointer (some ⟨vb, vo, none⟩)) ∧ Sets w w' vb vo R.val := by
  obtain ⟨L, hL, _⟩ := hv
  rw [hR.out, fsub_val]
  exact sub_any vb vo ab ao cb co _ _ L w hL ha hb dA dB
theorem mul_ff (vb vo ab ao cb co : Nat) (a b : Fp) (v0 : Nat) (w : World) (hv : Fe w vb vo v0) (ha : Fe w ab ao a.val) (hb : Fe w cb co b.val) (R : Fp) (hR : Hid (R = a * b)) :
    Calls Tryd.prog 42 #[.pointer (some ⟨vb, vo, none⟩), .pointer (some ⟨ab, ao, none⟩), .pointer (some ⟨cb, co, none⟩)] w fun e w' => e = .returned (.pointer (some ⟨vb, vo, none⟩)) ∧ Sets w w' vb vo R.val :=
  mul_fe vb vo ab ao cb co _ _ v0 w hv ha hb _ (Lib.hid (by rw [hR.out]; exact fmul_val a b))
theorem square_ff (vb vo ab ao : Nat) (a : Fp) (v0 : Nat) (w : World) (hv : Fe w vb vo v0) (ha : Fe w ab ao a.val) (R : Fp) (hR : Hid (R = a * a)) :
    Calls Tryd.prog 56 #[.pointer (some ⟨vb, vo, none⟩), .pointer (some ⟨ab, ao, none⟩)] w fun e w' => e = .returned (.pointer (some ⟨vb, vo, none⟩)) ∧ Sets w w' vb vo R.val :=
  square_fe vb vo ab ao _ v0 w hv ha _ (Lib.hid (by rw [hR.out]; exact fmul_val a a))
theorem neg_ff (vb vo ab ao : Nat) (a : Fp) (v0 B : Nat) (w : World) (hD : Var 1 z5 B w) (hvB : B ≤ vb) (hv : Fe w vb vo v0) (ha : Fe w ab ao a.val) (dA : Apart vb vo ab ao) (R : Fp) (hR : Hid (R = -a)) :
    Calls Tryd.prog 62 #[.pointer (some ⟨vb, vo, none⟩), .pointer (some ⟨ab, ao, none⟩)] w fun e w' => e = .returned (.pointer (some ⟨vb, vo, none⟩)) ∧ Sets w w' vb vo R.val :=
  neg_fe vb vo ab ao _ v0 B w hD hvB hv ha dA _ (Lib.hid (by rw [hR.out]; exact fneg_val a))
set_option maxHeartbeats 1000000 in
theorem set_fe (vb vo ab ao x v0 : Nat) (w : World) (hv : Fe w vb vo v0) (ha : Fe w ab ao x) :
    Calls Tryd.prog 64 #[.pointer (some ⟨vb, vo, none⟩), .pointer (some ⟨ab, ao, none⟩)] w fun e w' => e = .returned (.pointer (some ⟨vb, vo, none⟩)) ∧ Sets w w' vb vo x := by
  obtain ⟨Lv, hL, _⟩ := hv
  obtain ⟨L, hE, hb, hx⟩ := ha
  have h0 := hE.c0; have h1 := hE.c1; have h2 := hE.c2; have h3 := hE.c3; have h4 := hE.c4
  have f0 := hL.f0; have f1 := hL.f1; have f2 := hL.f2; have f3 := hL.f3; have f4 := hL.f4
  have k0 := hL.c0; have k1 := hL.c1; have k2 := hL.c2; have k3 := hL.c3; have k4 := hL.c4
  have HL := Lib.hid hL; have Hx := Lib.hid hx; have Hb := Lib.hid hb; clear hL hE hx hb
  go_enter Tryd.func64, Tryd.ntmps64
  go_wp2
  go_ret
  exact ⟨rfl, L, Hb.out, Hx.out, Wr.five ((((((Wr.start HL.out).set 0 _).set 1 _).set 2 _).set 3 _).set 4 _) rfl rfl rfl rfl rfl⟩
end

section
theorem fp_lt {n : Nat} (h : n < pF) : (fp n).val = n := by rw [fp_val, Nat.mod_eq_of_lt h]
theorem decP_some {N : Nat} {P : CP} (h : decP N = some P) : dcIs (valN N) = true ∧ dcX (valN N) (N / 57896044618658097711785492504343953926634992332820282019728792003956564819968) = P.x.val ∧ valN N = P.y.val := by
  unfold decP at h
  split at h
  · rename_i hi
    injection h with h
    subst h
    refine ⟨hi, ?_, ?_⟩
    · exact (fp_lt (dcX_lt _ _)).symm
    · exact (fp_lt (Nat.mod_lt _ pF_pos)).symm
  · cases h
theorem decP_none {N : Nat} (h : decP N = none) : dcIs (valN N) = false := by
  unfold decP at h
  split at h
  · cases h
  · rename_i hi
    simpa using hi
theorem zero_enc : encN CP.zero = 1 := by decide +kernel
theorem zero_dec : decP 1 = some CP.zero := by rw [← zero_enc]; exact dec_enc _
theorem top_bit (N : Nat) (h : N < 256 ^ 32) : 128 ≤ byteN N 31 ↔ N / 57896044618658097711785492504343953926634992332820282019728792003956564819968 = 1 := by unfold byteN; omega
end

section
open Go.RowKit
theorem one_ff (vb vo v0 B : Nat) (w : World) (hD : Var 2 o5 B w) (hvB : B ≤ vb) (hv : Fe w vb vo v0) :
    Calls Tryd.prog 65 #[.pointer (some ⟨vb, vo, none⟩)] w fun e w' => e = .returned (.pointer (some ⟨vb, vo, none⟩)) ∧ Sets w w' vb vo (1 : Fp).val := one_fe vb vo v0 B w hD hvB hv
theorem setBytes_ff (vb vo b off N cap v0 : Nat) (Y : Fp) (hY : Hid (Y.val = valN N)) (w0 : World) (hv : Fe w0 vb vo v0) (hx : Row w0 b off 32 (byV N)) (hcap : 32 ≤ cap) (hne : b ≠ vb) :
    Calls Tryd.prog 54 #[.pointer (some ⟨vb, vo, none⟩), .slice (some ⟨b, off, none⟩) 32 cap] w0 fun e w' => e = .returned (.tuple #[.pointer (some ⟨vb, vo, none⟩), .nilIface]) ∧ Sets w0 w' vb vo Y.val := by
  rw [hY.out]; exact setBytes_fe vb vo b off N cap v0 w0 hv hx hcap hne
theorem dN_val : valN dN = dN := by unfold valN; rw [Nat.mod_eq_of_lt (show dN < 57896044618658097711785492504343953926634992332820282019728792003956564819968 by unfold dN; omega)]; exact Nat.mod_eq_of_lt dN_lt
set_option maxHeartbeats 1000000 in
theorem feOne_new (B : Nat) (w : World) (hD2 : Var 2 o5 B w) :
    Calls Tryd.prog 58 #[] w fun e w' => ∃ b, e = .returned (.pointer (some ⟨b, 0, none⟩)) ∧ w.heap.size ≤ b ∧ Below w.heap.size w w' ∧ Fe w' b 0 (1 : Fp).val := by
  have hBl := hD2.1
  go_enter Tryd.func58, Tryd.ntmps58
  go_wp2_with fail
  refine (one_ff (w.heap.size) (0) _ B _ (hD2.later (below_alloc (Below.refl _ w) _)) (by omega) (Fe.newz_at _ _ rfl)).mono ?_
  rintro e w1 ⟨rfl, hC1⟩
  have hs1 : w.heap.size + 1 ≤ w1.heap.size := by have := hC1.size; (try simp only [alloc_size, setRow_size] at this); omega
  replace h1 : Fe w1 (w.heap.size) (0) ((1 : Fp).val) := (Sets.fe' hC1 (Fe.newz_at _ _ rfl))
  have hBw1 : Hid (Below w.heap.size w w1) := Lib.hid ((below_alloc (Below.refl _ w) _).trans (hC1.below (by omega) (below_alloc (Below.refl _ w) _).size))
  clear hC1
  go_wp2
  go_ret
  exact ⟨_, rfl, by omega, hBw1.out, h1⟩
set_option maxHeartbeats 1000000 in
theorem dOf_new  (w : World) :
    Calls Tryd.prog 59 #[] w fun e w' => ∃ b, e = .returned (.pointer (some ⟨b, 0, none⟩)) ∧ w.heap.size ≤ b ∧ Below w.heap.size w w' ∧ Fe w' b 0 (fp dN).val := by
  have HY : Hid ((fp dN).val = valN dN) := Lib.hid (by rw [fp_lt dN_lt, dN_val])
  go_enter Tryd.func59, Tryd.ntmps59
  go_wp2_with (first
    | ((with_reducible refine at_dst 5 ?_); refine wpList_buildBytes rfl (some 5) rfl _ rfl [163, 120, 89, 19, 202, 77, 235, 117, 171, 216, 65, 65, 77, 10, 112, 0, 152, 232, 121, 119, 121, 64, 199, 140, 115, 254, 111, 43, 238, 108, 3, 82] (dN) (w.heap.size + 1) (by kernel_rfl) (by (try simp only [alloc_size, setRow_size])) rfl (by kernel_rfl) ?_))
  refine (setBytes_ff (w.heap.size) (0) (w.heap.size + 1) (0) (dN) (32) _ (fp dN) HY _ (Fe.alloc (Fe.newz_at _ _ rfl) _) (Row.ofArr (heap_new_at _ _ _ (by simp only [alloc_size, setRow_size]))) (by omega) (by omega)).mono ?_
  rintro e w1 ⟨rfl, hC1⟩
  have hs1 : w.heap.size + 1 + 1 ≤ w1.heap.size := by have := hC1.size; (try simp only [alloc_size, setRow_size] at this); omega
  replace h5 : w1.heap[w.heap.size + 1]? = some (.cells (arrC (dN)) 5 (0, 0)) := ((Sets.block hC1 _ (heap_lt (heap_new_at _ _ _ (by simp only [alloc_size, setRow_size]))) (by omega)).trans (heap_new_at _ _ _ (by simp only [alloc_size, setRow_size])))
  replace h4 : Fe w1 (w.heap.size) (0) ((fp dN).val) := (Sets.fe' hC1 (Fe.alloc (Fe.newz_at _ _ rfl) _))
  have hBw1 : Hid (Below w.heap.size w w1) := Lib.hid ((below_alloc (below_alloc (Below.refl _ w) _) _).trans (hC1.below (by omega) (below_alloc (below_alloc (Below.refl _ w) _) _).size))
  clear hC1
  go_wp2
  go_ret
  exact ⟨_, rfl, by omega, hBw1.out, h4⟩
end

section
open Go.RowKit
set_option maxHeartbeats 4000000 in
theorem pow22523_fe (vb vo ab ao x v0 : Nat) (w : World) (hv : Fe w vb vo v0) (ha : Fe w ab ao x) :
    Calls Tryd.prog 87 #[.pointer (some ⟨vb, vo, none⟩), .pointer (some ⟨ab, ao, none⟩)] w fun e w' => e = .returned (.pointer (some ⟨vb, vo, none⟩)) ∧ Sets w w' vb vo (xp x 7237005577332262213973186563042994240829374041602535252466099000494570602493) := by
  have hvl := hv.lt; have hal := ha.lt
  have hxs := ha.small
  rw [← xp_one x hxs] at ha
  clear hxs
  go_enter Tryd.func87, Tryd.ntmps87
  go_wp2_with fail
  refine (square_fe (w.heap.size) 0 ab ao _ _ _ (Fe.alloc (Fe.alloc (Fe.newz_at _ _ rfl) _) _) (Fe.alloc (Fe.alloc (Fe.alloc ha _) _) _) (xp x 2) (Lib.hid (xp_to x 1 1 2 rfl))).mono ?_
  rintro e w1 ⟨rfl, hC1⟩
  have hs1 : w.heap.size + 1 + 1 + 1 ≤ w1.heap.size := by have := hC1.size; (try simp only [alloc_size, setRow_size] at this); omega
  replace hv : Fe w1 (vb) (vo) (v0) := (Sets.others hC1 (Fe.alloc (Fe.alloc (Fe.alloc hv _) _) _) (by omega))
  replace ha : Fe w1 (ab) (ao) ((xp x 1)) := (Sets.others hC1 (Fe.alloc (Fe.alloc (Fe.alloc ha _) _) _) (by omega))
  replace h6 : Fe w1 (w.heap.size + 1) (0) (0) := (Sets.others hC1 (Fe.alloc (Fe.newz_at _ _ (by (try simp only [alloc_size, setRow_size]))) _) (by omega))
  replace h7 : Fe w1 (w.heap.size + 1 + 1) (0) (0) := (Sets.others hC1 (Fe.newz_at _ _ (by (try simp only [alloc_size, setRow_size]))) (by omega))
  replace h5 : Fe w1 (w.heap.size) (0) ((xp x 2)) := (Sets.fe' hC1 (Fe.alloc (Fe.alloc (Fe.newz_at _ _ rfl) _) _))
  have hBw1 : Hid (Below w.heap.size w w1) := Lib.hid ((below_alloc (below_alloc (below_alloc (Below.refl _ w) _) _) _).trans (hC1.below (by omega) (below_alloc (below_alloc (below_alloc (Below.refl _ w) _) _) _).size))
  clear hC1
  go_wp2_with fail
  refine (mul_fe (w.heap.size + 1) 0 ab ao (w.heap.size) 0 _ _ _ _ h6 ha h5 (xp x 3) (Lib.hid (xp_to x 1 2 3 rfl))).mono ?_
  rintro e w2 ⟨rfl, hC2⟩
  have hs2 : w1.heap.size ≤ w2.heap.size := by have := hC2.size; (try simp only [alloc_size, setRow_size] at this); omega
  replace hv : Fe w2 (vb) (vo) (v0) := (Sets.others hC2 hv (by omega))
  replace ha : Fe w2 (ab) (ao) ((xp x 1)) := (Sets.others hC2 ha (by omega))
  replace h7 : Fe w2 (w.heap.size + 1 + 1) (0) (0) := (Sets.others hC2 h7 (by omega))
  replace h5 : Fe w2 (w.heap.size) (0) ((xp x 2)) := (Sets.others hC2 h5 (by omega))
  replace h6 : Fe w2 (w.heap.size + 1) (0) ((xp x 3)) := (Sets.fe' hC2 h6)
  have hBw2 : Hid (Below w.heap.size w w2) := Lib.hid (hBw1.out.trans (hC2.below (by omega) hBw1.out.size))
  clear hC2
  go_wp2_with fail
  refine (square_fe (w.heap.size) 0 (w.heap.size + 1) 0 _ _ _ h5 h6 (xp x 6) (Lib.hid (xp_to x 3 3 6 rfl))).mono ?_
  rintro e w3 ⟨rfl, hC3⟩
  have hs3 : w2.heap.size ≤ w3.heap.size := by have := hC3.size; (try simp only [alloc_size, setRow_size] at this); omega
  replace hv : Fe w3 (vb) (vo) (v0) := (Sets.others hC3 hv (by omega))
  replace ha : Fe w3 (ab) (ao) ((xp x 1)) := (Sets.others hC3 ha (by omega))
  replace h7 : Fe w3 (w.heap.size + 1 + 1) (0) (0) := (Sets.others hC3 h7 (by omega))
  replace h6 : Fe w3 (w.heap.size + 1) (0) ((xp x 3)) := (Sets.others hC3 h6 (by omega))
  replace h5 : Fe w3 (w.heap.size) (0) ((xp x 6)) := (Sets.fe' hC3 h5)
  have hBw3 : Hid (Below w.heap.size w w3) := Lib.hid (hBw2.out.trans (hC3.below (by omega) hBw2.out.size))
  clear hC3
  go_wp2_with fail
  refine (square_fe (w.heap.size) 0 (w.heap.size) 0 _ _ _ h5 h5 (xp x 12) (Lib.hid (xp_to x 6 6 12 rfl))).mono ?_
  rintro e w4 ⟨rfl, hC4⟩
  have hs4 : w3.heap.size ≤ w4.heap.size := by have := hC4.size; (try simp only [alloc_size, setRow_size] at this); omega
  replace hv : Fe w4 (vb) (vo) (v0) := (Sets.others hC4 hv (by omega))
  replace ha : Fe w4 (ab) (ao) ((xp x 1)) := (Sets.others hC4 ha (by omega))
  replace h7 : Fe w4 (w.heap.size + 1 + 1) (0) (0) := (Sets.others hC4 h7 (by omega))
  replace h6 : Fe w4 (w.heap.size + 1) (0) ((xp x 3)) := (Sets.others hC4 h6 (by omega))
  replace h5 : Fe w4 (w.heap.size) (0) ((xp x 12)) := (Sets.fe' hC4 h5)
  have hBw4 : Hid (Below w.heap.size w w4) := Lib.hid (hBw3.out.trans (hC4.below (by omega) hBw3.out.size))
  clear hC4
  go_wp2_with fail
  refine (mul_fe (w.heap.size) 0 (w.heap.size + 1) 0 (w.heap.size) 0 _ _ _ _ h5 h6 h5 (xp x 15) (Lib.hid (xp_to x 3 12 15 rfl))).mono ?_
  rintro e w5 ⟨rfl, hC5⟩
  have hs5 : w4.heap.size ≤ w5.heap.size := by have := hC5.size; (try simp only [alloc_size, setRow_size] at this); omega
  replace hv : Fe w5 (vb) (vo) (v0) := (Sets.others hC5 hv (by omega))
  replace ha : Fe w5 (ab) (ao) ((xp x 1)) := (Sets.others hC5 ha (by omega))
  replace h7 : Fe w5 (w.heap.size + 1 + 1) (0) (0) := (Sets.others hC5 h7 (by omega))
  replace h6 : Fe w5 (w.heap.size + 1) (0) ((xp x 3)) := (Sets.others hC5 h6 (by omega))
  replace h5 : Fe w5 (w.heap.size) (0) ((xp x 15)) := (Sets.fe' hC5 h5)
  have hBw5 : Hid (Below w.heap.size w w5) := Lib.hid (hBw4.out.trans (hC5.below (by omega) hBw4.out.size))
  clear hC5
  go_wp2_with fail
  refine (square_fe (w.heap.size) 0 (w.heap.size) 0 _ _ _ h5 h5 (xp x 30) (Lib.hid (xp_to x 15 15 30 rfl))).mono ?_
  rintro e w6 ⟨rfl, hC6⟩
  have hs6 : w5.heap.size ≤ w6.heap.size := by have := hC6.size; (try simp only [alloc_size, setRow_size] at this); omega
  replace hv : Fe w6 (vb) (vo) (v0) := (Sets.others hC6 hv (by omega))
  replace ha : Fe w6 (ab) (ao) ((xp x 1)) := (Sets.others hC6 ha (by omega))
  replace h7 : Fe w6 (w.heap.size + 1 + 1) (0) (0) := (Sets.others hC6 h7 (by omega))
  replace h6 : Fe w6 (w.heap.size + 1) (0) ((xp x 3)) := (Sets.others hC6 h6 (by omega))
  replace h5 : Fe w6 (w.heap.size) (0) ((xp x 30)) := (Sets.fe' hC6 h5)
  have hBw6 : Hid (Below w.heap.size w w6) := Lib.hid (hBw5.out.trans (hC6.below (by omega) hBw5.out.size))
  clear hC6
  go_wp2_with fail
  refine (mul_fe (w.heap.size) 0 ab ao (w.heap.size) 0 _ _ _ _ h5 ha h5 (xp x 31) (Lib.hid (xp_to x 1 30 31 rfl))).mono ?_
  rintro e w7 ⟨rfl, hC7⟩
  have hs7 : w6.heap.size ≤ w7.heap.size := by have := hC7.size; (try simp only [alloc_size, setRow_size] at this); omega
  replace hv : Fe w7 (vb) (vo) (v0) := (Sets.others hC7 hv (by omega))
  replace ha : Fe w7 (ab) (ao) ((xp x 1)) := (Sets.others hC7 ha (by omega))
  replace h7 : Fe w7 (w.heap.size + 1 + 1) (0) (0) := (Sets.others hC7 h7 (by omega))
  replace h6 : Fe w7 (w.heap.size + 1) (0) ((xp x 3)) := (Sets.others hC7 h6 (by omega))
  replace h5 : Fe w7 (w.heap.size) (0) ((xp x 31)) := (Sets.fe' hC7 h5)
  have hBw7 : Hid (Below w.heap.size w w7) := Lib.hid (hBw6.out.trans (hC7.below (by omega) hBw6.out.size))
  clear hC7
  go_wp2_with fail
  refine (squareN_fe (w.heap.size + 1) 0 (w.heap.size) 0 _ _ 5 (by omega) _ h6 h5 (xp x 992) (Lib.hid (xp_of x 31 (2 ^ 5) 992 rfl))).mono ?_
  rintro e w8 ⟨rfl, hC8⟩
  have hs8 : w7.heap.size ≤ w8.heap.size := by have := hC8.size; (try simp only [alloc_size, setRow_size] at this); omega
  replace hv : Fe w8 (vb) (vo) (v0) := (Sets.others hC8 hv (by omega))
  replace ha : Fe w8 (ab) (ao) ((xp x 1)) := (Sets.others hC8 ha (by omega))
  replace h7 : Fe w8 (w.heap.size + 1 + 1) (0) (0) := (Sets.others hC8 h7 (by omega))
  replace h5 : Fe w8 (w.heap.size) (0) ((xp x 31)) := (Sets.others hC8 h5 (by omega))
  replace h6 : Fe w8 (w.heap.size + 1) (0) ((xp x 992)) := (Sets.fe' hC8 h6)
  have hBw8 : Hid (Below w.heap.size w w8) := Lib.hid (hBw7.out.trans (hC8.below (by omega) hBw7.out.size))
  clear hC8
  go_wp2_with fail
  refine (mul_fe (w.heap.size + 1) 0 (w.heap.size + 1) 0 (w.heap.size) 0 _ _ _ _ h6 h6 h5 (xp x 1023) (Lib.hid (xp_to x 992 31 1023 rfl))).mono ?_
  rintro e w9 ⟨rfl, hC9⟩
  have hs9 : w8.heap.size ≤ w9.heap.size := by have := hC9.size; (try simp only [alloc_size, setRow_size] at this); omega
  replace hv : Fe w9 (vb) (vo) (v0) := (Sets.others hC9 hv (by omega))
  replace ha : Fe w9 (ab) (ao) ((xp x 1)) := (Sets.others hC9 ha (by omega))
  replace h7 : Fe w9 (w.heap.size + 1 + 1) (0) (0) := (Sets.others hC9 h7 (by omega))
  replace h5 : Fe w9 (w.heap.size) (0) ((xp x 31)) := (Sets.others hC9 h5 (by omega))
  replace h6 : Fe w9 (w.heap.size + 1) (0) ((xp x 1023)) := (Sets.fe' hC9 h6)
  have hBw9 : Hid (Below w.heap.size w w9) := Lib.hid (hBw8.out.trans (hC9.below (by omega) hBw8.out.size))
  clear hC9
  go_wp2_with fail
  refine (squareN_fe (w.heap.size + 1 + 1) 0 (w.heap.size + 1) 0 _ _ 5 (by omega) _ h7 h6 (xp x 32736) (Lib.hid (xp_of x 1023 (2 ^ 5) 32736 rfl))).mono ?_
  rintro e w10 ⟨rfl, hC10⟩
  have hs10 : w9.heap.size ≤ w10.heap.size := by have := hC10.size; (try simp only [alloc_size, setRow_size] at this); omega
  replace hv : Fe w10 (vb) (vo) (v0) := (Sets.others hC10 hv (by omega))
  replace ha : Fe w10 (ab) (ao) ((xp x 1)) := (Sets.others hC10 ha (by omega))
  replace h5 : Fe w10 (w.heap.size) (0) ((xp x 31)) := (Sets.others hC10 h5 (by omega))
  replace h6 : Fe w10 (w.heap.size + 1) (0) ((xp x 1023)) := (Sets.others hC10 h6 (by omega))
  replace h7 : Fe w10 (w.heap.size + 1 + 1) (0) ((xp x 32736)) := (Sets.fe' hC10 h7)
  have hBw10 : Hid (Below w.heap.size w w10) := Lib.hid (hBw9.out.trans (hC10.below (by omega) hBw9.out.size))
  clear hC10
  go_wp2_with fail
  refine (mul_fe (w.heap.size) 0 (w.heap.size + 1 + 1) 0 (w.heap.size) 0 _ _ _ _ h5 h7 h5 (xp x 32767) (Lib.hid (xp_to x 32736 31 32767 rfl))).mono ?_
  rintro e w11 ⟨rfl, hC11⟩
  have hs11 : w10.heap.size ≤ w11.heap.size := by have := hC11.size; (try simp only [alloc_size, setRow_size] at this); omega
  replace hv : Fe w11 (vb) (vo) (v0) := (Sets.others hC11 hv (by omega))
  replace ha : Fe w11 (ab) (ao) ((xp x 1)) := (Sets.others hC11 ha (by omega))
  replace h6 : Fe w11 (w.heap.size + 1) (0) ((xp x 1023)) := (Sets.others hC11 h6 (by omega))
  replace h7 : Fe w11 (w.heap.size + 1 + 1) (0) ((xp x 32736)) := (Sets.others hC11 h7 (by omega))
  replace h5 : Fe w11 (w.heap.size) (0) ((xp x 32767)) := (Sets.fe' hC11 h5)
  have hBw11 : Hid (Below w.heap.size w w11) := Lib.hid (hBw10.out.trans (hC11.below (by omega) hBw10.out.size))
  clear hC11
  go_wp2_with fail
  refine (squareN_fe (w.heap.size + 1 + 1) 0 (w.heap.size) 0 _ _ 15 (by omega) _ h7 h5 (xp x 1073709056) (Lib.hid (xp_of x 32767 (2 ^ 15) 1073709056 rfl))).mono ?_
  rintro e w12 ⟨rfl, hC12⟩
  have hs12 : w11.heap.size ≤ w12.heap.size := by have := hC12.size; (try simp only [alloc_size, setRow_size] at this); omega
  replace hv : Fe w12 (vb) (vo) (v0) := (Sets.others hC12 hv (by omega))
  replace ha : Fe w12 (ab) (ao) ((xp x 1)) := (Sets.others hC12 ha (by omega))
  replace h6 : Fe w12 (w.heap.size + 1) (0) ((xp x 1023)) := (Sets.others hC12 h6 (by omega))
  replace h5 : Fe w12 (w.heap.size) (0) ((xp x 32767)) := (Sets.others hC12 h5 (by omega))
  replace h7 : Fe w12 (w.heap.size + 1 + 1) (0) ((xp x 1073709056)) := (Sets.fe' hC12 h7)
  have hBw12 : Hid (Below w.heap.size w w12) := Lib.hid (hBw11.out.trans (hC12.below (by omega) hBw11.out.size))
  clear hC12
  go_wp2_with fail
  refine (mul_fe (w.heap.size + 1 + 1) 0 (w.heap.size + 1 + 1) 0 (w.heap.size) 0 _ _ _ _ h7 h7 h5 (xp x 1073741823) (Lib.hid (xp_to x 1073709056 32767 1073741823 rfl))).mono ?_
  rintro e w13 ⟨rfl, hC13⟩
  have hs13 : w12.heap.size ≤ w13.heap.size := by have := hC13.size; (try simp only [alloc_size, setRow_size] at this); omega
  replace hv : Fe w13 (vb) (vo) (v0) := (Sets.others hC13 hv (by omega))
  replace ha : Fe w13 (ab) (ao) ((xp x 1)) := (Sets.others hC13 ha (by omega))
  replace h6 : Fe w13 (w.heap.size + 1) (0) ((xp x 1023)) := (Sets.others hC13 h6 (by omega))
  replace h5 : Fe w13 (w.heap.size) (0) ((xp x 32767)) := (Sets.others hC13 h5 (by omega))
  replace h7 : Fe w13 (w.heap.size + 1 + 1) (0) ((xp x 1073741823)) := (Sets.fe' hC13 h7)
  have hBw13 : Hid (Below w.heap.size w w13) := Lib.hid (hBw12.out.trans (hC13.below (by omega) hBw12.out.size))
  clear hC13
  go_wp2_with fail
  refine (squareN_fe (w.heap.size) 0 (w.heap.size + 1 + 1) 0 _ _ 30 (by omega) _ h5 h7 (xp x 1152921503533105152) (Lib.hid (xp_of x 1073741823 (2 ^ 30) 1152921503533105152 rfl))).mono ?_
  rintro e w14 ⟨rfl, hC14⟩
  have hs14 : w13.heap.size ≤ w14.heap.size := by have := hC14.size; (try simp only [alloc_size, setRow_size] at this); omega
  replace hv : Fe w14 (vb) (vo) (v0) := (Sets.others hC14 hv (by omega))
  replace ha : Fe w14 (ab) (ao) ((xp x 1)) := (Sets.others hC14 ha (by omega))
  replace h6 : Fe w14 (w.heap.size + 1) (0) ((xp x 1023)) := (Sets.others hC14 h6 (by omega))
  replace h7 : Fe w14 (w.heap.size + 1 + 1) (0) ((xp x 1073741823)) := (Sets.others hC14 h7 (by omega))
  replace h5 : Fe w14 (w.heap.size) (0) ((xp x 1152921503533105152)) := (Sets.fe' hC14 h5)
  have hBw14 : Hid (Below w.heap.size w w14) := Lib.hid (hBw13.out.trans (hC14.below (by omega) hBw13.out.size))
  clear hC14
  go_wp2_with fail
  refine (mul_fe (w.heap.size) 0 (w.heap.size) 0 (w.heap.size + 1 + 1) 0 _ _ _ _ h5 h5 h7 (xp x 1152921504606846975) (Lib.hid (xp_to x 1152921503533105152 1073741823 1152921504606846975 rfl))).mono ?_
  rintro e w15 ⟨rfl, hC15⟩
  have hs15 : w14.heap.size ≤ w15.heap.size := by have := hC15.size; (try simp only [alloc_size, setRow_size] at this); omega
  replace hv : Fe w15 (vb) (vo) (v0) := (Sets.others hC15 hv (by omega))
  replace ha : Fe w15 (ab) (ao) ((xp x 1)) := (Sets.others hC15 ha (by omega))
  replace h6 : Fe w15 (w.heap.size + 1) (0) ((xp x 1023)) := (Sets.others hC15 h6 (by omega))
  replace h7 : Fe w15 (w.heap.size + 1 + 1) (0) ((xp x 1073741823)) := (Sets.others hC15 h7 (by omega))
  replace h5 : Fe w15 (w.heap.size) (0) ((xp x 1152921504606846975)) := (Sets.fe' hC15 h5)
  have hBw15 : Hid (Below w.heap.size w w15) := Lib.hid (hBw14.out.trans (hC15.below (by omega) hBw14.out.size))
  clear hC15
  go_wp2_with fail
  refine (squareN_fe (w.heap.size + 1 + 1) 0 (w.heap.size) 0 _ _ 60 (by omega) _ h7 h5 (xp x 1329227995784915871750885555673497600) (Lib.hid (xp_of x 1152921504606846975 (2 ^ 60) 1329227995784915871750885555673497600 rfl))).mono ?_
  rintro e w16 ⟨rfl, hC16⟩
  have hs16 : w15.heap.size ≤ w16.heap.size := by have := hC16.size; (try simp only [alloc_size, setRow_size] at this); omega
  replace hv : Fe w16 (vb) (vo) (v0) := (Sets.others hC16 hv (by omega))
  replace ha : Fe w16 (ab) (ao) ((xp x 1)) := (Sets.others hC16 ha (by omega))
  replace h6 : Fe w16 (w.heap.size + 1) (0) ((xp x 1023)) := (Sets.others hC16 h6 (by omega))
  replace h5 : Fe w16 (w.heap.size) (0) ((xp x 1152921504606846975)) := (Sets.others hC16 h5 (by omega))
  replace h7 : Fe w16 (w.heap.size + 1 + 1) (0) ((xp x 1329227995784915871750885555673497600)) := (Sets.fe' hC16 h7)
  have hBw16 : Hid (Below w.heap.size w w16) := Lib.hid (hBw15.out.trans (hC16.below (by omega) hBw15.out.size))
  clear hC16
  go_wp2_with fail
  refine (mul_fe (w.heap.size + 1 + 1) 0 (w.heap.size + 1 + 1) 0 (w.heap.size) 0 _ _ _ _ h7 h7 h5 (xp x 1329227995784915872903807060280344575) (Lib.hid (xp_to x 1329227995784915871750885555673497600 1152921504606846975 1329227995784915872903807060280344575 rfl))).mono ?_
  rintro e w17 ⟨rfl, hC17⟩
  have hs17 : w16.heap.size ≤ w17.heap.size := by have := hC17.size; (try simp only [alloc_size, setRow_size] at this); omega
  replace hv : Fe w17 (vb) (vo) (v0) := (Sets.others hC17 hv (by omega))
  replace ha : Fe w17 (ab) (ao) ((xp x 1)) := (Sets.others hC17 ha (by omega))
  replace h6 : Fe w17 (w.heap.size + 1) (0) ((xp x 1023)) := (Sets.others hC17 h6 (by omega))
  replace h5 : Fe w17 (w.heap.size) (0) ((xp x 1152921504606846975)) := (Sets.others hC17 h5 (by omega))
  replace h7 : Fe w17 (w.heap.size + 1 + 1) (0) ((xp x 1329227995784915872903807060280344575)) := (Sets.fe' hC17 h7)
  have hBw17 : Hid (Below w.heap.size w w17) := Lib.hid (hBw16.out.trans (hC17.below (by omega) hBw16.out.size))
  clear hC17
  go_wp2_with fail
  refine (squareN_fe (w.heap.size) 0 (w.heap.size + 1 + 1) 0 _ _ 120 (by omega) _ h5 h7 (xp x 1766847064778384329583297500742918514498255901090703085217799141012275200) (Lib.hid (xp_of x 1329227995784915872903807060280344575 (2 ^ 120) 1766847064778384329583297500742918514498255901090703085217799141012275200 rfl))).mono ?_
  rintro e w18 ⟨rfl, hC18⟩
  have hs18 : w17.heap.size ≤ w18.heap.size := by have := hC18.size; (try simp only [alloc_size, setRow_size] at this); omega
  replace hv : Fe w18 (vb) (vo) (v0) := (Sets.others hC18 hv (by omega))
  replace ha : Fe w18 (ab) (ao) ((xp x 1)) := (Sets.others hC18 ha (by omega))
  replace h6 : Fe w18 (w.heap.size + 1) (0) ((xp x 1023)) := (Sets.others hC18 h6 (by omega))
  replace h7 : Fe w18 (w.heap.size + 1 + 1) (0) ((xp x 1329227995784915872903807060280344575)) := (Sets.others hC18 h7 (by omega))
  replace h5 : Fe w18 (w.heap.size) (0) ((xp x 1766847064778384329583297500742918514498255901090703085217799141012275200)) := (Sets.fe' hC18 h5)
  have hBw18 : Hid (Below w.heap.size w w18) := Lib.hid (hBw17.out.trans (hC18.below (by omega) hBw17.out.size))
  clear hC18
  go_wp2_with fail
  refine (mul_fe (w.heap.size) 0 (w.heap.size) 0 (w.heap.size + 1 + 1) 0 _ _ _ _ h5 h5 h7 (xp x 1766847064778384329583297500742918515827483896875618958121606201292619775) (Lib.hid (xp_to x 1766847064778384329583297500742918514498255901090703085217799141012275200 1329227995784915872903807060280344575 1766847064778384329583297500742918515827483896875618958121606201292619775 rfl))).mono ?_
  rintro e w19 ⟨rfl, hC19⟩
  have hs19 : w18.heap.size ≤ w19.heap.size := by have := hC19.size; (try simp only [alloc_size, setRow_size] at this); omega
  replace hv : Fe w19 (vb) (vo) (v0) := (Sets.others hC19 hv (by omega))
  replace ha : Fe w19 (ab) (ao) ((xp x 1)) := (Sets.others hC19 ha (by omega))
  replace h6 : Fe w19 (w.heap.size + 1) (0) ((xp x 1023)) := (Sets.others hC19 h6 (by omega))
  replace h7 : Fe w19 (w.heap.size + 1 + 1) (0) ((xp x 1329227995784915872903807060280344575)) := (Sets.others hC19 h7 (by omega))
  replace h5 : Fe w19 (w.heap.size) (0) ((xp x 1766847064778384329583297500742918515827483896875618958121606201292619775)) := (Sets.fe' hC19 h5)
  have hBw19 : Hid (Below w.heap.size w w19) := Lib.hid (hBw18.out.trans (hC19.below (by omega) hBw18.out.size))
  clear hC19
  go_wp2_with fail
  refine (squareN_fe (w.heap.size) 0 (w.heap.size) 0 _ _ 10 (by omega) _ h5 h5 (xp x 1809251394333065553493296640760748560207343510400633813116524750123642649600) (Lib.hid (xp_of x 1766847064778384329583297500742918515827483896875618958121606201292619775 (2 ^ 10) 1809251394333065553493296640760748560207343510400633813116524750123642649600 rfl))).mono ?_
  rintro e w20 ⟨rfl, hC20⟩
  have hs20 : w19.heap.size ≤ w20.heap.size := by have := hC20.size; (try simp only [alloc_size, setRow_size] at this); omega
  replace hv : Fe w20 (vb) (vo) (v0) := (Sets.others hC20 hv (by omega))
  replace ha : Fe w20 (ab) (ao) ((xp x 1)) := (Sets.others hC20 ha (by omega))
  replace h6 : Fe w20 (w.heap.size + 1) (0) ((xp x 1023)) := (Sets.others hC20 h6 (by omega))
  replace h7 : Fe w20 (w.heap.size + 1 + 1) (0) ((xp x 1329227995784915872903807060280344575)) := (Sets.others hC20 h7 (by omega))
  replace h5 : Fe w20 (w.heap.size) (0) ((xp x 1809251394333065553493296640760748560207343510400633813116524750123642649600)) := (Sets.fe' hC20 h5)
  have hBw20 : Hid (Below w.heap.size w w20) := Lib.hid (hBw19.out.trans (hC20.below (by omega) hBw19.out.size))
  clear hC20
  go_wp2_with fail
  refine (mul_fe (w.heap.size) 0 (w.heap.size) 0 (w.heap.size + 1) 0 _ _ _ _ h5 h5 h6 (xp x 1809251394333065553493296640760748560207343510400633813116524750123642650623) (Lib.hid (xp_to x 1809251394333065553493296640760748560207343510400633813116524750123642649600 1023 1809251394333065553493296640760748560207343510400633813116524750123642650623 rfl))).mono ?_
  rintro e w21 ⟨rfl, hC21⟩
  have hs21 : w20.heap.size ≤ w21.heap.size := by have := hC21.size; (try simp only [alloc_size, setRow_size] at this); omega
  replace hv : Fe w21 (vb) (vo) (v0) := (Sets.others hC21 hv (by omega))
  replace ha : Fe w21 (ab) (ao) ((xp x 1)) := (Sets.others hC21 ha (by omega))
  replace h6 : Fe w21 (w.heap.size + 1) (0) ((xp x 1023)) := (Sets.others hC21 h6 (by omega))
  replace h7 : Fe w21 (w.heap.size + 1 + 1) (0) ((xp x 1329227995784915872903807060280344575)) := (Sets.others hC21 h7 (by omega))
  replace h5 : Fe w21 (w.heap.size) (0) ((xp x 1809251394333065553493296640760748560207343510400633813116524750123642650623)) := (Sets.fe' hC21 h5)
  have hBw21 : Hid (Below w.heap.size w w21) := Lib.hid (hBw20.out.trans (hC21.below (by omega) hBw20.out.size))
  clear hC21
  go_wp2_with fail
  refine (squareN_fe (w.heap.size) 0 (w.heap.size) 0 _ _ 2 (by omega) _ h5 h5 (xp x 7237005577332262213973186563042994240829374041602535252466099000494570602492) (Lib.hid (xp_of x 1809251394333065553493296640760748560207343510400633813116524750123642650623 (2 ^ 2) 7237005577332262213973186563042994240829374041602535252466099000494570602492 rfl))).mono ?_
  rintro e w22 ⟨rfl, hC22⟩
  have hs22 : w21.heap.size ≤ w22.heap.size := by have := hC22.size; (try simp only [alloc_size, setRow_size] at this); omega
  replace hv : Fe w22 (vb) (vo) (v0) := (Sets.others hC22 hv (by omega))
  replace ha : Fe w22 (ab) (ao) ((xp x 1)) := (Sets.others hC22 ha (by omega))
  replace h6 : Fe w22 (w.heap.size + 1) (0) ((xp x 1023)) := (Sets.others hC22 h6 (by omega))
  replace h7 : Fe w22 (w.heap.size + 1 + 1) (0) ((xp x 1329227995784915872903807060280344575)) := (Sets.others hC22 h7 (by omega))
  replace h5 : Fe w22 (w.heap.size) (0) ((xp x 7237005577332262213973186563042994240829374041602535252466099000494570602492)) := (Sets.fe' hC22 h5)
  have hBw22 : Hid (Below w.heap.size w w22) := Lib.hid (hBw21.out.trans (hC22.below (by omega) hBw21.out.size))
  clear hC22
  go_wp2_with fail
  refine (mul_fe vb vo (w.heap.size) 0 ab ao _ _ _ _ hv h5 ha (xp x 7237005577332262213973186563042994240829374041602535252466099000494570602493) (Lib.hid (xp_to x 7237005577332262213973186563042994240829374041602535252466099000494570602492 1 7237005577332262213973186563042994240829374041602535252466099000494570602493 rfl))).mono ?_
  rintro e wf ⟨rfl, hC⟩
  go_wp2
  go_ret
  exact ⟨rfl, Sets.ahead hBw22.out hC hvl⟩
end

section
open Go.RowKit
theorem Keep.cell {R : Nat} {w w1 : World} (h : Keep R w w1) (i : Nat) (v : Value) : Keep R w (w1.setCell ⟨R, i, none⟩ v) :=
  ⟨h.os, h.tape, h.output, by simp [World.setCell]; exact h.size, fun k hk hne => (Below.heap_setCell _ _ _ _ hne).trans (h.block k hk hne)⟩
end

end Go.Proofs.YtcenlinpbpbpoaaDoor
