/- Parts of texts for several laws: SqrtRatio. -/
import Derived.BigRegion
import Derived.ChangeKeysEq
import Derived.Deep.DeepCutAuto
import Derived.Deep.Draws
import Derived.Deep.Fields
import Derived.Deep.Quiet
import Derived.Deep.RegionHeld3
import Derived.Deep.WholeRow
import Derived.LaidMore
import Derived.Laws.Bits64b
import Derived.Laws.CopyOwn
import Derived.Laws.Externs
import Derived.Laws.Tables
import Derived.Lib.Hide
import Derived.LoopTactic
import Derived.OpenShut
import Derived.ProofKit
import Derived.StillTailTactics
import Derived.Stop.Joined
import Derived.Test.YtcenlinpbpbpoaaDoorProg
import Derived.WalkKit
import Derived.WalkLawsBesides
import Derived.WalkSpells
import Derived.WideKeyArgs
import Derived.Test.YtcenlinpbpbpoaaDoorKHF1
import Derived.Test.YtcenlinpbpbpoaaDoorKHF3
import Derived.Test.YtcenlinpbpbpoaaDoorKHU1
import Derived.Test.YtcenlinpbpbpoaaDoorKHUM
import Derived.Test.YtcenlinpbpbpoaaDoorKHUN
import Derived.Test.YtcenlinpbpbpoaaDoorKHUS
import Derived.Test.YtcenlinpbpbpoaaDoorKHUSe
import Derived.Test.YtcenlinpbpbpoaaDoorKL0
import Derived.Test.YtcenlinpbpbpoaaDoorKL1
import Derived.Test.YtcenlinpbpbpoaaDoorKL2
import Derived.Test.YtcenlinpbpbpoaaDoorKL3
import Derived.Test.YtcenlinpbpbpoaaDoorKL4
namespace Go.Proofs.YtcenlinpbpbpoaaDoor
set_option maxRecDepth 4000
set_option linter.unusedSimpArgs false
set_option linter.unusedVariables false
section
open Go.RowKit
def i5 : L5 := ⟨1718705420411056, 234908883556509, 2233514472574048, 2117202627021982, 765476049583133⟩
theorem i5_bd : Bd i5 := by unfold Bd i5; simp only; omega
theorem i5_val : val5 i5 % pF = iN := by decide +kernel
theorem pow22523_to (vb vo ab ao x v0 : Nat) (w : World) (hv : Fe w vb vo v0) (ha : Fe w ab ao x) (R : Nat) (hR : Hid (R = x ^ eQ % pF)) :
    Calls Tryd.prog 87 #[.pointer (some ⟨vb, vo, none⟩), .pointer (some ⟨ab, ao, none⟩)] w fun e w' => e = .returned (.pointer (some ⟨vb, vo, none⟩)) ∧ Sets w w' vb vo R := by
  have h : xp x 7237005577332262213973186563042994240829374041602535252466099000494570602493 = x ^ eQ % pF := by
    unfold xp
    rw [show (7237005577332262213973186563042994240829374041602535252466099000494570602493 : Nat) = eQ from rfl]
  rw [hR.out, ← h]; exact pow22523_fe vb vo ab ao x v0 w hv ha
theorem zor (P Q : Prop) [Decidable P] [Decidable Q] : bits .or .i64 (if P then 1 else 0) (if Q then 1 else 0) = if (decide P || decide Q) = true then 1 else 0 := by
  by_cases hp : P <;> by_cases hq : Q <;> simp only [hp, hq, if_true, if_false, decide_true, decide_false, Bool.or_true, Bool.or_false, ↓reduceIte, Bool.false_eq_true] <;> rfl
theorem zor1 (u v : Nat) (c n : Nat) (Z1 : Int) {Z2 ZW : Int} (hc : c = sqC u v) (hn : n = (pF - u) % pF) (h1 : Z1 = if c = u then 1 else 0) (h2 : Z2 = if c = n then 1 else 0) (hW : ZW = if sqW u v then 1 else 0) : bits .or .i64 Z1 Z2 = ZW := by
  subst hc hn h1 h2 hW
  exact zor _ _
theorem zor2 (u v : Nat) (c n : Nat) (Z2 : Int) {Z3 C : Int} (hc : c = sqC u v) (hn : n = (pF - u) % pF) (h2 : Z2 = if c = n then 1 else 0) (h3 : Z3 = if c = n * iN % pF then 1 else 0) (hC : C = if sqB u v then 1 else 0) : bits .or .i64 Z2 Z3 = C := by
  subst hc hn h2 h3 hC
  exact zor _ _
set_option maxHeartbeats 4000000 in
theorem sqrt_raw0 (rb ro ub uo vb vo u v r0 B Rf : Nat) (ZW : Int) (hRf : Hid (Rf = sqR u v)) (hZW : Hid (ZW = if sqW u v then 1 else 0)) (hSB : Hid (sqB u v = false)) (w : World) (hD0 : Var 1 z5 B w) (hD1 : Var 0 i5 B w) (hr : Fe w rb ro r0) (hu : Fe w ub uo u) (hv : Fe w vb vo v) :
    Calls Tryd.prog 61 #[.pointer (some ⟨rb, ro, none⟩), .pointer (some ⟨ub, uo, none⟩), .pointer (some ⟨vb, vo, none⟩)] w fun e w' => e = .returned (.tuple #[.pointer (some ⟨rb, ro, none⟩), .int .i64 ZW]) ∧ Sets w w' rb ro Rf := by
  have hvl := hr.lt; have hul := hu.lt; have hvl2 := hv.lt; have hBl := hD0.1
  obtain ⟨hs1, hg1, ib, io, hcell, hib, hE⟩ := hD1
  have hgl : 0 < w.heap.size := by omega
  have hi : Fe w ib io iN := ⟨i5, hE, i5_bd, i5_val⟩
  clear hE
  have hCC : Hid ((0 : Int) = if sqB u v then 1 else 0) := Lib.hid (by rw [hSB.out]; rfl)
  go_enter Tryd.func61, Tryd.ntmps61
  go_wp2_with fail
  obtain ⟨R1, qR1⟩ : ∃ uu : Nat, uu = v * v % pF := ⟨_, rfl⟩
  have HR1 := Lib.hid qR1; clear qR1
  refine (square_fe (w.heap.size + 1) (0) (vb) (vo) _ _ _ (Fe.newz_at _ _ (by (try simp only [alloc_size, setRow_size]))) (Fe.alloc (Fe.alloc hv _) _) R1 HR1).mono ?_
  rintro e w1 ⟨rfl, hC1⟩
  have hs1 : w.heap.size + 1 + 1 ≤ w1.heap.size := by have := hC1.size; (try simp only [alloc_size, setRow_size] at this); omega
  replace hr : Fe w1 (rb) (ro) (r0) := (Sets.others hC1 (Fe.alloc (Fe.alloc hr _) _) (by omega))
  replace hu : Fe w1 (ub) (uo) (u) := (Sets.others hC1 (Fe.alloc (Fe.alloc hu _) _) (by omega))
  replace hv : Fe w1 (vb) (vo) (v) := (Sets.others hC1 (Fe.alloc (Fe.alloc hv _) _) (by omega))
  replace hi : Fe w1 (ib) (io) (iN) := (Sets.others hC1 (Fe.alloc (Fe.alloc hi _) _) (by omega))
  replace h19 : Fe w1 (w.heap.size) (0) (0) := (Sets.others hC1 (Fe.alloc (Fe.newz_at _ _ rfl) _) (by omega))
  replace h20 : Fe w1 (w.heap.size + 1) (0) (R1) := (Sets.fe' hC1 (Fe.newz_at _ _ (by (try simp only [alloc_size, setRow_size]))))
  have hBw1 : Hid (Below w.heap.size w w1) := Lib.hid ((below_alloc (below_alloc (Below.refl _ w) _) _).trans (hC1.below (by omega) (below_alloc (below_alloc (Below.refl _ w) _) _).size))
  clear hC1
  go_wp2_with fail
  obtain ⟨R2, qR2⟩ : ∃ uu : Nat, uu = R1 * v % pF := ⟨_, rfl⟩
  have HR2 := Lib.hid qR2; clear qR2
  refine (mul_fe (w.heap.size) (0) (w.heap.size + 1) (0) (vb) (vo) _ _ _ _ (Fe.alloc h19 _) (Fe.alloc h20 _) (Fe.alloc hv _) R2 HR2).mono ?_
  rintro e w2 ⟨rfl, hC2⟩
  have hs2 : w1.heap.size + 1 ≤ w2.heap.size := by have := hC2.size; (try simp only [alloc_size, setRow_size] at this); omega
  replace hr : Fe w2 (rb) (ro) (r0) := (Sets.others hC2 (Fe.alloc hr _) (by omega))
  replace hu : Fe w2 (ub) (uo) (u) := (Sets.others hC2 (Fe.alloc hu _) (by omega))
  replace hv : Fe w2 (vb) (vo) (v) := (Sets.others hC2 (Fe.alloc hv _) (by omega))
  replace hi : Fe w2 (ib) (io) (iN) := (Sets.others hC2 (Fe.alloc hi _) (by omega))
  replace h20 : Fe w2 (w.heap.size + 1) (0) (R1) := (Sets.others hC2 (Fe.alloc h20 _) (by omega))
  replace h23 : Fe w2 (w1.heap.size) (0) (0) := (Sets.others hC2 (Fe.newz_at _ _ rfl) (by omega))
  replace h19 : Fe w2 (w.heap.size) (0) (R2) := (Sets.fe' hC2 (Fe.alloc h19 _))
  have hBw2 : Hid (Below w.heap.size w w2) := Lib.hid ((below_alloc hBw1.out _).trans (hC2.below (by omega) (below_alloc hBw1.out _).size))
  clear hC2
  go_wp2_with fail
  obtain ⟨R3, qR3⟩ : ∃ uu : Nat, uu = u * R2 % pF := ⟨_, rfl⟩
  have HR3 := Lib.hid qR3; clear qR3
  refine (mul_fe (w1.heap.size) (0) (ub) (uo) (w.heap.size) (0) _ _ _ _ h23 hu h19 R3 HR3).mono ?_
  rintro e w3 ⟨rfl, hC3⟩
  have hs3 : w2.heap.size ≤ w3.heap.size := by have := hC3.size; (try simp only [alloc_size, setRow_size] at this); omega
  replace hr : Fe w3 (rb) (ro) (r0) := (Sets.others hC3 hr (by omega))
  replace hu : Fe w3 (ub) (uo) (u) := (Sets.others hC3 hu (by omega))
  replace hv : Fe w3 (vb) (vo) (v) := (Sets.others hC3 hv (by omega))
  replace hi : Fe w3 (ib) (io) (iN) := (Sets.others hC3 hi (by omega))
  replace h20 : Fe w3 (w.heap.size + 1) (0) (R1) := (Sets.others hC3 h20 (by omega))
  replace h19 : Fe w3 (w.heap.size) (0) (R2) := (Sets.others hC3 h19 (by omega))
  replace h23 : Fe w3 (w1.heap.size) (0) (R3) := (Sets.fe' hC3 h23)
  have hBw3 : Hid (Below w.heap.size w w3) := Lib.hid (hBw2.out.trans (hC3.below (by omega) hBw2.out.size))
  clear hC3
  go_wp2_with fail
  obtain ⟨R4, qR4⟩ : ∃ uu : Nat, uu = R1 * R1 % pF := ⟨_, rfl⟩
  have HR4 := Lib.hid qR4; clear qR4
  refine (square_fe (w.heap.size) (0) (w.heap.size + 1) (0) _ _ _ (Fe.alloc h19 _) (Fe.alloc h20 _) R4 HR4).mono ?_
  rintro e w4 ⟨rfl, hC4⟩
  have hs4 : w3.heap.size + 1 ≤ w4.heap.size := by have := hC4.size; (try simp only [alloc_size, setRow_size] at this); omega
  replace hr : Fe w4 (rb) (ro) (r0) := (Sets.others hC4 (Fe.alloc hr _) (by omega))
  replace hu : Fe w4 (ub) (uo) (u) := (Sets.others hC4 (Fe.alloc hu _) (by omega))
  replace hv : Fe w4 (vb) (vo) (v) := (Sets.others hC4 (Fe.alloc hv _) (by omega))
  replace hi : Fe w4 (ib) (io) (iN) := (Sets.others hC4 (Fe.alloc hi _) (by omega))
  replace h20 : Fe w4 (w.heap.size + 1) (0) (R1) := (Sets.others hC4 (Fe.alloc h20 _) (by omega))
  replace h23 : Fe w4 (w1.heap.size) (0) (R3) := (Sets.others hC4 (Fe.alloc h23 _) (by omega))
  replace h30 : Fe w4 (w3.heap.size) (0) (0) := (Sets.others hC4 (Fe.newz_at _ _ rfl) (by omega))
  replace h19 : Fe w4 (w.heap.size) (0) (R4) := (Sets.fe' hC4 (Fe.alloc h19 _))
  have hBw4 : Hid (Below w.heap.size w w4) := Lib.hid ((below_alloc hBw3.out _).trans (hC4.below (by omega) (below_alloc hBw3.out _).size))
  clear hC4
  go_wp2_with fail
  obtain ⟨R5, qR5⟩ : ∃ uu : Nat, uu = R3 * R4 % pF := ⟨_, rfl⟩
  have HR5 := Lib.hid qR5; clear qR5
  refine (mul_fe (w3.heap.size) (0) (w1.heap.size) (0) (w.heap.size) (0) _ _ _ _ h30 h23 h19 R5 HR5).mono ?_
  rintro e w5 ⟨rfl, hC5⟩
  have hs5 : w4.heap.size ≤ w5.heap.size := by have := hC5.size; (try simp only [alloc_size, setRow_size] at this); omega
  replace hr : Fe w5 (rb) (ro) (r0) := (Sets.others hC5 hr (by omega))
  replace hu : Fe w5 (ub) (uo) (u) := (Sets.others hC5 hu (by omega))
  replace hv : Fe w5 (vb) (vo) (v) := (Sets.others hC5 hv (by omega))
  replace hi : Fe w5 (ib) (io) (iN) := (Sets.others hC5 hi (by omega))
  replace h20 : Fe w5 (w.heap.size + 1) (0) (R1) := (Sets.others hC5 h20 (by omega))
  replace h23 : Fe w5 (w1.heap.size) (0) (R3) := (Sets.others hC5 h23 (by omega))
  replace h19 : Fe w5 (w.heap.size) (0) (R4) := (Sets.others hC5 h19 (by omega))
  replace h30 : Fe w5 (w3.heap.size) (0) (R5) := (Sets.fe' hC5 h30)
  have hBw5 : Hid (Below w.heap.size w w5) := Lib.hid (hBw4.out.trans (hC5.below (by omega) hBw4.out.size))
  clear hC5
  go_wp2_with fail
  obtain ⟨R6, qR6⟩ : ∃ uu : Nat, uu = R5 ^ eQ % pF := ⟨_, rfl⟩
  have HR6 := Lib.hid qR6; clear qR6
  refine (pow22523_to (w.heap.size) (0) (w3.heap.size) (0) _ _ _ (Fe.alloc h19 _) (Fe.alloc h30 _) R6 HR6).mono ?_
  rintro e w6 ⟨rfl, hC6⟩
  have hs6 : w5.heap.size + 1 ≤ w6.heap.size := by have := hC6.size; (try simp only [alloc_size, setRow_size] at this); omega
  replace hr : Fe w6 (rb) (ro) (r0) := (Sets.others hC6 (Fe.alloc hr _) (by omega))
  replace hu : Fe w6 (ub) (uo) (u) := (Sets.others hC6 (Fe.alloc hu _) (by omega))
  replace hv : Fe w6 (vb) (vo) (v) := (Sets.others hC6 (Fe.alloc hv _) (by omega))
  replace hi : Fe w6 (ib) (io) (iN) := (Sets.others hC6 (Fe.alloc hi _) (by omega))
  replace h20 : Fe w6 (w.heap.size + 1) (0) (R1) := (Sets.others hC6 (Fe.alloc h20 _) (by omega))
  replace h23 : Fe w6 (w1.heap.size) (0) (R3) := (Sets.others hC6 (Fe.alloc h23 _) (by omega))
  replace h30 : Fe w6 (w3.heap.size) (0) (R5) := (Sets.others hC6 (Fe.alloc h30 _) (by omega))
  replace h36 : Fe w6 (w5.heap.size) (0) (0) := (Sets.others hC6 (Fe.newz_at _ _ rfl) (by omega))
  replace h19 : Fe w6 (w.heap.size) (0) (R6) := (Sets.fe' hC6 (Fe.alloc h19 _))
  have hBw6 : Hid (Below w.heap.size w w6) := Lib.hid ((below_alloc hBw5.out _).trans (hC6.below (by omega) (below_alloc hBw5.out _).size))
  clear hC6
  go_wp2_with fail
  obtain ⟨R7, qR7⟩ : ∃ uu : Nat, uu = R3 * R6 % pF := ⟨_, rfl⟩
  have HR7 := Lib.hid qR7; clear qR7
  refine (mul_fe (w5.heap.size) (0) (w1.heap.size) (0) (w.heap.size) (0) _ _ _ _ h36 h23 h19 R7 HR7).mono ?_
  rintro e w7 ⟨rfl, hC7⟩
  have hs7 : w6.heap.size ≤ w7.heap.size := by have := hC7.size; (try simp only [alloc_size, setRow_size] at this); omega
  replace hr : Fe w7 (rb) (ro) (r0) := (Sets.others hC7 hr (by omega))
  replace hu : Fe w7 (ub) (uo) (u) := (Sets.others hC7 hu (by omega))
  replace hv : Fe w7 (vb) (vo) (v) := (Sets.others hC7 hv (by omega))
  replace hi : Fe w7 (ib) (io) (iN) := (Sets.others hC7 hi (by omega))
  replace h20 : Fe w7 (w.heap.size + 1) (0) (R1) := (Sets.others hC7 h20 (by omega))
  replace h23 : Fe w7 (w1.heap.size) (0) (R3) := (Sets.others hC7 h23 (by omega))
  replace h30 : Fe w7 (w3.heap.size) (0) (R5) := (Sets.others hC7 h30 (by omega))
  replace h19 : Fe w7 (w.heap.size) (0) (R6) := (Sets.others hC7 h19 (by omega))
  replace h36 : Fe w7 (w5.heap.size) (0) (R7) := (Sets.fe' hC7 h36)
  have hBw7 : Hid (Below w.heap.size w w7) := Lib.hid (hBw6.out.trans (hC7.below (by omega) hBw6.out.size))
  clear hC7
  go_wp2_with fail
  obtain ⟨R8, qR8⟩ : ∃ uu : Nat, uu = R7 * R7 % pF := ⟨_, rfl⟩
  have HR8 := Lib.hid qR8; clear qR8
  refine (square_fe (w.heap.size) (0) (w5.heap.size) (0) _ _ _ (Fe.alloc h19 _) (Fe.alloc h36 _) R8 HR8).mono ?_
  rintro e w8 ⟨rfl, hC8⟩
  have hs8 : w7.heap.size + 1 ≤ w8.heap.size := by have := hC8.size; (try simp only [alloc_size, setRow_size] at this); omega
  replace hr : Fe w8 (rb) (ro) (r0) := (Sets.others hC8 (Fe.alloc hr _) (by omega))
  replace hu : Fe w8 (ub) (uo) (u) := (Sets.others hC8 (Fe.alloc hu _) (by omega))
  replace hv : Fe w8 (vb) (vo) (v) := (Sets.others hC8 (Fe.alloc hv _) (by omega))
  replace hi : Fe w8 (ib) (io) (iN) := (Sets.others hC8 (Fe.alloc hi _) (by omega))
  replace h20 : Fe w8 (w.heap.size + 1) (0) (R1) := (Sets.others hC8 (Fe.alloc h20 _) (by omega))
  replace h23 : Fe w8 (w1.heap.size) (0) (R3) := (Sets.others hC8 (Fe.alloc h23 _) (by omega))
  replace h30 : Fe w8 (w3.heap.size) (0) (R5) := (Sets.others hC8 (Fe.alloc h30 _) (by omega))
  replace h36 : Fe w8 (w5.heap.size) (0) (R7) := (Sets.others hC8 (Fe.alloc h36 _) (by omega))
  replace h42 : Fe w8 (w7.heap.size) (0) (0) := (Sets.others hC8 (Fe.newz_at _ _ rfl) (by omega))
  replace h19 : Fe w8 (w.heap.size) (0) (R8) := (Sets.fe' hC8 (Fe.alloc h19 _))
  have hBw8 : Hid (Below w.heap.size w w8) := Lib.hid ((below_alloc hBw7.out _).trans (hC8.below (by omega) (below_alloc hBw7.out _).size))
  clear hC8
  go_wp2_with fail
  obtain ⟨R9, qR9⟩ : ∃ uu : Nat, uu = v * R8 % pF := ⟨_, rfl⟩
  have HR9 := Lib.hid qR9; clear qR9
  refine (mul_fe (w7.heap.size) (0) (vb) (vo) (w.heap.size) (0) _ _ _ _ h42 hv h19 R9 HR9).mono ?_
  rintro e w9 ⟨rfl, hC9⟩
  have hs9 : w8.heap.size ≤ w9.heap.size := by have := hC9.size; (try simp only [alloc_size, setRow_size] at this); omega
  replace hr : Fe w9 (rb) (ro) (r0) := (Sets.others hC9 hr (by omega))
  replace hu : Fe w9 (ub) (uo) (u) := (Sets.others hC9 hu (by omega))
  replace hv : Fe w9 (vb) (vo) (v) := (Sets.others hC9 hv (by omega))
  replace hi : Fe w9 (ib) (io) (iN) := (Sets.others hC9 hi (by omega))
  replace h20 : Fe w9 (w.heap.size + 1) (0) (R1) := (Sets.others hC9 h20 (by omega))
  replace h23 : Fe w9 (w1.heap.size) (0) (R3) := (Sets.others hC9 h23 (by omega))
  replace h30 : Fe w9 (w3.heap.size) (0) (R5) := (Sets.others hC9 h30 (by omega))
  replace h36 : Fe w9 (w5.heap.size) (0) (R7) := (Sets.others hC9 h36 (by omega))
  replace h19 : Fe w9 (w.heap.size) (0) (R8) := (Sets.others hC9 h19 (by omega))
  replace h42 : Fe w9 (w7.heap.size) (0) (R9) := (Sets.fe' hC9 h42)
  have hBw9 : Hid (Below w.heap.size w w9) := Lib.hid (hBw8.out.trans (hC9.below (by omega) hBw8.out.size))
  clear hC9
  go_wp2_with fail
  obtain ⟨R10, qR10⟩ : ∃ uu : Nat, uu = (pF - u) % pF := ⟨_, rfl⟩
  have HR10 := Lib.hid qR10; clear qR10
  refine (neg_fe (w9.heap.size) (0) (ub) (uo) _ _ B _ (hD0.later (below_alloc hBw9.out _)) (by omega) (Fe.newz_at _ _ rfl) (Fe.alloc hu _) (apart_blk _ _ _ _ (by omega)) R10 HR10).mono ?_
  rintro e w10 ⟨rfl, hC10⟩
  have hs10 : w9.heap.size + 1 ≤ w10.heap.size := by have := hC10.size; (try simp only [alloc_size, setRow_size] at this); omega
  replace hr : Fe w10 (rb) (ro) (r0) := (Sets.others hC10 (Fe.alloc hr _) (by omega))
  replace hu : Fe w10 (ub) (uo) (u) := (Sets.others hC10 (Fe.alloc hu _) (by omega))
  replace hv : Fe w10 (vb) (vo) (v) := (Sets.others hC10 (Fe.alloc hv _) (by omega))
  replace hi : Fe w10 (ib) (io) (iN) := (Sets.others hC10 (Fe.alloc hi _) (by omega))
  replace h20 : Fe w10 (w.heap.size + 1) (0) (R1) := (Sets.others hC10 (Fe.alloc h20 _) (by omega))
  replace h23 : Fe w10 (w1.heap.size) (0) (R3) := (Sets.others hC10 (Fe.alloc h23 _) (by omega))
  replace h30 : Fe w10 (w3.heap.size) (0) (R5) := (Sets.others hC10 (Fe.alloc h30 _) (by omega))
  replace h36 : Fe w10 (w5.heap.size) (0) (R7) := (Sets.others hC10 (Fe.alloc h36 _) (by omega))
  replace h19 : Fe w10 (w.heap.size) (0) (R8) := (Sets.others hC10 (Fe.alloc h19 _) (by omega))
  replace h42 : Fe w10 (w7.heap.size) (0) (R9) := (Sets.others hC10 (Fe.alloc h42 _) (by omega))
  replace h48 : Fe w10 (w9.heap.size) (0) (R10) := (Sets.fe' hC10 (Fe.newz_at _ _ rfl))
  have hBw10 : Hid (Below w.heap.size w w10) := Lib.hid ((below_alloc hBw9.out _).trans (hC10.below (by omega) (below_alloc hBw9.out _).size))
  clear hC10
  obtain ⟨Z1, q1⟩ : ∃ Z : Int, Hid (Z = if R9 = u then 1 else 0) := ⟨_, rfl⟩
  obtain ⟨Z2, q2⟩ : ∃ Z : Int, Hid (Z = if R9 = R10 then 1 else 0) := ⟨_, rfl⟩
  obtain ⟨Z3, q3⟩ : ∃ Z : Int, Hid (Z = if R9 = R10 * iN % pF then 1 else 0) := ⟨_, rfl⟩
  have K1 := HR1
  have K2 := HR2
  have K3 := HR3
  have K4 := HR4
  have K5 := HR5
  have K6 := HR6
  have K7 := HR7
  have K8 := HR8
  have K9 := HR9
  have K10 := HR10
  have hc : R9 = sqC u v := by
      simp only [HR10.out, HR9.out, HR8.out, HR7.out, HR6.out, HR5.out, HR4.out, HR3.out, HR2.out, HR1.out]; rfl
  have hrr : R7 = sqRR u v := by
      simp only [HR10.out, HR9.out, HR8.out, HR7.out, HR6.out, HR5.out, HR4.out, HR3.out, HR2.out, HR1.out]; rfl
  have hun : R10 = (pF - u) % pF := HR10.out
  have hW1 := Lib.hid (zor1 u v _ _ _ hc hun q1.out q2.out hZW.out)
  have hW2 := Lib.hid (zor2 u v _ _ _ hc hun q2.out q3.out hCC.out)
  have Hrr := Lib.hid hrr; clear hc hrr hun
  have o1 := hW1.out; have o2 := hW2.out
  go_wp2_with fail
  refine (Equal_any (w7.heap.size) (0) (ub) (uo) _ _ _ h42 hu Z1 (by exact q1)).mono ?_
  rintro e w11 ⟨rfl, hC11⟩
  have hs11 : w10.heap.size ≤ w11.heap.size := by have := hC11.size; (try simp only [alloc_size, setRow_size] at this); omega
  replace hr : Fe w11 (rb) (ro) (r0) := (Fe.below_all hr hC11)
  replace hu : Fe w11 (ub) (uo) (u) := (Fe.below_all hu hC11)
  replace hv : Fe w11 (vb) (vo) (v) := (Fe.below_all hv hC11)
  replace hi : Fe w11 (ib) (io) (iN) := (Fe.below_all hi hC11)
  replace h20 : Fe w11 (w.heap.size + 1) (0) (R1) := (Fe.below_all h20 hC11)
  replace h23 : Fe w11 (w1.heap.size) (0) (R3) := (Fe.below_all h23 hC11)
  replace h30 : Fe w11 (w3.heap.size) (0) (R5) := (Fe.below_all h30 hC11)
  replace h36 : Fe w11 (w5.heap.size) (0) (R7) := (Fe.below_all h36 hC11)
  replace h19 : Fe w11 (w.heap.size) (0) (R8) := (Fe.below_all h19 hC11)
  replace h42 : Fe w11 (w7.heap.size) (0) (R9) := (Fe.below_all h42 hC11)
  replace h48 : Fe w11 (w9.heap.size) (0) (R10) := (Fe.below_all h48 hC11)
  have hBw11 : Hid (Below w.heap.size w w11) := Lib.hid (below_call hBw10.out hC11)
  clear hC11
  go_wp2_with fail
  refine (Equal_any (w7.heap.size) (0) (w9.heap.size) (0) _ _ _ h42 h48 Z2 (by exact q2)).mono ?_
  rintro e w12 ⟨rfl, hC12⟩
  have hs12 : w11.heap.size ≤ w12.heap.size := by have := hC12.size; (try simp only [alloc_size, setRow_size] at this); omega
  replace hr : Fe w12 (rb) (ro) (r0) := (Fe.below_all hr hC12)
  replace hu : Fe w12 (ub) (uo) (u) := (Fe.below_all hu hC12)
  replace hv : Fe w12 (vb) (vo) (v) := (Fe.below_all hv hC12)
  replace hi : Fe w12 (ib) (io) (iN) := (Fe.below_all hi hC12)
  replace h20 : Fe w12 (w.heap.size + 1) (0) (R1) := (Fe.below_all h20 hC12)
  replace h23 : Fe w12 (w1.heap.size) (0) (R3) := (Fe.below_all h23 hC12)
  replace h30 : Fe w12 (w3.heap.size) (0) (R5) := (Fe.below_all h30 hC12)
  replace h36 : Fe w12 (w5.heap.size) (0) (R7) := (Fe.below_all h36 hC12)
  replace h19 : Fe w12 (w.heap.size) (0) (R8) := (Fe.below_all h19 hC12)
  replace h42 : Fe w12 (w7.heap.size) (0) (R9) := (Fe.below_all h42 hC12)
  replace h48 : Fe w12 (w9.heap.size) (0) (R10) := (Fe.below_all h48 hC12)
  have hBw12 : Hid (Below w.heap.size w w12) := Lib.hid (below_call hBw11.out hC12)
  clear hC12
  have hci := ((hBw12.out).cell (p := ⟨0, 0, none⟩) hgl).trans hcell
  have HRx : Hid (Z3 = if R9 = R10 * iN % pF then 1 else 0) := q3
  go_wp2_with fail
  obtain ⟨R11, qR11⟩ : ∃ uu : Nat, uu = R10 * iN % pF := ⟨_, rfl⟩
  have HR11 := Lib.hid qR11; clear qR11
  refine (mul_fe (w.heap.size) (0) (w9.heap.size) (0) (ib) (io) _ _ _ _ h19 h48 hi R11 HR11).mono ?_
  rintro e w13 ⟨rfl, hC13⟩
  have hs13 : w12.heap.size ≤ w13.heap.size := by have := hC13.size; (try simp only [alloc_size, setRow_size] at this); omega
  replace hr : Fe w13 (rb) (ro) (r0) := (Sets.others hC13 hr (by omega))
  replace hu : Fe w13 (ub) (uo) (u) := (Sets.others hC13 hu (by omega))
  replace hv : Fe w13 (vb) (vo) (v) := (Sets.others hC13 hv (by omega))
  replace hi : Fe w13 (ib) (io) (iN) := (Sets.others hC13 hi (by omega))
  replace h20 : Fe w13 (w.heap.size + 1) (0) (R1) := (Sets.others hC13 h20 (by omega))
  replace h23 : Fe w13 (w1.heap.size) (0) (R3) := (Sets.others hC13 h23 (by omega))
  replace h30 : Fe w13 (w3.heap.size) (0) (R5) := (Sets.others hC13 h30 (by omega))
  replace h36 : Fe w13 (w5.heap.size) (0) (R7) := (Sets.others hC13 h36 (by omega))
  replace h42 : Fe w13 (w7.heap.size) (0) (R9) := (Sets.others hC13 h42 (by omega))
  replace h48 : Fe w13 (w9.heap.size) (0) (R10) := (Sets.others hC13 h48 (by omega))
  replace h19 : Fe w13 (w.heap.size) (0) (R11) := (Sets.fe' hC13 h19)
  have hBw13 : Hid (Below w.heap.size w w13) := Lib.hid (hBw12.out.trans (hC13.below (by omega) hBw12.out.size))
  clear hC13
  go_wp2_with fail
  refine (Equal_any (w7.heap.size) (0) (w.heap.size) (0) _ _ _ h42 h19 Z3 (Lib.hid (by rw [HR11.out]; exact q3.out))).mono ?_
  rintro e w14 ⟨rfl, hC14⟩
  have hs14 : w13.heap.size ≤ w14.heap.size := by have := hC14.size; (try simp only [alloc_size, setRow_size] at this); omega
  replace hr : Fe w14 (rb) (ro) (r0) := (Fe.below_all hr hC14)
  replace hu : Fe w14 (ub) (uo) (u) := (Fe.below_all hu hC14)
  replace hv : Fe w14 (vb) (vo) (v) := (Fe.below_all hv hC14)
  replace hi : Fe w14 (ib) (io) (iN) := (Fe.below_all hi hC14)
  replace h20 : Fe w14 (w.heap.size + 1) (0) (R1) := (Fe.below_all h20 hC14)
  replace h23 : Fe w14 (w1.heap.size) (0) (R3) := (Fe.below_all h23 hC14)
  replace h30 : Fe w14 (w3.heap.size) (0) (R5) := (Fe.below_all h30 hC14)
  replace h36 : Fe w14 (w5.heap.size) (0) (R7) := (Fe.below_all h36 hC14)
  replace h42 : Fe w14 (w7.heap.size) (0) (R9) := (Fe.below_all h42 hC14)
  replace h48 : Fe w14 (w9.heap.size) (0) (R10) := (Fe.below_all h48 hC14)
  replace h19 : Fe w14 (w.heap.size) (0) (R11) := (Fe.below_all h19 hC14)
  have hBw14 : Hid (Below w.heap.size w w14) := Lib.hid (below_call hBw13.out hC14)
  clear hC14
  have hci : (w14.alloc (.cells #[.int .u64 0, .int .u64 0, .int .u64 0, .int .u64 0, .int .u64 0] 60)).cell? ⟨0, 0, none⟩ = some (.pointer (some ⟨ib, io, none⟩)) := ((below_alloc hBw14.out _).cell (p := ⟨0, 0, none⟩) hgl).trans hcell
  go_wp2_with fail
  obtain ⟨R12, qR12⟩ : ∃ uu : Nat, uu = R7 * iN % pF := ⟨_, rfl⟩
  have HR12 := Lib.hid qR12; clear qR12
  refine (mul_fe (w14.heap.size) (0) (w5.heap.size) (0) (ib) (io) _ _ _ _ (Fe.newz_at _ _ rfl) (Fe.alloc h36 _) (Fe.alloc hi _) R12 HR12).mono ?_
  rintro e w15 ⟨rfl, hC15⟩
  have hs15 : w14.heap.size + 1 ≤ w15.heap.size := by have := hC15.size; (try simp only [alloc_size, setRow_size] at this); omega
  replace hr : Fe w15 (rb) (ro) (r0) := (Sets.others hC15 (Fe.alloc hr _) (by omega))
  replace hu : Fe w15 (ub) (uo) (u) := (Sets.others hC15 (Fe.alloc hu _) (by omega))
  replace hv : Fe w15 (vb) (vo) (v) := (Sets.others hC15 (Fe.alloc hv _) (by omega))
  replace hi : Fe w15 (ib) (io) (iN) := (Sets.others hC15 (Fe.alloc hi _) (by omega))
  replace h20 : Fe w15 (w.heap.size + 1) (0) (R1) := (Sets.others hC15 (Fe.alloc h20 _) (by omega))
  replace h23 : Fe w15 (w1.heap.size) (0) (R3) := (Sets.others hC15 (Fe.alloc h23 _) (by omega))
  replace h30 : Fe w15 (w3.heap.size) (0) (R5) := (Sets.others hC15 (Fe.alloc h30 _) (by omega))
  replace h36 : Fe w15 (w5.heap.size) (0) (R7) := (Sets.others hC15 (Fe.alloc h36 _) (by omega))
  replace h42 : Fe w15 (w7.heap.size) (0) (R9) := (Sets.others hC15 (Fe.alloc h42 _) (by omega))
  replace h48 : Fe w15 (w9.heap.size) (0) (R10) := (Sets.others hC15 (Fe.alloc h48 _) (by omega))
  replace h19 : Fe w15 (w.heap.size) (0) (R11) := (Sets.others hC15 (Fe.alloc h19 _) (by omega))
  replace h63 : Fe w15 (w14.heap.size) (0) (R12) := (Sets.fe' hC15 (Fe.newz_at _ _ rfl))
  have hBw15 : Hid (Below w.heap.size w w15) := Lib.hid ((below_alloc hBw14.out _).trans (hC15.below (by omega) (below_alloc hBw14.out _).size))
  clear hC15
  go_wp2_with fail
  refine (select_fe0 (w5.heap.size) (0) (w14.heap.size) (0) (w5.heap.size) (0) _ _ _ (apart_blk _ _ _ _ (by omega)) (Or.inl ⟨rfl, rfl⟩) _ h36 h63 h36).mono ?_
  rintro e w16 ⟨rfl, hC16⟩
  have hs16 : w15.heap.size ≤ w16.heap.size := by have := hC16.size; (try simp only [alloc_size, setRow_size] at this); omega
  replace hr : Fe w16 (rb) (ro) (r0) := (Sets.others hC16 hr (by omega))
  replace hu : Fe w16 (ub) (uo) (u) := (Sets.others hC16 hu (by omega))
  replace hv : Fe w16 (vb) (vo) (v) := (Sets.others hC16 hv (by omega))
  replace hi : Fe w16 (ib) (io) (iN) := (Sets.others hC16 hi (by omega))
  replace h20 : Fe w16 (w.heap.size + 1) (0) (R1) := (Sets.others hC16 h20 (by omega))
  replace h23 : Fe w16 (w1.heap.size) (0) (R3) := (Sets.others hC16 h23 (by omega))
  replace h30 : Fe w16 (w3.heap.size) (0) (R5) := (Sets.others hC16 h30 (by omega))
  replace h42 : Fe w16 (w7.heap.size) (0) (R9) := (Sets.others hC16 h42 (by omega))
  replace h48 : Fe w16 (w9.heap.size) (0) (R10) := (Sets.others hC16 h48 (by omega))
  replace h19 : Fe w16 (w.heap.size) (0) (R11) := (Sets.others hC16 h19 (by omega))
  replace h63 : Fe w16 (w14.heap.size) (0) (R12) := (Sets.others hC16 h63 (by omega))
  replace h36 : Fe w16 (w5.heap.size) (0) (R7) := (Sets.fe' hC16 h36)
  have hBw16 : Hid (Below w.heap.size w w16) := Lib.hid (hBw15.out.trans (hC16.below (by omega) hBw15.out.size))
  clear hC16
  have HF : Hid (Rf = absN R7) := Lib.hid (by rw [hRf.out]; unfold sqR; rw [hSB.out]; simp only [if_true, if_false, Bool.false_eq_true, ↓reduceIte]; rw [← Hrr.out])
  go_wp2_with fail
  refine (absolute_fe rb ro (w5.heap.size) (0) _ _ B (apart_blk _ _ _ _ (by omega)) _ (hD0.later hBw16.out) hr h36 Rf HF).mono ?_
  rintro e w17 ⟨rfl, hC17⟩
  go_wp2
  go_ret2
  exact ⟨rfl, Sets.ahead hBw16.out hC17 hvl⟩
set_option maxHeartbeats 4000000 in
theorem sqrt_raw1 (rb ro ub uo vb vo u v r0 B Rf : Nat) (ZW : Int) (hRf : Hid (Rf = sqR u v)) (hZW : Hid (ZW = if sqW u v then 1 else 0)) (hSB : Hid (sqB u v = true)) (w : World) (hD0 : Var 1 z5 B w) (hD1 : Var 0 i5 B w) (hr : Fe w rb ro r0) (hu : Fe w ub uo u) (hv : Fe w vb vo v) :
    Calls Tryd.prog 61 #[.pointer (some ⟨rb, ro, none⟩), .pointer (some ⟨ub, uo, none⟩), .pointer (some ⟨vb, vo, none⟩)] w fun e w' => e = .returned (.tuple #[.pointer (some ⟨rb, ro, none⟩), .int .i64 ZW]) ∧ Sets w w' rb ro Rf := by
  have hvl := hr.lt; have hul := hu.lt; have hvl2 := hv.lt; have hBl := hD0.1
  obtain ⟨hs1, hg1, ib, io, hcell, hib, hE⟩ := hD1
  have hgl : 0 < w.heap.size := by omega
  have hi : Fe w ib io iN := ⟨i5, hE, i5_bd, i5_val⟩
  clear hE
  have hCC : Hid ((1 : Int) = if sqB u v then 1 else 0) := Lib.hid (by rw [hSB.out]; rfl)
  go_enter Tryd.func61, Tryd.ntmps61
  go_wp2_with fail
  obtain ⟨R1, qR1⟩ : ∃ uu : Nat, uu = v * v % pF := ⟨_, rfl⟩
  have HR1 := Lib.hid qR1; clear qR1
  refine (square_fe (w.heap.size + 1) (0) (vb) (vo) _ _ _ (Fe.newz_at _ _ (by (try simp only [alloc_size, setRow_size]))) (Fe.alloc (Fe.alloc hv _) _) R1 HR1).mono ?_
  rintro e w1 ⟨rfl, hC1⟩
  have hs1 : w.heap.size + 1 + 1 ≤ w1.heap.size := by have := hC1.size; (try simp only [alloc_size, setRow_size] at this); omega
  replace hr : Fe w1 (rb) (ro) (r0) := (Sets.others hC1 (Fe.alloc (Fe.alloc hr _) _) (by omega))
  replace hu : Fe w1 (ub) (uo) (u) := (Sets.others hC1 (Fe.alloc (Fe.alloc hu _) _) (by omega))
  replace hv : Fe w1 (vb) (vo) (v) := (Sets.others hC1 (Fe.alloc (Fe.alloc hv _) _) (by omega))
  replace hi : Fe w1 (ib) (io) (iN) := (Sets.others hC1 (Fe.alloc (Fe.alloc hi _) _) (by omega))
  replace h19 : Fe w1 (w.heap.size) (0) (0) := (Sets.others hC1 (Fe.alloc (Fe.newz_at _ _ rfl) _) (by omega))
  replace h20 : Fe w1 (w.heap.size + 1) (0) (R1) := (Sets.fe' hC1 (Fe.newz_at _ _ (by (try simp only [alloc_size, setRow_size]))))
  have hBw1 : Hid (Below w.heap.size w w1) := Lib.hid ((below_alloc (below_alloc (Below.refl _ w) _) _).trans (hC1.below (by omega) (below_alloc (below_alloc (Below.refl _ w) _) _).size))
  clear hC1
  go_wp2_with fail
  obtain ⟨R2, qR2⟩ : ∃ uu : Nat, uu = R1 * v % pF := ⟨_, rfl⟩
  have HR2 := Lib.hid qR2; clear qR2
  refine (mul_fe (w.heap.size) (0) (w.heap.size + 1) (0) (vb) (vo) _ _ _ _ (Fe.alloc h19 _) (Fe.alloc h20 _) (Fe.alloc hv _) R2 HR2).mono ?_
  rintro e w2 ⟨rfl, hC2⟩
  have hs2 : w1.heap.size + 1 ≤ w2.heap.size := by have := hC2.size; (try simp only [alloc_size, setRow_size] at this); omega
  replace hr : Fe w2 (rb) (ro) (r0) := (Sets.others hC2 (Fe.alloc hr _) (by omega))
  replace hu : Fe w2 (ub) (uo) (u) := (Sets.others hC2 (Fe.alloc hu _) (by omega))
  replace hv : Fe w2 (vb) (vo) (v) := (Sets.others hC2 (Fe.alloc hv _) (by omega))
  replace hi : Fe w2 (ib) (io) (iN) := (Sets.others hC2 (Fe.alloc hi _) (by omega))
  replace h20 : Fe w2 (w.heap.size + 1) (0) (R1) := (Sets.others hC2 (Fe.alloc h20 _) (by omega))
  replace h23 : Fe w2 (w1.heap.size) (0) (0) := (Sets.others hC2 (Fe.newz_at _ _ rfl) (by omega))
  replace h19 : Fe w2 (w.heap.size) (0) (R2) := (Sets.fe' hC2 (Fe.alloc h19 _))
  have hBw2 : Hid (Below w.heap.size w w2) := Lib.hid ((below_alloc hBw1.out _).trans (hC2.below (by omega) (below_alloc hBw1.out _).size))
  clear hC2
  go_wp2_with fail
  obtain ⟨R3, qR3⟩ : ∃ uu : Nat, uu = u * R2 % pF := ⟨_, rfl⟩
  have HR3 := Lib.hid qR3; clear qR3
  refine (mul_fe (w1.heap.size) (0) (ub) (uo) (w.heap.size) (0) _ _ _ _ h23 hu h19 R3 HR3).mono ?_
  rintro e w3 ⟨rfl, hC3⟩
  have hs3 : w2.heap.size ≤ w3.heap.size := by have := hC3.size; (try simp only [alloc_size, setRow_size] at this); omega
  replace hr : Fe w3 (rb) (ro) (r0) := (Sets.others hC3 hr (by omega))
  replace hu : Fe w3 (ub) (uo) (u) := (Sets.others hC3 hu (by omega))
  replace hv : Fe w3 (vb) (vo) (v) := (Sets.others hC3 hv (by omega))
  replace hi : Fe w3 (ib) (io) (iN) := (Sets.others hC3 hi (by omega))
  replace h20 : Fe w3 (w.heap.size + 1) (0) (R1) := (Sets.others hC3 h20 (by omega))
  replace h19 : Fe w3 (w.heap.size) (0) (R2) := (Sets.others hC3 h19 (by omega))
  replace h23 : Fe w3 (w1.heap.size) (0) (R3) := (Sets.fe' hC3 h23)
  have hBw3 : Hid (Below w.heap.size w w3) := Lib.hid (hBw2.out.trans (hC3.below (by omega) hBw2.out.size))
  clear hC3
  go_wp2_with fail
  obtain ⟨R4, qR4⟩ : ∃ uu : Nat, uu = R1 * R1 % pF := ⟨_, rfl⟩
  have HR4 := Lib.hid qR4; clear qR4
  refine (square_fe (w.heap.size) (0) (w.heap.size + 1) (0) _ _ _ (Fe.alloc h19 _) (Fe.alloc h20 _) R4 HR4).mono ?_
  rintro e w4 ⟨rfl, hC4⟩
  have hs4 : w3.heap.size + 1 ≤ w4.heap.size := by have := hC4.size; (try simp only [alloc_size, setRow_size] at this); omega
  replace hr : Fe w4 (rb) (ro) (r0) := (Sets.others hC4 (Fe.alloc hr _) (by omega))
  replace hu : Fe w4 (ub) (uo) (u) := (Sets.others hC4 (Fe.alloc hu _) (by omega))
  replace hv : Fe w4 (vb) (vo) (v) := (Sets.others hC4 (Fe.alloc hv _) (by omega))
  replace hi : Fe w4 (ib) (io) (iN) := (Sets.others hC4 (Fe.alloc hi _) (by omega))
  replace h20 : Fe w4 (w.heap.size + 1) (0) (R1) := (Sets.others hC4 (Fe.alloc h20 _) (by omega))
  replace h23 : Fe w4 (w1.heap.size) (0) (R3) := (Sets.others hC4 (Fe.alloc h23 _) (by omega))
  replace h30 : Fe w4 (w3.heap.size) (0) (0) := (Sets.others hC4 (Fe.newz_at _ _ rfl) (by omega))
  replace h19 : Fe w4 (w.heap.size) (0) (R4) := (Sets.fe' hC4 (Fe.alloc h19 _))
  have hBw4 : Hid (Below w.heap.size w w4) := Lib.hid ((below_alloc hBw3.out _).trans (hC4.below (by omega) (below_alloc hBw3.out _).size))
  clear hC4
  go_wp2_with fail
  obtain ⟨R5, qR5⟩ : ∃ uu : Nat, uu = R3 * R4 % pF := ⟨_, rfl⟩
  have HR5 := Lib.hid qR5; clear qR5
  refine (mul_fe (w3.heap.size) (0) (w1.heap.size) (0) (w.heap.size) (0) _ _ _ _ h30 h23 h19 R5 HR5).mono ?_
  rintro e w5 ⟨rfl, hC5⟩
  have hs5 : w4.heap.size ≤ w5.heap.size := by have := hC5.size; (try simp only [alloc_size, setRow_size] at this); omega
  replace hr : Fe w5 (rb) (ro) (r0) := (Sets.others hC5 hr (by omega))
  replace hu : Fe w5 (ub) (uo) (u) := (Sets.others hC5 hu (by omega))
  replace hv : Fe w5 (vb) (vo) (v) := (Sets.others hC5 hv (by omega))
  replace hi : Fe w5 (ib) (io) (iN) := (Sets.others hC5 hi (by omega))
  replace h20 : Fe w5 (w.heap.size + 1) (0) (R1) := (Sets.others hC5 h20 (by omega))
  replace h23 : Fe w5 (w1.heap.size) (0) (R3) := (Sets.others hC5 h23 (by omega))
  replace h19 : Fe w5 (w.heap.size) (0) (R4) := (Sets.others hC5 h19 (by omega))
  replace h30 : Fe w5 (w3.heap.size) (0) (R5) := (Sets.fe' hC5 h30)
  have hBw5 : Hid (Below w.heap.size w w5) := Lib.hid (hBw4.out.trans (hC5.below (by omega) hBw4.out.size))
  clear hC5
  go_wp2_with fail
  obtain ⟨R6, qR6⟩ : ∃ uu : Nat, uu = R5 ^ eQ % pF := ⟨_, rfl⟩
  have HR6 := Lib.hid qR6; clear qR6
  refine (pow22523_to (w.heap.size) (0) (w3.heap.size) (0) _ _ _ (Fe.alloc h19 _) (Fe.alloc h30 _) R6 HR6).mono ?_
  rintro e w6 ⟨rfl, hC6⟩
  have hs6 : w5.heap.size + 1 ≤ w6.heap.size := by have := hC6.size; (try simp only [alloc_size, setRow_size] at this); omega
  replace hr : Fe w6 (rb) (ro) (r0) := (Sets.others hC6 (Fe.alloc hr _) (by omega))
  replace hu : Fe w6 (ub) (uo) (u) := (Sets.others hC6 (Fe.alloc hu _) (by omega))
  replace hv : Fe w6 (vb) (vo) (v) := (Sets.others hC6 (Fe.alloc hv _) (by omega))
  replace hi : Fe w6 (ib) (io) (iN) := (Sets.others hC6 (Fe.alloc hi _) (by omega))
  replace h20 : Fe w6 (w.heap.size + 1) (0) (R1) := (Sets.others hC6 (Fe.alloc h20 _) (by omega))
  replace h23 : Fe w6 (w1.heap.size) (0) (R3) := (Sets.others hC6 (Fe.alloc h23 _) (by omega))
  replace h30 : Fe w6 (w3.heap.size) (0) (R5) := (Sets.others hC6 (Fe.alloc h30 _) (by omega))
  replace h36 : Fe w6 (w5.heap.size) (0) (0) := (Sets.others hC6 (Fe.newz_at _ _ rfl) (by omega))
  replace h19 : Fe w6 (w.heap.size) (0) (R6) := (Sets.fe' hC6 (Fe.alloc h19 _))
  have hBw6 : Hid (Below w.heap.size w w6) := Lib.hid ((below_alloc hBw5.out _).trans (hC6.below (by omega) (below_alloc hBw5.out _).size))
  clear hC6
  go_wp2_with fail
  obtain ⟨R7, qR7⟩ : ∃ uu : Nat, uu = R3 * R6 % pF := ⟨_, rfl⟩
  have HR7 := Lib.hid qR7; clear qR7
  refine (mul_fe (w5.heap.size) (0) (w1.heap.size) (0) (w.heap.size) (0) _ _ _ _ h36 h23 h19 R7 HR7).mono ?_
  rintro e w7 ⟨rfl, hC7⟩
  have hs7 : w6.heap.size ≤ w7.heap.size := by have := hC7.size; (try simp only [alloc_size, setRow_size] at this); omega
  replace hr : Fe w7 (rb) (ro) (r0) := (Sets.others hC7 hr (by omega))
  replace hu : Fe w7 (ub) (uo) (u) := (Sets.others hC7 hu (by omega))
  replace hv : Fe w7 (vb) (vo) (v) := (Sets.others hC7 hv (by omega))
  replace hi : Fe w7 (ib) (io) (iN) := (Sets.others hC7 hi (by omega))
  replace h20 : Fe w7 (w.heap.size + 1) (0) (R1) := (Sets.others hC7 h20 (by omega))
  replace h23 : Fe w7 (w1.heap.size) (0) (R3) := (Sets.others hC7 h23 (by omega))
  replace h30 : Fe w7 (w3.heap.size) (0) (R5) := (Sets.others hC7 h30 (by omega))
  replace h19 : Fe w7 (w.heap.size) (0) (R6) := (Sets.others hC7 h19 (by omega))
  replace h36 : Fe w7 (w5.heap.size) (0) (R7) := (Sets.fe' hC7 h36)
  have hBw7 : Hid (Below w.heap.size w w7) := Lib.hid (hBw6.out.trans (hC7.below (by omega) hBw6.out.size))
  clear hC7
  go_wp2_with fail
  obtain ⟨R8, qR8⟩ : ∃ uu : Nat, uu = R7 * R7 % pF := ⟨_, rfl⟩
  have HR8 := Lib.hid qR8; clear qR8
  refine (square_fe (w.heap.size) (0) (w5.heap.size) (0) _ _ _ (Fe.alloc h19 _) (Fe.alloc h36 _) R8 HR8).mono ?_
  rintro e w8 ⟨rfl, hC8⟩
  have hs8 : w7.heap.size + 1 ≤ w8.heap.size := by have := hC8.size; (try simp only [alloc_size, setRow_size] at this); omega
  replace hr : Fe w8 (rb) (ro) (r0) := (Sets.others hC8 (Fe.alloc hr _) (by omega))
  replace hu : Fe w8 (ub) (uo) (u) := (Sets.others hC8 (Fe.alloc hu _) (by omega))
  replace hv : Fe w8 (vb) (vo) (v) := (Sets.others hC8 (Fe.alloc hv _) (by omega))
  replace hi : Fe w8 (ib) (io) (iN) := (Sets.others hC8 (Fe.alloc hi _) (by omega))
  replace h20 : Fe w8 (w.heap.size + 1) (0) (R1) := (Sets.others hC8 (Fe.alloc h20 _) (by omega))
  replace h23 : Fe w8 (w1.heap.size) (0) (R3) := (Sets.others hC8 (Fe.alloc h23 _) (by omega))
  replace h30 : Fe w8 (w3.heap.size) (0) (R5) := (Sets.others hC8 (Fe.alloc h30 _) (by omega))
  replace h36 : Fe w8 (w5.heap.size) (0) (R7) := (Sets.others hC8 (Fe.alloc h36 _) (by omega))
  replace h42 : Fe w8 (w7.heap.size) (0) (0) := (Sets.others hC8 (Fe.newz_at _ _ rfl) (by omega))
  replace h19 : Fe w8 (w.heap.size) (0) (R8) := (Sets.fe' hC8 (Fe.alloc h19 _))
  have hBw8 : Hid (Below w.heap.size w w8) := Lib.hid ((below_alloc hBw7.out _).trans (hC8.below (by omega) (below_alloc hBw7.out _).size))
  clear hC8
  go_wp2_with fail
  obtain ⟨R9, qR9⟩ : ∃ uu : Nat, uu = v * R8 % pF := ⟨_, rfl⟩
  have HR9 := Lib.hid qR9; clear qR9
  refine (mul_fe (w7.heap.size) (0) (vb) (vo) (w.heap.size) (0) _ _ _ _ h42 hv h19 R9 HR9).mono ?_
  rintro e w9 ⟨rfl, hC9⟩
  have hs9 : w8.heap.size ≤ w9.heap.size := by have := hC9.size; (try simp only [alloc_size, setRow_size] at this); omega
  replace hr : Fe w9 (rb) (ro) (r0) := (Sets.others hC9 hr (by omega))
  replace hu : Fe w9 (ub) (uo) (u) := (Sets.others hC9 hu (by omega))
  replace hv : Fe w9 (vb) (vo) (v) := (Sets.others hC9 hv (by omega))
  replace hi : Fe w9 (ib) (io) (iN) := (Sets.others hC9 hi (by omega))
  replace h20 : Fe w9 (w.heap.size + 1) (0) (R1) := (Sets.others hC9 h20 (by omega))
  replace h23 : Fe w9 (w1.heap.size) (0) (R3) := (Sets.others hC9 h23 (by omega))
  replace h30 : Fe w9 (w3.heap.size) (0) (R5) := (Sets.others hC9 h30 (by omega))
  replace h36 : Fe w9 (w5.heap.size) (0) (R7) := (Sets.others hC9 h36 (by omega))
  replace h19 : Fe w9 (w.heap.size) (0) (R8) := (Sets.others hC9 h19 (by omega))
  replace h42 : Fe w9 (w7.heap.size) (0) (R9) := (Sets.fe' hC9 h42)
  have hBw9 : Hid (Below w.heap.size w w9) := Lib.hid (hBw8.out.trans (hC9.below (by omega) hBw8.out.size))
  clear hC9
  go_wp2_with fail
  obtain ⟨R10, qR10⟩ : ∃ uu : Nat, uu = (pF - u) % pF := ⟨_, rfl⟩
  have HR10 := Lib.hid qR10; clear qR10
  refine (neg_fe (w9.heap.size) (0) (ub) (uo) _ _ B _ (hD0.later (below_alloc hBw9.out _)) (by omega) (Fe.newz_at _ _ rfl) (Fe.alloc hu _) (apart_blk _ _ _ _ (by omega)) R10 HR10).mono ?_
  rintro e w10 ⟨rfl, hC10⟩
  have hs10 : w9.heap.size + 1 ≤ w10.heap.size := by have := hC10.size; (try simp only [alloc_size, setRow_size] at this); omega
  replace hr : Fe w10 (rb) (ro) (r0) := (Sets.others hC10 (Fe.alloc hr _) (by omega))
  replace hu : Fe w10 (ub) (uo) (u) := (Sets.others hC10 (Fe.alloc hu _) (by omega))
  replace hv : Fe w10 (vb) (vo) (v) := (Sets.others hC10 (Fe.alloc hv _) (by omega))
  replace hi : Fe w10 (ib) (io) (iN) := (Sets.others hC10 (Fe.alloc hi _) (by omega))
  replace h20 : Fe w10 (w.heap.size + 1) (0) (R1) := (Sets.others hC10 (Fe.alloc h20 _) (by omega))
  replace h23 : Fe w10 (w1.heap.size) (0) (R3) := (Sets.others hC10 (Fe.alloc h23 _) (by omega))
  replace h30 : Fe w10 (w3.heap.size) (0) (R5) := (Sets.others hC10 (Fe.alloc h30 _) (by omega))
  replace h36 : Fe w10 (w5.heap.size) (0) (R7) := (Sets.others hC10 (Fe.alloc h36 _) (by omega))
  replace h19 : Fe w10 (w.heap.size) (0) (R8) := (Sets.others hC10 (Fe.alloc h19 _) (by omega))
  replace h42 : Fe w10 (w7.heap.size) (0) (R9) := (Sets.others hC10 (Fe.alloc h42 _) (by omega))
  replace h48 : Fe w10 (w9.heap.size) (0) (R10) := (Sets.fe' hC10 (Fe.newz_at _ _ rfl))
  have hBw10 : Hid (Below w.heap.size w w10) := Lib.hid ((below_alloc hBw9.out _).trans (hC10.below (by omega) (below_alloc hBw9.out _).size))
  clear hC10
  obtain ⟨Z1, q1⟩ : ∃ Z : Int, Hid (Z = if R9 = u then 1 else 0) := ⟨_, rfl⟩
  obtain ⟨Z2, q2⟩ : ∃ Z : Int, Hid (Z = if R9 = R10 then 1 else 0) := ⟨_, rfl⟩
  obtain ⟨Z3, q3⟩ : ∃ Z : Int, Hid (Z = if R9 = R10 * iN % pF then 1 else 0) := ⟨_, rfl⟩
  have K1 := HR1
  have K2 := HR2
  have K3 := HR3
  have K4 := HR4
  have K5 := HR5
  have K6 := HR6
  have K7 := HR7
  have K8 := HR8
  have K9 := HR9
  have K10 := HR10
  have hc : R9 = sqC u v := by
      simp only [HR10.out, HR9.out, HR8.out, HR7.out, HR6.out, HR5.out, HR4.out, HR3.out, HR2.out, HR1.out]; rfl
  have hrr : R7 = sqRR u v := by
      simp only [HR10.out, HR9.out, HR8.out, HR7.out, HR6.out, HR5.out, HR4.out, HR3.out, HR2.out, HR1.out]; rfl
  have hun : R10 = (pF - u) % pF := HR10.out
  have hW1 := Lib.hid (zor1 u v _ _ _ hc hun q1.out q2.out hZW.out)
  have hW2 := Lib.hid (zor2 u v _ _ _ hc hun q2.out q3.out hCC.out)
  have Hrr := Lib.hid hrr; clear hc hrr hun
  have o1 := hW1.out; have o2 := hW2.out
  go_wp2_with fail
  refine (Equal_any (w7.heap.size) (0) (ub) (uo) _ _ _ h42 hu Z1 (by exact q1)).mono ?_
  rintro e w11 ⟨rfl, hC11⟩
  have hs11 : w10.heap.size ≤ w11.heap.size := by have := hC11.size; (try simp only [alloc_size, setRow_size] at this); omega
  replace hr : Fe w11 (rb) (ro) (r0) := (Fe.below_all hr hC11)
  replace hu : Fe w11 (ub) (uo) (u) := (Fe.below_all hu hC11)
  replace hv : Fe w11 (vb) (vo) (v) := (Fe.below_all hv hC11)
  replace hi : Fe w11 (ib) (io) (iN) := (Fe.below_all hi hC11)
  replace h20 : Fe w11 (w.heap.size + 1) (0) (R1) := (Fe.below_all h20 hC11)
  replace h23 : Fe w11 (w1.heap.size) (0) (R3) := (Fe.below_all h23 hC11)
  replace h30 : Fe w11 (w3.heap.size) (0) (R5) := (Fe.below_all h30 hC11)
  replace h36 : Fe w11 (w5.heap.size) (0) (R7) := (Fe.below_all h36 hC11)
  replace h19 : Fe w11 (w.heap.size) (0) (R8) := (Fe.below_all h19 hC11)
  replace h42 : Fe w11 (w7.heap.size) (0) (R9) := (Fe.below_all h42 hC11)
  replace h48 : Fe w11 (w9.heap.size) (0) (R10) := (Fe.below_all h48 hC11)
  have hBw11 : Hid (Below w.heap.size w w11) := Lib.hid (below_call hBw10.out hC11)
  clear hC11
  go_wp2_with fail
  refine (Equal_any (w7.heap.size) (0) (w9.heap.size) (0) _ _ _ h42 h48 Z2 (by exact q2)).mono ?_
  rintro e w12 ⟨rfl, hC12⟩
  have hs12 : w11.heap.size ≤ w12.heap.size := by have := hC12.size; (try simp only [alloc_size, setRow_size] at this); omega
  replace hr : Fe w12 (rb) (ro) (r0) := (Fe.below_all hr hC12)
  replace hu : Fe w12 (ub) (uo) (u) := (Fe.below_all hu hC12)
  replace hv : Fe w12 (vb) (vo) (v) := (Fe.below_all hv hC12)
  replace hi : Fe w12 (ib) (io) (iN) := (Fe.below_all hi hC12)
  replace h20 : Fe w12 (w.heap.size + 1) (0) (R1) := (Fe.below_all h20 hC12)
  replace h23 : Fe w12 (w1.heap.size) (0) (R3) := (Fe.below_all h23 hC12)
  replace h30 : Fe w12 (w3.heap.size) (0) (R5) := (Fe.below_all h30 hC12)
  replace h36 : Fe w12 (w5.heap.size) (0) (R7) := (Fe.below_all h36 hC12)
  replace h19 : Fe w12 (w.heap.size) (0) (R8) := (Fe.below_all h19 hC12)
  replace h42 : Fe w12 (w7.heap.size) (0) (R9) := (Fe.below_all h42 hC12)
  replace h48 : Fe w12 (w9.heap.size) (0) (R10) := (Fe.below_all h48 hC12)
  have hBw12 : Hid (Below w.heap.size w w12) := Lib.hid (below_call hBw11.out hC12)
  clear hC12
  have hci := ((hBw12.out).cell (p := ⟨0, 0, none⟩) hgl).trans hcell
  have HRx : Hid (Z3 = if R9 = R10 * iN % pF then 1 else 0) := q3
  go_wp2_with fail
  obtain ⟨R11, qR11⟩ : ∃ uu : Nat, uu = R10 * iN % pF := ⟨_, rfl⟩
  have HR11 := Lib.hid qR11; clear qR11
  refine (mul_fe (w.heap.size) (0) (w9.heap.size) (0) (ib) (io) _ _ _ _ h19 h48 hi R11 HR11).mono ?_
  rintro e w13 ⟨rfl, hC13⟩
  have hs13 : w12.heap.size ≤ w13.heap.size := by have := hC13.size; (try simp only [alloc_size, setRow_size] at this); omega
  replace hr : Fe w13 (rb) (ro) (r0) := (Sets.others hC13 hr (by omega))
  replace hu : Fe w13 (ub) (uo) (u) := (Sets.others hC13 hu (by omega))
  replace hv : Fe w13 (vb) (vo) (v) := (Sets.others hC13 hv (by omega))
  replace hi : Fe w13 (ib) (io) (iN) := (Sets.others hC13 hi (by omega))
  replace h20 : Fe w13 (w.heap.size + 1) (0) (R1) := (Sets.others hC13 h20 (by omega))
  replace h23 : Fe w13 (w1.heap.size) (0) (R3) := (Sets.others hC13 h23 (by omega))
  replace h30 : Fe w13 (w3.heap.size) (0) (R5) := (Sets.others hC13 h30 (by omega))
  replace h36 : Fe w13 (w5.heap.size) (0) (R7) := (Sets.others hC13 h36 (by omega))
  replace h42 : Fe w13 (w7.heap.size) (0) (R9) := (Sets.others hC13 h42 (by omega))
  replace h48 : Fe w13 (w9.heap.size) (0) (R10) := (Sets.others hC13 h48 (by omega))
  replace h19 : Fe w13 (w.heap.size) (0) (R11) := (Sets.fe' hC13 h19)
  have hBw13 : Hid (Below w.heap.size w w13) := Lib.hid (hBw12.out.trans (hC13.below (by omega) hBw12.out.size))
  clear hC13
  go_wp2_with fail
  refine (Equal_any (w7.heap.size) (0) (w.heap.size) (0) _ _ _ h42 h19 Z3 (Lib.hid (by rw [HR11.out]; exact q3.out))).mono ?_
  rintro e w14 ⟨rfl, hC14⟩
  have hs14 : w13.heap.size ≤ w14.heap.size := by have := hC14.size; (try simp only [alloc_size, setRow_size] at this); omega
  replace hr : Fe w14 (rb) (ro) (r0) := (Fe.below_all hr hC14)
  replace hu : Fe w14 (ub) (uo) (u) := (Fe.below_all hu hC14)
  replace hv : Fe w14 (vb) (vo) (v) := (Fe.below_all hv hC14)
  replace hi : Fe w14 (ib) (io) (iN) := (Fe.below_all hi hC14)
  replace h20 : Fe w14 (w.heap.size + 1) (0) (R1) := (Fe.below_all h20 hC14)
  replace h23 : Fe w14 (w1.heap.size) (0) (R3) := (Fe.below_all h23 hC14)
  replace h30 : Fe w14 (w3.heap.size) (0) (R5) := (Fe.below_all h30 hC14)
  replace h36 : Fe w14 (w5.heap.size) (0) (R7) := (Fe.below_all h36 hC14)
  replace h42 : Fe w14 (w7.heap.size) (0) (R9) := (Fe.below_all h42 hC14)
  replace h48 : Fe w14 (w9.heap.size) (0) (R10) := (Fe.below_all h48 hC14)
  replace h19 : Fe w14 (w.heap.size) (0) (R11) := (Fe.below_all h19 hC14)
  have hBw14 : Hid (Below w.heap.size w w14) := Lib.hid (below_call hBw13.out hC14)
  clear hC14
  have hci : (w14.alloc (.cells #[.int .u64 0, .int .u64 0, .int .u64 0, .int .u64 0, .int .u64 0] 60)).cell? ⟨0, 0, none⟩ = some (.pointer (some ⟨ib, io, none⟩)) := ((below_alloc hBw14.out _).cell (p := ⟨0, 0, none⟩) hgl).trans hcell
  go_wp2_with fail
  obtain ⟨R12, qR12⟩ : ∃ uu : Nat, uu = R7 * iN % pF := ⟨_, rfl⟩
  have HR12 := Lib.hid qR12; clear qR12
  refine (mul_fe (w14.heap.size) (0) (w5.heap.size) (0) (ib) (io) _ _ _ _ (Fe.newz_at _ _ rfl) (Fe.alloc h36 _) (Fe.alloc hi _) R12 HR12).mono ?_
  rintro e w15 ⟨rfl, hC15⟩
  have hs15 : w14.heap.size + 1 ≤ w15.heap.size := by have := hC15.size; (try simp only [alloc_size, setRow_size] at this); omega
  replace hr : Fe w15 (rb) (ro) (r0) := (Sets.others hC15 (Fe.alloc hr _) (by omega))
  replace hu : Fe w15 (ub) (uo) (u) := (Sets.others hC15 (Fe.alloc hu _) (by omega))
  replace hv : Fe w15 (vb) (vo) (v) := (Sets.others hC15 (Fe.alloc hv _) (by omega))
  replace hi : Fe w15 (ib) (io) (iN) := (Sets.others hC15 (Fe.alloc hi _) (by omega))
  replace h20 : Fe w15 (w.heap.size + 1) (0) (R1) := (Sets.others hC15 (Fe.alloc h20 _) (by omega))
  replace h23 : Fe w15 (w1.heap.size) (0) (R3) := (Sets.others hC15 (Fe.alloc h23 _) (by omega))
  replace h30 : Fe w15 (w3.heap.size) (0) (R5) := (Sets.others hC15 (Fe.alloc h30 _) (by omega))
  replace h36 : Fe w15 (w5.heap.size) (0) (R7) := (Sets.others hC15 (Fe.alloc h36 _) (by omega))
  replace h42 : Fe w15 (w7.heap.size) (0) (R9) := (Sets.others hC15 (Fe.alloc h42 _) (by omega))
  replace h48 : Fe w15 (w9.heap.size) (0) (R10) := (Sets.others hC15 (Fe.alloc h48 _) (by omega))
  replace h19 : Fe w15 (w.heap.size) (0) (R11) := (Sets.others hC15 (Fe.alloc h19 _) (by omega))
  replace h63 : Fe w15 (w14.heap.size) (0) (R12) := (Sets.fe' hC15 (Fe.newz_at _ _ rfl))
  have hBw15 : Hid (Below w.heap.size w w15) := Lib.hid ((below_alloc hBw14.out _).trans (hC15.below (by omega) (below_alloc hBw14.out _).size))
  clear hC15
  go_wp2_with fail
  refine (select_fe1 (w5.heap.size) (0) (w14.heap.size) (0) (w5.heap.size) (0) _ _ _ (apart_blk _ _ _ _ (by omega)) (Or.inl ⟨rfl, rfl⟩) _ h36 h63 h36).mono ?_
  rintro e w16 ⟨rfl, hC16⟩
  have hs16 : w15.heap.size ≤ w16.heap.size := by have := hC16.size; (try simp only [alloc_size, setRow_size] at this); omega
  replace hr : Fe w16 (rb) (ro) (r0) := (Sets.others hC16 hr (by omega))
  replace hu : Fe w16 (ub) (uo) (u) := (Sets.others hC16 hu (by omega))
  replace hv : Fe w16 (vb) (vo) (v) := (Sets.others hC16 hv (by omega))
  replace hi : Fe w16 (ib) (io) (iN) := (Sets.others hC16 hi (by omega))
  replace h20 : Fe w16 (w.heap.size + 1) (0) (R1) := (Sets.others hC16 h20 (by omega))
  replace h23 : Fe w16 (w1.heap.size) (0) (R3) := (Sets.others hC16 h23 (by omega))
  replace h30 : Fe w16 (w3.heap.size) (0) (R5) := (Sets.others hC16 h30 (by omega))
  replace h42 : Fe w16 (w7.heap.size) (0) (R9) := (Sets.others hC16 h42 (by omega))
  replace h48 : Fe w16 (w9.heap.size) (0) (R10) := (Sets.others hC16 h48 (by omega))
  replace h19 : Fe w16 (w.heap.size) (0) (R11) := (Sets.others hC16 h19 (by omega))
  replace h63 : Fe w16 (w14.heap.size) (0) (R12) := (Sets.others hC16 h63 (by omega))
  replace h36 : Fe w16 (w5.heap.size) (0) (R12) := (Sets.fe' hC16 h36)
  have hBw16 : Hid (Below w.heap.size w w16) := Lib.hid (hBw15.out.trans (hC16.below (by omega) hBw15.out.size))
  clear hC16
  have HF : Hid (Rf = absN R12) := Lib.hid (by rw [hRf.out]; unfold sqR; rw [hSB.out]; simp only [if_true, if_false, Bool.false_eq_true, ↓reduceIte]; rw [← Hrr.out]; rw [HR12.out])
  go_wp2_with fail
  refine (absolute_fe rb ro (w5.heap.size) (0) _ _ B (apart_blk _ _ _ _ (by omega)) _ (hD0.later hBw16.out) hr h36 Rf HF).mono ?_
  rintro e w17 ⟨rfl, hC17⟩
  go_wp2
  go_ret2
  exact ⟨rfl, Sets.ahead hBw16.out hC17 hvl⟩
theorem sqrt_fe (rb ro ub uo vb vo u v r0 B : Nat) (w : World) (hD0 : Var 1 z5 B w) (hD1 : Var 0 i5 B w) (hr : Fe w rb ro r0) (hu : Fe w ub uo u) (hv : Fe w vb vo v) (R : Nat) (hR : Hid (R = sqR u v)) (Z : Int) (hZ : Hid (Z = if sqW u v then 1 else 0)) :
    Calls Tryd.prog 61 #[.pointer (some ⟨rb, ro, none⟩), .pointer (some ⟨ub, uo, none⟩), .pointer (some ⟨vb, vo, none⟩)] w fun e w' => e = .returned (.tuple #[.pointer (some ⟨rb, ro, none⟩), .int .i64 Z]) ∧ Sets w w' rb ro R := by
  cases h : sqB u v
  · exact sqrt_raw0 rb ro ub uo vb vo u v r0 B R Z hR hZ (Lib.hid h) w hD0 hD1 hr hu hv
  · exact sqrt_raw1 rb ro ub uo vb vo u v r0 B R Z hR hZ (Lib.hid h) w hD0 hD1 hr hu hv
end

end Go.Proofs.YtcenlinpbpbpoaaDoor
