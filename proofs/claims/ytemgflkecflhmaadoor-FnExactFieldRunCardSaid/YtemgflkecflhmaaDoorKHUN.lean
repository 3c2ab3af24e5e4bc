/- The field's square, n times. -/
import Derived.LoopTactic
import Derived.Test.YtemgflkecflhmaaDoorKL0
import Derived.Test.YtemgflkecflhmaaDoorKL2
set_option maxRecDepth 4000
set_option linter.unusedSimpArgs false
set_option linter.unusedVariables false
namespace Go.Proofs.YtemgflkecflhmaaDoor
open Go.RowKit

set_option maxRecDepth 100000 in
set_option maxHeartbeats 8000000 in
theorem feSquareN_raw (vb vo ab ao x n x0 x1 x2 x3 x4 : Nat) (vs : Nat → Value) (ba0 : x0 ≤ 2252074691592191) (ba1 : x1 ≤ 2252074691592191) (ba2 : x2 ≤ 2252074691592191) (ba3 : x3 ≤ 2252074691592191) (ba4 : x4 ≤ 2252074691592191) (hn : n ≤ 4611686018427387904) (hx : Hid (val5 ⟨x0, x1, x2, x3, x4⟩ % pF = xp x (2 ^ 0))) (w : World) (hv : Row w vb vo 5 vs) (ha0 : w.cell? ⟨ab, ao, none⟩ = some (.int .u64 (x0 : Int))) (ha1 : w.cell? ⟨ab, ao + 1, none⟩ = some (.int .u64 (x1 : Int))) (ha2 : w.cell? ⟨ab, ao + 2, none⟩ = some (.int .u64 (x2 : Int))) (ha3 : w.cell? ⟨ab, ao + 3, none⟩ = some (.int .u64 (x3 : Int))) (ha4 : w.cell? ⟨ab, ao + 4, none⟩ = some (.int .u64 (x4 : Int))) :
    Calls Tryd.prog 56 #[.pointer (some ⟨vb, vo, none⟩), .pointer (some ⟨ab, ao, none⟩), .int .i64 (n : Int)] w fun e w' => e = .returned (.tuple #[]) ∧ Sets w w' vb vo (xp x (2 ^ n)) := by
  have hvl := hv.lt
  have HV := Lib.hid hv; clear hv
  go_enter Tryd.func56, Tryd.ntmps56
  go_wp2
  go_loopw [6, 7, 8, 9, 10, 47] (fun s0 s1 s2 s3 s4 i wr => ∃ (k a0 a1 a2 a3 a4 : Nat), k ≤ n ∧ i = .int .i64 (k : Int) ∧ s0 = .int .u64 (a0 : Int) ∧ s1 = .int .u64 (a1 : Int) ∧ s2 = .int .u64 (a2 : Int) ∧ s3 = .int .u64 (a3 : Int) ∧ s4 = .int .u64 (a4 : Int) ∧ a0 ≤ 2252074691592191 ∧ a1 ≤ 2252074691592191 ∧ a2 ≤ 2252074691592191 ∧ a3 ≤ 2252074691592191 ∧ a4 ≤ 2252074691592191 ∧ Hid (val5 ⟨a0, a1, a2, a3, a4⟩ % pF = xp x (2 ^ k)) ∧ Hid (Row wr vb vo 5 vs) ∧ Hid (Below w.heap.size w wr)) (fun _ _ _ _ _ i _ => n - (intOf i).toNat)
  case atStart =>
    exact ⟨0, x0, x1, x2, x3, x4, by omega, rfl, rfl, rfl, rfl, rfl, rfl, ba0, ba1, ba2, ba3, ba4, hx, Lib.hid HV.out, Lib.hid (Below.refl _ w)⟩
  case round =>
    obtain ⟨k, a0, a1, a2, a3, a4, hk, rfl, rfl, rfl, rfl, rfl, rfl, ca0, ca1, ca2, ca3, ca4, HX, HV2, HB⟩ := hrel
    replace ba0 := ca0; clear ca0
    replace ba1 := ca1; clear ca1
    replace ba2 := ca2; clear ca2
    replace ba3 := ca3; clear ca3
    replace ba4 := ca4; clear ca4
    by_cases hlt : k < n
    · skip
      have hv := HV2.out; clear HV2
      have hsr : w.heap.size ≤ wr.heap.size := HB.out.size
      obtain ⟨d0, qd0⟩ : ∃ u : Nat, Hid (u = a0 * 2) := ⟨_, rfl⟩
      obtain ⟨d1, qd1⟩ : ∃ u : Nat, Hid (u = a1 * 2) := ⟨_, rfl⟩
      have bd0 : d0 ≤ 4504149383184382 := by have := qd0.out; omega
      have bd1 : d1 ≤ 4504149383184382 := by have := qd1.out; omega
      go_wp2_with fail
      obtain ⟨V0, qV0⟩ : ∃ u : Nat, u = a0 * a0 := ⟨_, rfl⟩
      have bV0 : V0 ≤ 5071840416510062208026652180481 := by have := Nat.mul_le_mul ba0 ba0; omega
      have HV0 := Lib.hid qV0; clear qV0
      refine (mul_any a0 a0 V0 (by omega) (by omega) HV0 _).mono ?_
      rintro e w1 ⟨rfl, hC1⟩
      have hs1 : wr.heap.size ≤ w1.heap.size := by have := hC1.size; (try simp only [alloc_size, setRow_size] at this); omega
      replace hv : Row w1 (vb) (vo) 5 (vs) := (Row.below_all hv hC1)
      have hBw1 : Hid (Below w.heap.size w w1) := Lib.hid (below_call HB.out hC1)
      clear hC1
      go_wp2_with (first
        | ((with_reducible refine at_store 11 ?_); refine wpList_store_row rfl 100 _ _ rfl (w1.heap.size) (uC V0) rfl rfl 100 (zU) (heap_new_at _ _ _ rfl) (infoU_of (uC V0) (uC_size _)) (zU_size.trans (uC_size _).symm) (uC_one _) ?_)
        | ((with_reducible refine at_dst 52 ?_); refine wpList_load_row rfl 100 _ rfl (w1.heap.size) rfl 100 (uC V0) (0, 0) _ (setRow_heap _ _ _ _ _ _ (heap_new_at _ _ _ rfl)) Tryd.underlying100 rfl (infoU_of (uC V0) (uC_size _)) ?_))
      obtain ⟨V1, qV1⟩ : ∃ u : Nat, u = V0 + 38 * (a1 * a4) := ⟨_, rfl⟩
      have bV1 : V1 ≤ 197801776243892426113039435038759 := by have := Nat.mul_le_mul ba1 ba4; omega
      have HV1 := Lib.hid qV1; clear qV1
      refine (addMul38_any V0 a1 a4 V1 (by omega) (by omega) HV1 (by omega) _).mono ?_
      rintro e w2 ⟨rfl, hC2⟩
      have hs2 : w1.heap.size + 1 ≤ w2.heap.size := by have := hC2.size; (try simp only [alloc_size, setRow_size] at this); omega
      replace hv : Row w2 (vb) (vo) 5 (vs) := (Row.below_all (Row.keep (Row.alloc hv _) (setRow_other _ _ _ _ (by omega))) hC2)
      replace h11 : w2.heap[w1.heap.size]? = some (.cells (uC V0) 100 (0, 0)) := (heap_call hC2 (setRow_heap _ _ _ _ _ _ (heap_new_at _ _ _ rfl)))
      have hBw2 : Hid (Below w.heap.size w w2) := Lib.hid (below_call (below_setRow (below_alloc hBw1.out _) (by omega) _) hC2)
      clear hC2
      go_wp2_with (first
        | ((with_reducible refine at_store 11 ?_); refine wpList_store_row rfl 100 _ _ rfl (w1.heap.size) (uC V1) rfl rfl 100 (uC V0) h11 (infoU_of (uC V1) (uC_size _)) ((uC_size _).trans (uC_size _).symm) (uC_one _) ?_)
        | ((with_reducible refine at_dst 56 ?_); refine wpList_load_row rfl 100 _ rfl (w1.heap.size) rfl 100 (uC V1) (0, 0) _ (setRow_heap _ _ _ _ _ _ h11) Tryd.underlying100 rfl (infoU_of (uC V1) (uC_size _)) ?_))
      obtain ⟨V2, qV2⟩ : ∃ u : Nat, u = V1 + 38 * (a2 * a3) := ⟨_, rfl⟩
      have bV2 : V2 ≤ 390531712071274790018052217897037 := by have := Nat.mul_le_mul ba2 ba3; omega
      have HV2 := Lib.hid qV2; clear qV2
      refine (addMul38_any V1 a2 a3 V2 (by omega) (by omega) HV2 (by omega) _).mono ?_
      rintro e w3 ⟨rfl, hC3⟩
      have hs3 : w2.heap.size ≤ w3.heap.size := by have := hC3.size; (try simp only [alloc_size, setRow_size] at this); omega
      replace hv : Row w3 (vb) (vo) 5 (vs) := (Row.below_all (Row.keep hv (setRow_other _ _ _ _ (by omega))) hC3)
      replace h11 : w3.heap[w1.heap.size]? = some (.cells (uC V1) 100 (0, 0)) := (heap_call hC3 (setRow_heap _ _ _ _ _ _ h11))
      have hBw3 : Hid (Below w.heap.size w w3) := Lib.hid (below_call (below_setRow hBw2.out (by omega) _) hC3)
      clear hC3
      go_wp2_with (first
        | ((with_reducible refine at_store 11 ?_); refine wpList_store_row rfl 100 _ _ rfl (w1.heap.size) (uC V2) rfl rfl 100 (uC V1) h11 (infoU_of (uC V2) (uC_size _)) ((uC_size _).trans (uC_size _).symm) (uC_one _) ?_))
      obtain ⟨V3, qV3⟩ : ∃ u : Nat, u = d0 * a1 := ⟨_, rfl⟩
      have bV3 : V3 ≤ 10143680833020124416053304360962 := by have := Nat.mul_le_mul bd0 ba1; omega
      have HV3 := Lib.hid qV3; clear qV3
      rw [show (a0 : Int) * 2 = (d0 : Int) by have := qd0.out; omega]
      refine (mul_any d0 a1 V3 (by omega) (by omega) HV3 _).mono ?_
      rintro e w4 ⟨rfl, hC4⟩
      have hs4 : w3.heap.size ≤ w4.heap.size := by have := hC4.size; (try simp only [alloc_size, setRow_size] at this); omega
      replace hv : Row w4 (vb) (vo) 5 (vs) := (Row.below_all (Row.keep hv (setRow_other _ _ _ _ (by omega))) hC4)
      replace h11 : w4.heap[w1.heap.size]? = some (.cells (uC V2) 100 (0, 0)) := (heap_call hC4 (setRow_heap _ _ _ _ _ _ h11))
      have hBw4 : Hid (Below w.heap.size w w4) := Lib.hid (below_call (below_setRow hBw3.out (by omega) _) hC4)
      clear hC4
      go_wp2_with (first
        | ((with_reducible refine at_store 12 ?_); refine wpList_store_row rfl 100 _ _ rfl (w4.heap.size) (uC V3) rfl rfl 100 (zU) (heap_new_at _ _ _ rfl) (infoU_of (uC V3) (uC_size _)) (zU_size.trans (uC_size _).symm) (uC_one _) ?_)
        | ((with_reducible refine at_dst 64 ?_); refine wpList_load_row rfl 100 _ rfl (w4.heap.size) rfl 100 (uC V3) (0, 0) _ (setRow_heap _ _ _ _ _ _ (heap_new_at _ _ _ rfl)) Tryd.underlying100 rfl (infoU_of (uC V3) (uC_size _)) ?_))
      obtain ⟨V4, qV4⟩ : ∃ u : Nat, u = V3 + 38 * (a2 * a4) := ⟨_, rfl⟩
      have bV4 : V4 ≤ 202873616660402488321066087219240 := by have := Nat.mul_le_mul ba2 ba4; omega
      have HV4 := Lib.hid qV4; clear qV4
      refine (addMul38_any V3 a2 a4 V4 (by omega) (by omega) HV4 (by omega) _).mono ?_
      rintro e w5 ⟨rfl, hC5⟩
      have hs5 : w4.heap.size + 1 ≤ w5.heap.size := by have := hC5.size; (try simp only [alloc_size, setRow_size] at this); omega
      replace hv : Row w5 (vb) (vo) 5 (vs) := (Row.below_all (Row.keep (Row.alloc hv _) (setRow_other _ _ _ _ (by omega))) hC5)
      replace h11 : w5.heap[w1.heap.size]? = some (.cells (uC V2) 100 (0, 0)) := (heap_call hC5 (heap_row _ (by omega) (heap_old _ h11)))
      replace h12 : w5.heap[w4.heap.size]? = some (.cells (uC V3) 100 (0, 0)) := (heap_call hC5 (setRow_heap _ _ _ _ _ _ (heap_new_at _ _ _ rfl)))
      have hBw5 : Hid (Below w.heap.size w w5) := Lib.hid (below_call (below_setRow (below_alloc hBw4.out _) (by omega) _) hC5)
      clear hC5
      go_wp2_with (first
        | ((with_reducible refine at_store 12 ?_); refine wpList_store_row rfl 100 _ _ rfl (w4.heap.size) (uC V4) rfl rfl 100 (uC V3) h12 (infoU_of (uC V4) (uC_size _)) ((uC_size _).trans (uC_size _).symm) (uC_one _) ?_)
        | ((with_reducible refine at_dst 68 ?_); refine wpList_load_row rfl 100 _ rfl (w4.heap.size) rfl 100 (uC V4) (0, 0) _ (setRow_heap _ _ _ _ _ _ h12) Tryd.underlying100 rfl (infoU_of (uC V4) (uC_size _)) ?_))
      obtain ⟨V5, qV5⟩ : ∃ u : Nat, u = V4 + 19 * (a3 * a3) := ⟨_, rfl⟩
      have bV5 : V5 ≤ 299238584574093670273572478648379 := by have := Nat.mul_le_mul ba3 ba3; omega
      have HV5 := Lib.hid qV5; clear qV5
      refine (addMul19_any V4 a3 a3 V5 (by omega) (by omega) HV5 (by omega) _).mono ?_
      rintro e w6 ⟨rfl, hC6⟩
      have hs6 : w5.heap.size ≤ w6.heap.size := by have := hC6.size; (try simp only [alloc_size, setRow_size] at this); omega
      replace hv : Row w6 (vb) (vo) 5 (vs) := (Row.below_all (Row.keep hv (setRow_other _ _ _ _ (by omega))) hC6)
      replace h11 : w6.heap[w1.heap.size]? = some (.cells (uC V2) 100 (0, 0)) := (heap_call hC6 (heap_row _ (by omega) h11))
      replace h12 : w6.heap[w4.heap.size]? = some (.cells (uC V4) 100 (0, 0)) := (heap_call hC6 (setRow_heap _ _ _ _ _ _ h12))
      have hBw6 : Hid (Below w.heap.size w w6) := Lib.hid (below_call (below_setRow hBw5.out (by omega) _) hC6)
      clear hC6
      go_wp2_with (first
        | ((with_reducible refine at_store 12 ?_); refine wpList_store_row rfl 100 _ _ rfl (w4.heap.size) (uC V5) rfl rfl 100 (uC V4) h12 (infoU_of (uC V5) (uC_size _)) ((uC_size _).trans (uC_size _).symm) (uC_one _) ?_))
      obtain ⟨V6, qV6⟩ : ∃ u : Nat, u = d0 * a2 := ⟨_, rfl⟩
      have bV6 : V6 ≤ 10143680833020124416053304360962 := by have := Nat.mul_le_mul bd0 ba2; omega
      have HV6 := Lib.hid qV6; clear qV6
      rw [show (a0 : Int) * 2 = (d0 : Int) by have := qd0.out; omega]
      refine (mul_any d0 a2 V6 (by omega) (by omega) HV6 _).mono ?_
      rintro e w7 ⟨rfl, hC7⟩
      have hs7 : w6.heap.size ≤ w7.heap.size := by have := hC7.size; (try simp only [alloc_size, setRow_size] at this); omega
      replace hv : Row w7 (vb) (vo) 5 (vs) := (Row.below_all (Row.keep hv (setRow_other _ _ _ _ (by omega))) hC7)
      replace h11 : w7.heap[w1.heap.size]? = some (.cells (uC V2) 100 (0, 0)) := (heap_call hC7 (heap_row _ (by omega) h11))
      replace h12 : w7.heap[w4.heap.size]? = some (.cells (uC V5) 100 (0, 0)) := (heap_call hC7 (setRow_heap _ _ _ _ _ _ h12))
      have hBw7 : Hid (Below w.heap.size w w7) := Lib.hid (below_call (below_setRow hBw6.out (by omega) _) hC7)
      clear hC7
      go_wp2_with (first
        | ((with_reducible refine at_store 13 ?_); refine wpList_store_row rfl 100 _ _ rfl (w7.heap.size) (uC V6) rfl rfl 100 (zU) (heap_new_at _ _ _ rfl) (infoU_of (uC V6) (uC_size _)) (zU_size.trans (uC_size _).symm) (uC_one _) ?_)
        | ((with_reducible refine at_dst 76 ?_); refine wpList_load_row rfl 100 _ rfl (w7.heap.size) rfl 100 (uC V6) (0, 0) _ (setRow_heap _ _ _ _ _ _ (heap_new_at _ _ _ rfl)) Tryd.underlying100 rfl (infoU_of (uC V6) (uC_size _)) ?_))
      obtain ⟨V7, qV7⟩ : ∃ u : Nat, u = V6 + a1 * a1 := ⟨_, rfl⟩
      have bV7 : V7 ≤ 15215521249530186624079956541443 := by have := Nat.mul_le_mul ba1 ba1; omega
      have HV7 := Lib.hid qV7; clear qV7
      refine (addMul_any V6 a1 a1 V7 (by omega) (by omega) HV7 (by omega) _).mono ?_
      rintro e w8 ⟨rfl, hC8⟩
      have hs8 : w7.heap.size + 1 ≤ w8.heap.size := by have := hC8.size; (try simp only [alloc_size, setRow_size] at this); omega
      replace hv : Row w8 (vb) (vo) 5 (vs) := (Row.below_all (Row.keep (Row.alloc hv _) (setRow_other _ _ _ _ (by omega))) hC8)
      replace h11 : w8.heap[w1.heap.size]? = some (.cells (uC V2) 100 (0, 0)) := (heap_call hC8 (heap_row _ (by omega) (heap_old _ h11)))
      replace h12 : w8.heap[w4.heap.size]? = some (.cells (uC V5) 100 (0, 0)) := (heap_call hC8 (heap_row _ (by omega) (heap_old _ h12)))
      replace h13 : w8.heap[w7.heap.size]? = some (.cells (uC V6) 100 (0, 0)) := (heap_call hC8 (setRow_heap _ _ _ _ _ _ (heap_new_at _ _ _ rfl)))
      have hBw8 : Hid (Below w.heap.size w w8) := Lib.hid (below_call (below_setRow (below_alloc hBw7.out _) (by omega) _) hC8)
      clear hC8
      go_wp2_with (first
        | ((with_reducible refine at_store 13 ?_); refine wpList_store_row rfl 100 _ _ rfl (w7.heap.size) (uC V7) rfl rfl 100 (uC V6) h13 (infoU_of (uC V7) (uC_size _)) ((uC_size _).trans (uC_size _).symm) (uC_one _) ?_)
        | ((with_reducible refine at_dst 80 ?_); refine wpList_load_row rfl 100 _ rfl (w7.heap.size) rfl 100 (uC V7) (0, 0) _ (setRow_heap _ _ _ _ _ _ h13) Tryd.underlying100 rfl (infoU_of (uC V7) (uC_size _)) ?_))
      obtain ⟨V8, qV8⟩ : ∃ u : Nat, u = V7 + 38 * (a3 * a4) := ⟨_, rfl⟩
      have bV8 : V8 ≤ 207945457076912550529092739399721 := by have := Nat.mul_le_mul ba3 ba4; omega
      have HV8 := Lib.hid qV8; clear qV8
      refine (addMul38_any V7 a3 a4 V8 (by omega) (by omega) HV8 (by omega) _).mono ?_
      rintro e w9 ⟨rfl, hC9⟩
      have hs9 : w8.heap.size ≤ w9.heap.size := by have := hC9.size; (try simp only [alloc_size, setRow_size] at this); omega
      replace hv : Row w9 (vb) (vo) 5 (vs) := (Row.below_all (Row.keep hv (setRow_other _ _ _ _ (by omega))) hC9)
      replace h11 : w9.heap[w1.heap.size]? = some (.cells (uC V2) 100 (0, 0)) := (heap_call hC9 (heap_row _ (by omega) h11))
      replace h12 : w9.heap[w4.heap.size]? = some (.cells (uC V5) 100 (0, 0)) := (heap_call hC9 (heap_row _ (by omega) h12))
      replace h13 : w9.heap[w7.heap.size]? = some (.cells (uC V7) 100 (0, 0)) := (heap_call hC9 (setRow_heap _ _ _ _ _ _ h13))
      have hBw9 : Hid (Below w.heap.size w w9) := Lib.hid (below_call (below_setRow hBw8.out (by omega) _) hC9)
      clear hC9
      go_wp2_with (first
        | ((with_reducible refine at_store 13 ?_); refine wpList_store_row rfl 100 _ _ rfl (w7.heap.size) (uC V8) rfl rfl 100 (uC V7) h13 (infoU_of (uC V8) (uC_size _)) ((uC_size _).trans (uC_size _).symm) (uC_one _) ?_))
      obtain ⟨V9, qV9⟩ : ∃ u : Nat, u = d0 * a3 := ⟨_, rfl⟩
      have bV9 : V9 ≤ 10143680833020124416053304360962 := by have := Nat.mul_le_mul bd0 ba3; omega
      have HV9 := Lib.hid qV9; clear qV9
      rw [show (a0 : Int) * 2 = (d0 : Int) by have := qd0.out; omega]
      refine (mul_any d0 a3 V9 (by omega) (by omega) HV9 _).mono ?_
      rintro e w10 ⟨rfl, hC10⟩
      have hs10 : w9.heap.size ≤ w10.heap.size := by have := hC10.size; (try simp only [alloc_size, setRow_size] at this); omega
      replace hv : Row w10 (vb) (vo) 5 (vs) := (Row.below_all (Row.keep hv (setRow_other _ _ _ _ (by omega))) hC10)
      replace h11 : w10.heap[w1.heap.size]? = some (.cells (uC V2) 100 (0, 0)) := (heap_call hC10 (heap_row _ (by omega) h11))
      replace h12 : w10.heap[w4.heap.size]? = some (.cells (uC V5) 100 (0, 0)) := (heap_call hC10 (heap_row _ (by omega) h12))
      replace h13 : w10.heap[w7.heap.size]? = some (.cells (uC V8) 100 (0, 0)) := (heap_call hC10 (setRow_heap _ _ _ _ _ _ h13))
      have hBw10 : Hid (Below w.heap.size w w10) := Lib.hid (below_call (below_setRow hBw9.out (by omega) _) hC10)
      clear hC10
      go_wp2_with (first
        | ((with_reducible refine at_store 14 ?_); refine wpList_store_row rfl 100 _ _ rfl (w10.heap.size) (uC V9) rfl rfl 100 (zU) (heap_new_at _ _ _ rfl) (infoU_of (uC V9) (uC_size _)) (zU_size.trans (uC_size _).symm) (uC_one _) ?_)
        | ((with_reducible refine at_dst 88 ?_); refine wpList_load_row rfl 100 _ rfl (w10.heap.size) rfl 100 (uC V9) (0, 0) _ (setRow_heap _ _ _ _ _ _ (heap_new_at _ _ _ rfl)) Tryd.underlying100 rfl (infoU_of (uC V9) (uC_size _)) ?_))
      obtain ⟨V10, qV10⟩ : ∃ u : Nat, u = V9 + d1 * a2 := ⟨_, rfl⟩
      have bV10 : V10 ≤ 20287361666040248832106608721924 := by have := Nat.mul_le_mul bd1 ba2; omega
      have HV10 := Lib.hid qV10; clear qV10
      rw [show (a1 : Int) * 2 = (d1 : Int) by have := qd1.out; omega]
      refine (addMul_any V9 d1 a2 V10 (by omega) (by omega) HV10 (by omega) _).mono ?_
      rintro e w11 ⟨rfl, hC11⟩
      have hs11 : w10.heap.size + 1 ≤ w11.heap.size := by have := hC11.size; (try simp only [alloc_size, setRow_size] at this); omega
      replace hv : Row w11 (vb) (vo) 5 (vs) := (Row.below_all (Row.keep (Row.alloc hv _) (setRow_other _ _ _ _ (by omega))) hC11)
      replace h11 : w11.heap[w1.heap.size]? = some (.cells (uC V2) 100 (0, 0)) := (heap_call hC11 (heap_row _ (by omega) (heap_old _ h11)))
      replace h12 : w11.heap[w4.heap.size]? = some (.cells (uC V5) 100 (0, 0)) := (heap_call hC11 (heap_row _ (by omega) (heap_old _ h12)))
      replace h13 : w11.heap[w7.heap.size]? = some (.cells (uC V8) 100 (0, 0)) := (heap_call hC11 (heap_row _ (by omega) (heap_old _ h13)))
      replace h14 : w11.heap[w10.heap.size]? = some (.cells (uC V9) 100 (0, 0)) := (heap_call hC11 (setRow_heap _ _ _ _ _ _ (heap_new_at _ _ _ rfl)))
      have hBw11 : Hid (Below w.heap.size w w11) := Lib.hid (below_call (below_setRow (below_alloc hBw10.out _) (by omega) _) hC11)
      clear hC11
      go_wp2_with (first
        | ((with_reducible refine at_store 14 ?_); refine wpList_store_row rfl 100 _ _ rfl (w10.heap.size) (uC V10) rfl rfl 100 (uC V9) h14 (infoU_of (uC V10) (uC_size _)) ((uC_size _).trans (uC_size _).symm) (uC_one _) ?_)
        | ((with_reducible refine at_dst 93 ?_); refine wpList_load_row rfl 100 _ rfl (w10.heap.size) rfl 100 (uC V10) (0, 0) _ (setRow_heap _ _ _ _ _ _ h14) Tryd.underlying100 rfl (infoU_of (uC V10) (uC_size _)) ?_))
      obtain ⟨V11, qV11⟩ : ∃ u : Nat, u = V10 + 19 * (a4 * a4) := ⟨_, rfl⟩
      have bV11 : V11 ≤ 116652329579731430784613000151063 := by have := Nat.mul_le_mul ba4 ba4; omega
      have HV11 := Lib.hid qV11; clear qV11
      refine (addMul19_any V10 a4 a4 V11 (by omega) (by omega) HV11 (by omega) _).mono ?_
      rintro e w12 ⟨rfl, hC12⟩
      have hs12 : w11.heap.size ≤ w12.heap.size := by have := hC12.size; (try simp only [alloc_size, setRow_size] at this); omega
      replace hv : Row w12 (vb) (vo) 5 (vs) := (Row.below_all (Row.keep hv (setRow_other _ _ _ _ (by omega))) hC12)
      replace h11 : w12.heap[w1.heap.size]? = some (.cells (uC V2) 100 (0, 0)) := (heap_call hC12 (heap_row _ (by omega) h11))
      replace h12 : w12.heap[w4.heap.size]? = some (.cells (uC V5) 100 (0, 0)) := (heap_call hC12 (heap_row _ (by omega) h12))
      replace h13 : w12.heap[w7.heap.size]? = some (.cells (uC V8) 100 (0, 0)) := (heap_call hC12 (heap_row _ (by omega) h13))
      replace h14 : w12.heap[w10.heap.size]? = some (.cells (uC V10) 100 (0, 0)) := (heap_call hC12 (setRow_heap _ _ _ _ _ _ h14))
      have hBw12 : Hid (Below w.heap.size w w12) := Lib.hid (below_call (below_setRow hBw11.out (by omega) _) hC12)
      clear hC12
      go_wp2_with (first
        | ((with_reducible refine at_store 14 ?_); refine wpList_store_row rfl 100 _ _ rfl (w10.heap.size) (uC V11) rfl rfl 100 (uC V10) h14 (infoU_of (uC V11) (uC_size _)) ((uC_size _).trans (uC_size _).symm) (uC_one _) ?_))
      obtain ⟨V12, qV12⟩ : ∃ u : Nat, u = d0 * a4 := ⟨_, rfl⟩
      have bV12 : V12 ≤ 10143680833020124416053304360962 := by have := Nat.mul_le_mul bd0 ba4; omega
      have HV12 := Lib.hid qV12; clear qV12
      rw [show (a0 : Int) * 2 = (d0 : Int) by have := qd0.out; omega]
      refine (mul_any d0 a4 V12 (by omega) (by omega) HV12 _).mono ?_
      rintro e w13 ⟨rfl, hC13⟩
      have hs13 : w12.heap.size ≤ w13.heap.size := by have := hC13.size; (try simp only [alloc_size, setRow_size] at this); omega
      replace hv : Row w13 (vb) (vo) 5 (vs) := (Row.below_all (Row.keep hv (setRow_other _ _ _ _ (by omega))) hC13)
      replace h11 : w13.heap[w1.heap.size]? = some (.cells (uC V2) 100 (0, 0)) := (heap_call hC13 (heap_row _ (by omega) h11))
      replace h12 : w13.heap[w4.heap.size]? = some (.cells (uC V5) 100 (0, 0)) := (heap_call hC13 (heap_row _ (by omega) h12))
      replace h13 : w13.heap[w7.heap.size]? = some (.cells (uC V8) 100 (0, 0)) := (heap_call hC13 (heap_row _ (by omega) h13))
      replace h14 : w13.heap[w10.heap.size]? = some (.cells (uC V11) 100 (0, 0)) := (heap_call hC13 (setRow_heap _ _ _ _ _ _ h14))
      have hBw13 : Hid (Below w.heap.size w w13) := Lib.hid (below_call (below_setRow hBw12.out (by omega) _) hC13)
      clear hC13
      go_wp2_with (first
        | ((with_reducible refine at_store 15 ?_); refine wpList_store_row rfl 100 _ _ rfl (w13.heap.size) (uC V12) rfl rfl 100 (zU) (heap_new_at _ _ _ rfl) (infoU_of (uC V12) (uC_size _)) (zU_size.trans (uC_size _).symm) (uC_one _) ?_)
        | ((with_reducible refine at_dst 101 ?_); refine wpList_load_row rfl 100 _ rfl (w13.heap.size) rfl 100 (uC V12) (0, 0) _ (setRow_heap _ _ _ _ _ _ (heap_new_at _ _ _ rfl)) Tryd.underlying100 rfl (infoU_of (uC V12) (uC_size _)) ?_))
      obtain ⟨V13, qV13⟩ : ∃ u : Nat, u = V12 + d1 * a3 := ⟨_, rfl⟩
      have bV13 : V13 ≤ 20287361666040248832106608721924 := by have := Nat.mul_le_mul bd1 ba3; omega
      have HV13 := Lib.hid qV13; clear qV13
      rw [show (a1 : Int) * 2 = (d1 : Int) by have := qd1.out; omega]
      refine (addMul_any V12 d1 a3 V13 (by omega) (by omega) HV13 (by omega) _).mono ?_
      rintro e w14 ⟨rfl, hC14⟩
      have hs14 : w13.heap.size + 1 ≤ w14.heap.size := by have := hC14.size; (try simp only [alloc_size, setRow_size] at this); omega
      replace hv : Row w14 (vb) (vo) 5 (vs) := (Row.below_all (Row.keep (Row.alloc hv _) (setRow_other _ _ _ _ (by omega))) hC14)
      replace h11 : w14.heap[w1.heap.size]? = some (.cells (uC V2) 100 (0, 0)) := (heap_call hC14 (heap_row _ (by omega) (heap_old _ h11)))
      replace h12 : w14.heap[w4.heap.size]? = some (.cells (uC V5) 100 (0, 0)) := (heap_call hC14 (heap_row _ (by omega) (heap_old _ h12)))
      replace h13 : w14.heap[w7.heap.size]? = some (.cells (uC V8) 100 (0, 0)) := (heap_call hC14 (heap_row _ (by omega) (heap_old _ h13)))
      replace h14 : w14.heap[w10.heap.size]? = some (.cells (uC V11) 100 (0, 0)) := (heap_call hC14 (heap_row _ (by omega) (heap_old _ h14)))
      replace h15 : w14.heap[w13.heap.size]? = some (.cells (uC V12) 100 (0, 0)) := (heap_call hC14 (setRow_heap _ _ _ _ _ _ (heap_new_at _ _ _ rfl)))
      have hBw14 : Hid (Below w.heap.size w w14) := Lib.hid (below_call (below_setRow (below_alloc hBw13.out _) (by omega) _) hC14)
      clear hC14
      go_wp2_with (first
        | ((with_reducible refine at_store 15 ?_); refine wpList_store_row rfl 100 _ _ rfl (w13.heap.size) (uC V13) rfl rfl 100 (uC V12) h15 (infoU_of (uC V13) (uC_size _)) ((uC_size _).trans (uC_size _).symm) (uC_one _) ?_)
        | ((with_reducible refine at_dst 106 ?_); refine wpList_load_row rfl 100 _ rfl (w13.heap.size) rfl 100 (uC V13) (0, 0) _ (setRow_heap _ _ _ _ _ _ h15) Tryd.underlying100 rfl (infoU_of (uC V13) (uC_size _)) ?_))
      obtain ⟨V14, qV14⟩ : ∃ u : Nat, u = V13 + a2 * a2 := ⟨_, rfl⟩
      have bV14 : V14 ≤ 25359202082550311040133260902405 := by have := Nat.mul_le_mul ba2 ba2; omega
      have HV14 := Lib.hid qV14; clear qV14
      refine (addMul_any V13 a2 a2 V14 (by omega) (by omega) HV14 (by omega) _).mono ?_
      rintro e w15 ⟨rfl, hC15⟩
      have hs15 : w14.heap.size ≤ w15.heap.size := by have := hC15.size; (try simp only [alloc_size, setRow_size] at this); omega
      replace hv : Row w15 (vb) (vo) 5 (vs) := (Row.below_all (Row.keep hv (setRow_other _ _ _ _ (by omega))) hC15)
      replace h11 : w15.heap[w1.heap.size]? = some (.cells (uC V2) 100 (0, 0)) := (heap_call hC15 (heap_row _ (by omega) h11))
      replace h12 : w15.heap[w4.heap.size]? = some (.cells (uC V5) 100 (0, 0)) := (heap_call hC15 (heap_row _ (by omega) h12))
      replace h13 : w15.heap[w7.heap.size]? = some (.cells (uC V8) 100 (0, 0)) := (heap_call hC15 (heap_row _ (by omega) h13))
      replace h14 : w15.heap[w10.heap.size]? = some (.cells (uC V11) 100 (0, 0)) := (heap_call hC15 (heap_row _ (by omega) h14))
      replace h15 : w15.heap[w13.heap.size]? = some (.cells (uC V13) 100 (0, 0)) := (heap_call hC15 (setRow_heap _ _ _ _ _ _ h15))
      have hBw15 : Hid (Below w.heap.size w w15) := Lib.hid (below_call (below_setRow hBw14.out (by omega) _) hC15)
      clear hC15
      obtain ⟨KK, qKK⟩ : ∃ u : L5, Hid (u = ⟨a0 * a0 + 38 * (a1 * a4) + 38 * (a2 * a3), (a0 * 2) * a1 + 38 * (a2 * a4) + 19 * (a3 * a3), (a0 * 2) * a2 + a1 * a1 + 38 * (a3 * a4), (a0 * 2) * a3 + (a1 * 2) * a2 + 19 * (a4 * a4), (a0 * 2) * a4 + (a1 * 2) * a3 + a2 * a2⟩) := ⟨_, rfl⟩
      obtain ⟨c0, qc0⟩ : ∃ u : Nat, u = V2 / 2251799813685248 := ⟨_, rfl⟩
      have bc0 : c0 ≤ 173430919435124581 := by omega
      have Hc0 := Lib.hid qc0; clear qc0
      obtain ⟨c1, qc1⟩ : ∃ u : Nat, u = V5 / 2251799813685248 := ⟨_, rfl⟩
      have bc1 : c1 ≤ 173430919435124581 := by omega
      have Hc1 := Lib.hid qc1; clear qc1
      obtain ⟨c2, qc2⟩ : ∃ u : Nat, u = V8 / 2251799813685248 := ⟨_, rfl⟩
      have bc2 : c2 ≤ 173430919435124581 := by omega
      have Hc2 := Lib.hid qc2; clear qc2
      obtain ⟨c3, qc3⟩ : ∃ u : Nat, u = V11 / 2251799813685248 := ⟨_, rfl⟩
      have bc3 : c3 ≤ 173430919435124581 := by omega
      have Hc3 := Lib.hid qc3; clear qc3
      obtain ⟨c4, qc4⟩ : ∃ u : Nat, u = V14 / 2251799813685248 := ⟨_, rfl⟩
      have bc4 : c4 ≤ 11261748015267829 := by omega
      have Hc4 := Lib.hid qc4; clear qc4
      go_wp2_with (first
        | ((with_reducible refine at_store 15 ?_); refine wpList_store_row rfl 100 _ _ rfl (w13.heap.size) (uC V14) rfl rfl 100 (uC V13) h15 (infoU_of (uC V14) (uC_size _)) ((uC_size _).trans (uC_size _).symm) (uC_one _) ?_)
        | ((with_reducible refine at_dst 110 ?_); refine wpList_load_row rfl 100 _ rfl (w1.heap.size) rfl 100 (uC V2) (0, 0) _ (heap_row _ (by omega) h11) Tryd.underlying100 rfl (infoU_of (uC V2) (uC_size _)) ?_))
      refine (shr51_any V2 c0 (by omega) Hc0 _).mono ?_
      rintro e w16 ⟨rfl, hC16⟩
      have hs16 : w15.heap.size ≤ w16.heap.size := by have := hC16.size; (try simp only [alloc_size, setRow_size] at this); omega
      replace hv : Row w16 (vb) (vo) 5 (vs) := (Row.below_all (Row.keep hv (setRow_other _ _ _ _ (by omega))) hC16)
      replace h11 : w16.heap[w1.heap.size]? = some (.cells (uC V2) 100 (0, 0)) := (heap_call hC16 (heap_row _ (by omega) h11))
      replace h12 : w16.heap[w4.heap.size]? = some (.cells (uC V5) 100 (0, 0)) := (heap_call hC16 (heap_row _ (by omega) h12))
      replace h13 : w16.heap[w7.heap.size]? = some (.cells (uC V8) 100 (0, 0)) := (heap_call hC16 (heap_row _ (by omega) h13))
      replace h14 : w16.heap[w10.heap.size]? = some (.cells (uC V11) 100 (0, 0)) := (heap_call hC16 (heap_row _ (by omega) h14))
      replace h15 : w16.heap[w13.heap.size]? = some (.cells (uC V14) 100 (0, 0)) := (heap_call hC16 (setRow_heap _ _ _ _ _ _ h15))
      have hBw16 : Hid (Below w.heap.size w w16) := Lib.hid (below_call (below_setRow hBw15.out (by omega) _) hC16)
      clear hC16
      go_wp2_with (first
        | ((with_reducible refine at_dst 112 ?_); refine wpList_load_row rfl 100 _ rfl (w4.heap.size) rfl 100 (uC V5) (0, 0) _ h12 Tryd.underlying100 rfl (infoU_of (uC V5) (uC_size _)) ?_))
      refine (shr51_any V5 c1 (by omega) Hc1 _).mono ?_
      rintro e w17 ⟨rfl, hC17⟩
      have hs17 : w16.heap.size ≤ w17.heap.size := by have := hC17.size; (try simp only [alloc_size, setRow_size] at this); omega
      replace hv : Row w17 (vb) (vo) 5 (vs) := (Row.below_all hv hC17)
      replace h11 : w17.heap[w1.heap.size]? = some (.cells (uC V2) 100 (0, 0)) := (heap_call hC17 h11)
      replace h12 : w17.heap[w4.heap.size]? = some (.cells (uC V5) 100 (0, 0)) := (heap_call hC17 h12)
      replace h13 : w17.heap[w7.heap.size]? = some (.cells (uC V8) 100 (0, 0)) := (heap_call hC17 h13)
      replace h14 : w17.heap[w10.heap.size]? = some (.cells (uC V11) 100 (0, 0)) := (heap_call hC17 h14)
      replace h15 : w17.heap[w13.heap.size]? = some (.cells (uC V14) 100 (0, 0)) := (heap_call hC17 h15)
      have hBw17 : Hid (Below w.heap.size w w17) := Lib.hid (below_call hBw16.out hC17)
      clear hC17
      go_wp2_with (first
        | ((with_reducible refine at_dst 114 ?_); refine wpList_load_row rfl 100 _ rfl (w7.heap.size) rfl 100 (uC V8) (0, 0) _ h13 Tryd.underlying100 rfl (infoU_of (uC V8) (uC_size _)) ?_))
      refine (shr51_any V8 c2 (by omega) Hc2 _).mono ?_
      rintro e w18 ⟨rfl, hC18⟩
      have hs18 : w17.heap.size ≤ w18.heap.size := by have := hC18.size; (try simp only [alloc_size, setRow_size] at this); omega
      replace hv : Row w18 (vb) (vo) 5 (vs) := (Row.below_all hv hC18)
      replace h11 : w18.heap[w1.heap.size]? = some (.cells (uC V2) 100 (0, 0)) := (heap_call hC18 h11)
      replace h12 : w18.heap[w4.heap.size]? = some (.cells (uC V5) 100 (0, 0)) := (heap_call hC18 h12)
      replace h13 : w18.heap[w7.heap.size]? = some (.cells (uC V8) 100 (0, 0)) := (heap_call hC18 h13)
      replace h14 : w18.heap[w10.heap.size]? = some (.cells (uC V11) 100 (0, 0)) := (heap_call hC18 h14)
      replace h15 : w18.heap[w13.heap.size]? = some (.cells (uC V14) 100 (0, 0)) := (heap_call hC18 h15)
      have hBw18 : Hid (Below w.heap.size w w18) := Lib.hid (below_call hBw17.out hC18)
      clear hC18
      go_wp2_with (first
        | ((with_reducible refine at_dst 116 ?_); refine wpList_load_row rfl 100 _ rfl (w10.heap.size) rfl 100 (uC V11) (0, 0) _ h14 Tryd.underlying100 rfl (infoU_of (uC V11) (uC_size _)) ?_))
      refine (shr51_any V11 c3 (by omega) Hc3 _).mono ?_
      rintro e w19 ⟨rfl, hC19⟩
      have hs19 : w18.heap.size ≤ w19.heap.size := by have := hC19.size; (try simp only [alloc_size, setRow_size] at this); omega
      replace hv : Row w19 (vb) (vo) 5 (vs) := (Row.below_all hv hC19)
      replace h11 : w19.heap[w1.heap.size]? = some (.cells (uC V2) 100 (0, 0)) := (heap_call hC19 h11)
      replace h12 : w19.heap[w4.heap.size]? = some (.cells (uC V5) 100 (0, 0)) := (heap_call hC19 h12)
      replace h13 : w19.heap[w7.heap.size]? = some (.cells (uC V8) 100 (0, 0)) := (heap_call hC19 h13)
      replace h14 : w19.heap[w10.heap.size]? = some (.cells (uC V11) 100 (0, 0)) := (heap_call hC19 h14)
      replace h15 : w19.heap[w13.heap.size]? = some (.cells (uC V14) 100 (0, 0)) := (heap_call hC19 h15)
      have hBw19 : Hid (Below w.heap.size w w19) := Lib.hid (below_call hBw18.out hC19)
      clear hC19
      go_wp2_with (first
        | ((with_reducible refine at_dst 118 ?_); refine wpList_load_row rfl 100 _ rfl (w13.heap.size) rfl 100 (uC V14) (0, 0) _ h15 Tryd.underlying100 rfl (infoU_of (uC V14) (uC_size _)) ?_))
      refine (shr51_any V14 c4 (by omega) Hc4 _).mono ?_
      rintro e w20 ⟨rfl, hC20⟩
      have hs20 : w19.heap.size ≤ w20.heap.size := by have := hC20.size; (try simp only [alloc_size, setRow_size] at this); omega
      replace hv : Row w20 (vb) (vo) 5 (vs) := (Row.below_all hv hC20)
      replace h11 : w20.heap[w1.heap.size]? = some (.cells (uC V2) 100 (0, 0)) := (heap_call hC20 h11)
      replace h12 : w20.heap[w4.heap.size]? = some (.cells (uC V5) 100 (0, 0)) := (heap_call hC20 h12)
      replace h13 : w20.heap[w7.heap.size]? = some (.cells (uC V8) 100 (0, 0)) := (heap_call hC20 h13)
      replace h14 : w20.heap[w10.heap.size]? = some (.cells (uC V11) 100 (0, 0)) := (heap_call hC20 h14)
      replace h15 : w20.heap[w13.heap.size]? = some (.cells (uC V14) 100 (0, 0)) := (heap_call hC20 h15)
      have hBw20 : Hid (Below w.heap.size w w20) := Lib.hid (below_call hBw19.out hC20)
      clear hC20
      obtain ⟨l0, ql0⟩ : ∃ u : Nat, u = V2 % 18446744073709551616 := ⟨_, rfl⟩
      obtain ⟨m0, qm0⟩ : ∃ u : Nat, u = V2 % 2251799813685248 := ⟨_, rfl⟩
      have bm0 : m0 < 2251799813685248 := by omega
      have hl0 := Lib.hid ql0; have hm0 := Lib.hid qm0; clear ql0 qm0
      have hlow0 := low51 V2 l0 m0 hl0 hm0
      obtain ⟨l1, ql1⟩ : ∃ u : Nat, u = V5 % 18446744073709551616 := ⟨_, rfl⟩
      obtain ⟨m1, qm1⟩ : ∃ u : Nat, u = V5 % 2251799813685248 := ⟨_, rfl⟩
      have bm1 : m1 < 2251799813685248 := by omega
      have hl1 := Lib.hid ql1; have hm1 := Lib.hid qm1; clear ql1 qm1
      have hlow1 := low51 V5 l1 m1 hl1 hm1
      obtain ⟨l2, ql2⟩ : ∃ u : Nat, u = V8 % 18446744073709551616 := ⟨_, rfl⟩
      obtain ⟨m2, qm2⟩ : ∃ u : Nat, u = V8 % 2251799813685248 := ⟨_, rfl⟩
      have bm2 : m2 < 2251799813685248 := by omega
      have hl2 := Lib.hid ql2; have hm2 := Lib.hid qm2; clear ql2 qm2
      have hlow2 := low51 V8 l2 m2 hl2 hm2
      obtain ⟨l3, ql3⟩ : ∃ u : Nat, u = V11 % 18446744073709551616 := ⟨_, rfl⟩
      obtain ⟨m3, qm3⟩ : ∃ u : Nat, u = V11 % 2251799813685248 := ⟨_, rfl⟩
      have bm3 : m3 < 2251799813685248 := by omega
      have hl3 := Lib.hid ql3; have hm3 := Lib.hid qm3; clear ql3 qm3
      have hlow3 := low51 V11 l3 m3 hl3 hm3
      obtain ⟨l4, ql4⟩ : ∃ u : Nat, u = V14 % 18446744073709551616 := ⟨_, rfl⟩
      obtain ⟨m4, qm4⟩ : ∃ u : Nat, u = V14 % 2251799813685248 := ⟨_, rfl⟩
      have bm4 : m4 < 2251799813685248 := by omega
      have hl4 := Lib.hid ql4; have hm4 := Lib.hid qm4; clear ql4 qm4
      have hlow4 := low51 V14 l4 m4 hl4 hm4
      have hsum0 : IntKind.u64.wrap ((m0 : Int) + 19 * (c4 : Int)) = (m0 : Int) + 19 * (c4 : Int) := by rw [IntKind.wrap_u64]; omega
      go_wp2_with fail
      refine wp_named ?_
      intro w21 ew21
      have hs21 : w20.heap.size ≤ w21.heap.size := by rw [ew21]; (try simp only [alloc_size, setRow_size]); omega
      replace hv : Row w21 (vb) (vo) 5 (vs) := by rw [ew21]; exact hv
      replace h11 : w21.heap[w1.heap.size]? = some (.cells (uC V2) 100 (0, 0)) := by rw [ew21]; exact h11
      replace h12 : w21.heap[w4.heap.size]? = some (.cells (uC V5) 100 (0, 0)) := by rw [ew21]; exact h12
      replace h13 : w21.heap[w7.heap.size]? = some (.cells (uC V8) 100 (0, 0)) := by rw [ew21]; exact h13
      replace h14 : w21.heap[w10.heap.size]? = some (.cells (uC V11) 100 (0, 0)) := by rw [ew21]; exact h14
      replace h15 : w21.heap[w13.heap.size]? = some (.cells (uC V14) 100 (0, 0)) := by rw [ew21]; exact h15
      have hBw21 : Hid (Below w.heap.size w w21) := Lib.hid (by rw [ew21]; exact hBw20.out)
      clear ew21
      refine wp_region_quiet (C := Below w21.heap.size w21) (by kernel_rfl) (by kernel_rfl) (Below.refl _ _).drew ?_
      simp only [List.toList_toArray]
      refine wpQuiet_step (fun K hK => ?_); rw [if_pos (by rfl)]
      refine ⟨.pointer (some ⟨w1.heap.size, 0, none⟩), fun w' hC => qrun (by go_simp), hK _ ?_⟩; clear hK K
      simp only [Act.put, List.setIfInBounds_toArray, List.set_cons_zero, List.set_cons_succ]
      refine wpQuiet_step (fun K hK => ?_); rw [if_pos (by rfl)]
      refine ⟨.int .u64 (l0 : Int), fun w' hC => qcell 40 _ rfl (w1.heap.size) 0 rfl (by rw [hl0.out]; exact blk_cell h11 0 (uC_0 V2)) (heap_lt h11) hC (fun u hu => by go_simp), hK _ ?_⟩; clear hK K
      simp only [Act.put, List.setIfInBounds_toArray, List.set_cons_zero, List.set_cons_succ]
      refine wpQuiet_step (fun K hK => ?_); rw [if_pos (by rfl)]
      refine ⟨.int .u64 (m0 : Int), fun w' hC => qrun (by go_simp), hK _ ?_⟩; clear hK K
      simp only [Act.put, List.setIfInBounds_toArray, List.set_cons_zero, List.set_cons_succ]
      refine wpQuiet_step (fun K hK => ?_); rw [if_pos (by rfl)]
      refine ⟨.int .u64 (c4 : Int), fun w' hC => qrun (by go_simp), hK _ ?_⟩; clear hK K
      simp only [Act.put, List.setIfInBounds_toArray, List.set_cons_zero, List.set_cons_succ]
      refine wpQuiet_step (fun K hK => ?_); rw [if_pos (by rfl)]
      refine ⟨.int .u64 (19 * (c4 : Int)), fun w' hC => qcall 64 #[.int .u64 (c4 : Int)] (by go_simp) hC (mul19_q (c4 : Int) w' (by omega) (by omega)), hK _ ?_⟩; clear hK K
      simp only [Act.put, List.setIfInBounds_toArray, List.set_cons_zero, List.set_cons_succ]
      refine wpQuiet_step (fun K hK => ?_); rw [if_pos (by rfl)]
      refine ⟨.int .u64 ((m0 : Int) + 19 * (c4 : Int)), fun w' hC => qrun (by go_simp), hK _ ?_⟩; clear hK K
      simp only [Act.put, List.setIfInBounds_toArray, List.set_cons_zero, List.set_cons_succ]
      refine wpQuiet_step (fun K hK => ?_); rw [if_pos (by rfl)]
      refine ⟨.int .u64 ((m0 : Int) + 19 * (c4 : Int)), fun w' hC => qrun (by go_simp), hK _ ?_⟩; clear hK K
      simp only [Act.put, List.setIfInBounds_toArray, List.set_cons_zero, List.set_cons_succ]
      refine wpQuiet_nil ?_
      intro w22 hC
      have hs22 := hC.size
      replace hv : Row w22 (vb) (vo) 5 (vs) := (Row.below_all hv hC)
      replace h11 : w22.heap[w1.heap.size]? = some (.cells (uC V2) 100 (0, 0)) := (heap_call hC h11)
      replace h12 : w22.heap[w4.heap.size]? = some (.cells (uC V5) 100 (0, 0)) := (heap_call hC h12)
      replace h13 : w22.heap[w7.heap.size]? = some (.cells (uC V8) 100 (0, 0)) := (heap_call hC h13)
      replace h14 : w22.heap[w10.heap.size]? = some (.cells (uC V11) 100 (0, 0)) := (heap_call hC h14)
      replace h15 : w22.heap[w13.heap.size]? = some (.cells (uC V14) 100 (0, 0)) := (heap_call hC h15)
      have hBw22 : Hid (Below w.heap.size w w22) := Lib.hid (below_call hBw21.out hC)
      clear hC
      clear hsum0
      have hcell1 : w22.cell? ⟨w4.heap.size, 0, none⟩ = some (.int .u64 (l1 : Int)) := (by rw [hl1.out]; exact blk_cell h12 0 (uC_0 V5))
      have hcell2 : w22.cell? ⟨w7.heap.size, 0, none⟩ = some (.int .u64 (l2 : Int)) := (by rw [hl2.out]; exact blk_cell h13 0 (uC_0 V8))
      have hcell3 : w22.cell? ⟨w10.heap.size, 0, none⟩ = some (.int .u64 (l3 : Int)) := (by rw [hl3.out]; exact blk_cell h14 0 (uC_0 V11))
      have hcell4 : w22.cell? ⟨w13.heap.size, 0, none⟩ = some (.int .u64 (l4 : Int)) := (by rw [hl4.out]; exact blk_cell h15 0 (uC_0 V14))
      go_upto_region 32 with (fail)
      obtain ⟨r0, qr0⟩ : ∃ u : Nat, u = m0 + 19 * c4 := ⟨_, rfl⟩
      rw [show (m0 : Int) + 19 * (c4 : Int) = (r0 : Int) by omega]
      have br0 : r0 < 1152921504606846976 := by omega
      have Hr0 := Lib.hid qr0; clear qr0
      obtain ⟨r1, qr1⟩ : ∃ u : Nat, u = m1 + c0 := ⟨_, rfl⟩
      rw [show (m1 : Int) + (c0 : Int) = (r1 : Int) by omega]
      have br1 : r1 < 1152921504606846976 := by omega
      have Hr1 := Lib.hid qr1; clear qr1
      obtain ⟨r2, qr2⟩ : ∃ u : Nat, u = m2 + c1 := ⟨_, rfl⟩
      rw [show (m2 : Int) + (c1 : Int) = (r2 : Int) by omega]
      have br2 : r2 < 1152921504606846976 := by omega
      have Hr2 := Lib.hid qr2; clear qr2
      obtain ⟨r3, qr3⟩ : ∃ u : Nat, u = m3 + c2 := ⟨_, rfl⟩
      rw [show (m3 : Int) + (c2 : Int) = (r3 : Int) by omega]
      have br3 : r3 < 1152921504606846976 := by omega
      have Hr3 := Lib.hid qr3; clear qr3
      obtain ⟨r4, qr4⟩ : ∃ u : Nat, u = m4 + c3 := ⟨_, rfl⟩
      rw [show (m4 : Int) + (c3 : Int) = (r4 : Int) by omega]
      have br4 : r4 < 1152921504606846976 := by omega
      have Hr4 := Lib.hid qr4; clear qr4
      clear hlow0 hlow1 hlow2 hlow3 hlow4 hcell1 hcell2 hcell3 hcell4
      have Hv := Lib.hid hv; clear hv
      go_wp2_with fail
      refine (mul19_any _ _ (by omega) (by omega)).mono ?_
      rintro e w' ⟨rfl, rfl⟩
      have eC : cpL KK = ⟨r0, r1, r2, r3, r4⟩ := by
        rw [qKK.out]
        simp only [cpL, Hr0.out, Hr1.out, Hr2.out, Hr3.out, Hr4.out, hm0.out, hm1.out, hm2.out, hm3.out, hm4.out, Hc0.out, Hc1.out, Hc2.out, Hc3.out, Hc4.out, HV14.out, HV13.out, HV12.out, HV11.out, HV10.out, HV9.out, HV8.out, HV7.out, HV6.out, HV5.out, HV4.out, HV3.out, HV2.out, HV1.out, HV0.out, qd0.out, qd1.out]
      have hbd : Bd (cpL (cpL KK)) := by rw [qKK.out]; exact sq_bd a0 a1 a2 a3 a4 ba0 ba1 ba2 ba3 ba4
      have hval : val5 (cpL (cpL KK)) % pF = xp x (2 ^ (k + 1)) := by rw [cpL_mod, cpL_mod, qKK.out, sq_val, Nat.mul_mod, HX.out]; exact xp_two x k
      rw [eC] at hbd hval
      obtain ⟨t0, qt0⟩ : ∃ u : Nat, u = r0 % 2251799813685248 + 19 * (r4 / 2251799813685248) := ⟨_, rfl⟩
      have ht0 := (cp_word19 r0 r4 (by omega) (by omega))
      rw [← qt0] at ht0
      obtain ⟨t1, qt1⟩ : ∃ u : Nat, u = r1 % 2251799813685248 + r0 / 2251799813685248 := ⟨_, rfl⟩
      have ht1 := (cp_word r1 r0 (by omega) (by omega))
      rw [← qt1] at ht1
      obtain ⟨t2, qt2⟩ : ∃ u : Nat, u = r2 % 2251799813685248 + r1 / 2251799813685248 := ⟨_, rfl⟩
      have ht2 := (cp_word r2 r1 (by omega) (by omega))
      rw [← qt2] at ht2
      obtain ⟨t3, qt3⟩ : ∃ u : Nat, u = r3 % 2251799813685248 + r2 / 2251799813685248 := ⟨_, rfl⟩
      have ht3 := (cp_word r3 r2 (by omega) (by omega))
      rw [← qt3] at ht3
      obtain ⟨t4, qt4⟩ : ∃ u : Nat, u = r4 % 2251799813685248 + r3 / 2251799813685248 := ⟨_, rfl⟩
      have ht4 := (cp_word r4 r3 (by omega) (by omega))
      rw [← qt4] at ht4
      have eL : cpL ⟨r0, r1, r2, r3, r4⟩ = ⟨t0, t1, t2, t3, t4⟩ := by rw [qt0, qt1, qt2, qt3, qt4]; rfl
      rw [eL] at hbd hval
      obtain ⟨z0, z1, z2, z3, z4⟩ := hbd
      simp only at z0 z1 z2 z3 z4
      have Hval := Lib.hid hval; clear hval eL eC qt0 qt1 qt2 qt3 qt4
      go_wp2
      go_roundw
      case rel => exact ⟨k + 1, t0, t1, t2, t3, t4, by omega, by go_num, rfl, rfl, rfl, rfl, rfl, by omega, by omega, by omega, by omega, by omega, Hval, Hv, hBw22⟩
      case measure => simp [intOf]; omega
    · have hkn : k = n := by omega
      subst hkn
      have hv := HV2.out
      have f0 := hv.frozen (i := 0) (by omega); have k0 := hv.cell (i := 0) (by omega)
      have f1 := hv.frozen (i := 1) (by omega); have k1 := hv.cell (i := 1) (by omega)
      have f2 := hv.frozen (i := 2) (by omega); have k2 := hv.cell (i := 2) (by omega)
      have f3 := hv.frozen (i := 3) (by omega); have k3 := hv.cell (i := 3) (by omega)
      have f4 := hv.frozen (i := 4) (by omega); have k4 := hv.cell (i := 4) (by omega)
      rw [Nat.add_zero] at f0 k0
      clear hv
      go_wp2
      go_end0
      exact ⟨rfl, ⟨a0, a1, a2, a3, a4⟩, ⟨by simp only; omega, by simp only; omega, by simp only; omega, by simp only; omega, by simp only; omega⟩, HX.out, Wr.ahead HB.out (Wr.five ((((((Wr.start HV2.out).set 0 _).set 1 _).set 2 _).set 3 _).set 4 _) rfl rfl rfl rfl rfl) hvl⟩
set_option maxHeartbeats 1000000 in
theorem squareN_fe (vb vo ab ao x v0 n : Nat) (hn : n ≤ 4611686018427387904) (w : World) (hv : Fe w vb vo v0) (ha : Fe w ab ao x) (R : Nat) (hR : Hid (R = xp x (2 ^ n))) :
    Calls Tryd.prog 33 #[.pointer (some ⟨vb, vo, none⟩), .pointer (some ⟨ab, ao, none⟩), .int .i64 (n : Int)] w fun e w' => e = .returned (.pointer (some ⟨vb, vo, none⟩)) ∧ Sets w w' vb vo R := by
  have hxl := ha.small
  obtain ⟨Lv, hL, _⟩ := hv
  obtain ⟨⟨a0, a1, a2, a3, a4⟩, hA, ⟨p0, p1, p2, p3, p4⟩, hx⟩ := ha
  simp only at p0 p1 p2 p3 p4
  have hx' : Hid (val5 ⟨a0, a1, a2, a3, a4⟩ % pF = xp x (2 ^ 0)) := Lib.hid (by rw [hx, Nat.pow_zero, xp_one x hxl])
  have HL := Lib.hid hL; have HA := Lib.hid hA; clear hL hA hx
  go_enter Tryd.func33, Tryd.ntmps33
  go_wp2_with fail
  refine (feSquareN_raw vb vo ab ao x n a0 a1 a2 a3 a4 (limbV Lv) (by omega) (by omega) (by omega) (by omega) (by omega) hn hx' _ HL.out (El.c0 HA.out) (El.c1 HA.out) (El.c2 HA.out) (El.c3 HA.out) (El.c4 HA.out)).mono ?_
  rintro e w1 ⟨rfl, hw⟩
  go_wp2
  go_ret
  exact ⟨rfl, by rw [hR.out]; exact hw⟩
end Go.Proofs.YtemgflkecflhmaaDoor
