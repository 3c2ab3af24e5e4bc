/- The field's product. -/
import Derived.Test.YtemgflkecflhmaaDoorKL2
set_option maxRecDepth 4000
set_option linter.unusedSimpArgs false
set_option linter.unusedVariables false
namespace Go.Proofs.YtemgflkecflhmaaDoor
open Go.RowKit

theorem mul_id (a0 a1 a2 a3 a4 b0 b1 b2 b3 b4 : Nat) : (a0 * b0 + 19 * (a1 * b4) + 19 * (a2 * b3) + 19 * (a3 * b2) + 19 * (a4 * b1)) + 2251799813685248 * (a0 * b1 + a1 * b0 + 19 * (a2 * b4) + 19 * (a3 * b3) + 19 * (a4 * b2)) + 5070602400912917605986812821504 * (a0 * b2 + a1 * b1 + a2 * b0 + 19 * (a3 * b4) + 19 * (a4 * b3)) + 11417981541647679048466287755595961091061972992 * (a0 * b3 + a1 * b2 + a2 * b1 + a3 * b0 + 19 * (a4 * b4)) + 25711008708143844408671393477458601640355247900524685364822016 * (a0 * b4 + a1 * b3 + a2 * b2 + a3 * b1 + a4 * b0) + 57896044618658097711785492504343953926634992332820282019728792003956564819949 * ((a1 * b4+a2 * b3+a3 * b2+a4 * b1) + 2251799813685248 * (a2 * b4+a3 * b3+a4 * b2) + 5070602400912917605986812821504 * (a3 * b4+a4 * b3) + 11417981541647679048466287755595961091061972992 * (a4 * b4)) = ((a0) + 2251799813685248 * (a1) + 5070602400912917605986812821504 * (a2) + 11417981541647679048466287755595961091061972992 * (a3) + 25711008708143844408671393477458601640355247900524685364822016 * (a4)) * ((b0) + 2251799813685248 * (b1) + 5070602400912917605986812821504 * (b2) + 11417981541647679048466287755595961091061972992 * (b3) + 25711008708143844408671393477458601640355247900524685364822016 * (b4)) := by
  grind
theorem mul_val (a0 a1 a2 a3 a4 b0 b1 b2 b3 b4 : Nat) : val5 ⟨a0 * b0 + 19 * (a1 * b4) + 19 * (a2 * b3) + 19 * (a3 * b2) + 19 * (a4 * b1), a0 * b1 + a1 * b0 + 19 * (a2 * b4) + 19 * (a3 * b3) + 19 * (a4 * b2), a0 * b2 + a1 * b1 + a2 * b0 + 19 * (a3 * b4) + 19 * (a4 * b3), a0 * b3 + a1 * b2 + a2 * b1 + a3 * b0 + 19 * (a4 * b4), a0 * b4 + a1 * b3 + a2 * b2 + a3 * b1 + a4 * b0⟩ % pF = val5 ⟨a0, a1, a2, a3, a4⟩ * val5 ⟨b0, b1, b2, b3, b4⟩ % pF := by
  have h := mul_id a0 a1 a2 a3 a4 b0 b1 b2 b3 b4
  unfold val5
  simp only
  rw [← h]
  unfold pF
  rw [Nat.add_mul_mod_self_left]

set_option maxRecDepth 100000 in
set_option maxHeartbeats 4000000 in
theorem feMul_raw (vb vo ab ao bb bo a0 a1 a2 a3 a4 b0 b1 b2 b3 b4 : Nat) (vs : Nat → Value) (ba0 : a0 ≤ 2252074691592191) (ba1 : a1 ≤ 2252074691592191) (ba2 : a2 ≤ 2252074691592191) (ba3 : a3 ≤ 2252074691592191) (ba4 : a4 ≤ 2252074691592191) (bb0 : b0 ≤ 2252074691592191) (bb1 : b1 ≤ 2252074691592191) (bb2 : b2 ≤ 2252074691592191) (bb3 : b3 ≤ 2252074691592191) (bb4 : b4 ≤ 2252074691592191) (KK : L5) (hKK : Hid (KK = ⟨a0 * b0 + 19 * (a1 * b4) + 19 * (a2 * b3) + 19 * (a3 * b2) + 19 * (a4 * b1), a0 * b1 + a1 * b0 + 19 * (a2 * b4) + 19 * (a3 * b3) + 19 * (a4 * b2), a0 * b2 + a1 * b1 + a2 * b0 + 19 * (a3 * b4) + 19 * (a4 * b3), a0 * b3 + a1 * b2 + a2 * b1 + a3 * b0 + 19 * (a4 * b4), a0 * b4 + a1 * b3 + a2 * b2 + a3 * b1 + a4 * b0⟩)) (w : World) (hv : Row w vb vo 5 vs) (ha0 : w.cell? ⟨ab, ao, none⟩ = some (.int .u64 (a0 : Int))) (ha1 : w.cell? ⟨ab, ao + 1, none⟩ = some (.int .u64 (a1 : Int))) (ha2 : w.cell? ⟨ab, ao + 2, none⟩ = some (.int .u64 (a2 : Int))) (ha3 : w.cell? ⟨ab, ao + 3, none⟩ = some (.int .u64 (a3 : Int))) (ha4 : w.cell? ⟨ab, ao + 4, none⟩ = some (.int .u64 (a4 : Int))) (hb0 : w.cell? ⟨bb, bo, none⟩ = some (.int .u64 (b0 : Int))) (hb1 : w.cell? ⟨bb, bo + 1, none⟩ = some (.int .u64 (b1 : Int))) (hb2 : w.cell? ⟨bb, bo + 2, none⟩ = some (.int .u64 (b2 : Int))) (hb3 : w.cell? ⟨bb, bo + 3, none⟩ = some (.int .u64 (b3 : Int))) (hb4 : w.cell? ⟨bb, bo + 4, none⟩ = some (.int .u64 (b4 : Int))) :
    Calls Tryd.prog 65 #[.pointer (some ⟨vb, vo, none⟩), .pointer (some ⟨ab, ao, none⟩), .pointer (some ⟨bb, bo, none⟩)] w fun e w' => e = .returned (.tuple #[]) ∧ Wr w w' vb vo 5 (limbV (cpL (cpL KK))) := by
  have hvl := hv.lt
  go_enter Tryd.func65, Tryd.ntmps65
  go_wp2_with fail
  obtain ⟨V0, qV0⟩ : ∃ u : Nat, u = a0 * b0 := ⟨_, rfl⟩
  have bV0 : V0 ≤ 5071840416510062208026652180481 := by have := Nat.mul_le_mul ba0 bb0; omega
  have HV0 := Lib.hid qV0; clear qV0
  refine (mul_any a0 b0 V0 (by omega) (by omega) HV0 _).mono ?_
  rintro e w1 ⟨rfl, hC1⟩
  have hs1 : w.heap.size ≤ w1.heap.size := by have := hC1.size; (try simp only [alloc_size, setRow_size] at this); omega
  replace hv : Row w1 (vb) (vo) 5 (vs) := (Row.below_all hv hC1)
  have hBw1 : Hid (Below w.heap.size w w1) := Lib.hid (below_call (Below.refl _ w) hC1)
  clear hC1
  go_wp2_with (first
    | ((with_reducible refine at_store 16 ?_); refine wpList_store_row rfl 100 _ _ rfl (w1.heap.size) (uC V0) rfl rfl 100 (zU) (heap_new_at _ _ _ rfl) (infoU_of (uC V0) (uC_size _)) (zU_size.trans (uC_size _).symm) (uC_one _) ?_)
    | ((with_reducible refine at_dst 74 ?_); refine wpList_load_row rfl 100 _ rfl (w1.heap.size) rfl 100 (uC V0) (0, 0) _ (setRow_heap _ _ _ _ _ _ (heap_new_at _ _ _ rfl)) Tryd.underlying100 rfl (infoU_of (uC V0) (uC_size _)) ?_))
  obtain ⟨V1, qV1⟩ : ∃ u : Nat, u = V0 + 19 * (a1 * b4) := ⟨_, rfl⟩
  have bV1 : V1 ≤ 101436808330201244160533043609620 := by have := Nat.mul_le_mul ba1 bb4; omega
  have HV1 := Lib.hid qV1; clear qV1
  refine (addMul19_any V0 a1 b4 V1 (by omega) (by omega) HV1 (by omega) _).mono ?_
  rintro e w2 ⟨rfl, hC2⟩
  have hs2 : w1.heap.size + 1 ≤ w2.heap.size := by have := hC2.size; (try simp only [alloc_size, setRow_size] at this); omega
  replace hv : Row w2 (vb) (vo) 5 (vs) := (Row.below_all (Row.keep (Row.alloc hv _) (setRow_other _ _ _ _ (by omega))) hC2)
  replace h16 : w2.heap[w1.heap.size]? = some (.cells (uC V0) 100 (0, 0)) := (heap_call hC2 (setRow_heap _ _ _ _ _ _ (heap_new_at _ _ _ rfl)))
  have hBw2 : Hid (Below w.heap.size w w2) := Lib.hid (below_call (below_setRow (below_alloc hBw1.out _) (by omega) _) hC2)
  clear hC2
  go_wp2_with (first
    | ((with_reducible refine at_store 16 ?_); refine wpList_store_row rfl 100 _ _ rfl (w1.heap.size) (uC V1) rfl rfl 100 (uC V0) h16 (infoU_of (uC V1) (uC_size _)) ((uC_size _).trans (uC_size _).symm) (uC_one _) ?_)
    | ((with_reducible refine at_dst 78 ?_); refine wpList_load_row rfl 100 _ rfl (w1.heap.size) rfl 100 (uC V1) (0, 0) _ (setRow_heap _ _ _ _ _ _ h16) Tryd.underlying100 rfl (infoU_of (uC V1) (uC_size _)) ?_))
  obtain ⟨V2, qV2⟩ : ∃ u : Nat, u = V1 + 19 * (a2 * b3) := ⟨_, rfl⟩
  have bV2 : V2 ≤ 197801776243892426113039435038759 := by have := Nat.mul_le_mul ba2 bb3; omega
  have HV2 := Lib.hid qV2; clear qV2
  refine (addMul19_any V1 a2 b3 V2 (by omega) (by omega) HV2 (by omega) _).mono ?_
  rintro e w3 ⟨rfl, hC3⟩
  have hs3 : w2.heap.size ≤ w3.heap.size := by have := hC3.size; (try simp only [alloc_size, setRow_size] at this); omega
  replace hv : Row w3 (vb) (vo) 5 (vs) := (Row.below_all (Row.keep hv (setRow_other _ _ _ _ (by omega))) hC3)
  replace h16 : w3.heap[w1.heap.size]? = some (.cells (uC V1) 100 (0, 0)) := (heap_call hC3 (setRow_heap _ _ _ _ _ _ h16))
  have hBw3 : Hid (Below w.heap.size w w3) := Lib.hid (below_call (below_setRow hBw2.out (by omega) _) hC3)
  clear hC3
  go_wp2_with (first
    | ((with_reducible refine at_store 16 ?_); refine wpList_store_row rfl 100 _ _ rfl (w1.heap.size) (uC V2) rfl rfl 100 (uC V1) h16 (infoU_of (uC V2) (uC_size _)) ((uC_size _).trans (uC_size _).symm) (uC_one _) ?_)
    | ((with_reducible refine at_dst 82 ?_); refine wpList_load_row rfl 100 _ rfl (w1.heap.size) rfl 100 (uC V2) (0, 0) _ (setRow_heap _ _ _ _ _ _ h16) Tryd.underlying100 rfl (infoU_of (uC V2) (uC_size _)) ?_))
  obtain ⟨V3, qV3⟩ : ∃ u : Nat, u = V2 + 19 * (a3 * b2) := ⟨_, rfl⟩
  have bV3 : V3 ≤ 294166744157583608065545826467898 := by have := Nat.mul_le_mul ba3 bb2; omega
  have HV3 := Lib.hid qV3; clear qV3
  refine (addMul19_any V2 a3 b2 V3 (by omega) (by omega) HV3 (by omega) _).mono ?_
  rintro e w4 ⟨rfl, hC4⟩
  have hs4 : w3.heap.size ≤ w4.heap.size := by have := hC4.size; (try simp only [alloc_size, setRow_size] at this); omega
  replace hv : Row w4 (vb) (vo) 5 (vs) := (Row.below_all (Row.keep hv (setRow_other _ _ _ _ (by omega))) hC4)
  replace h16 : w4.heap[w1.heap.size]? = some (.cells (uC V2) 100 (0, 0)) := (heap_call hC4 (setRow_heap _ _ _ _ _ _ h16))
  have hBw4 : Hid (Below w.heap.size w w4) := Lib.hid (below_call (below_setRow hBw3.out (by omega) _) hC4)
  clear hC4
  go_wp2_with (first
    | ((with_reducible refine at_store 16 ?_); refine wpList_store_row rfl 100 _ _ rfl (w1.heap.size) (uC V3) rfl rfl 100 (uC V2) h16 (infoU_of (uC V3) (uC_size _)) ((uC_size _).trans (uC_size _).symm) (uC_one _) ?_)
    | ((with_reducible refine at_dst 86 ?_); refine wpList_load_row rfl 100 _ rfl (w1.heap.size) rfl 100 (uC V3) (0, 0) _ (setRow_heap _ _ _ _ _ _ h16) Tryd.underlying100 rfl (infoU_of (uC V3) (uC_size _)) ?_))
  obtain ⟨V4, qV4⟩ : ∃ u : Nat, u = V3 + 19 * (a4 * b1) := ⟨_, rfl⟩
  have bV4 : V4 ≤ 390531712071274790018052217897037 := by have := Nat.mul_le_mul ba4 bb1; omega
  have HV4 := Lib.hid qV4; clear qV4
  refine (addMul19_any V3 a4 b1 V4 (by omega) (by omega) HV4 (by omega) _).mono ?_
  rintro e w5 ⟨rfl, hC5⟩
  have hs5 : w4.heap.size ≤ w5.heap.size := by have := hC5.size; (try simp only [alloc_size, setRow_size] at this); omega
  replace hv : Row w5 (vb) (vo) 5 (vs) := (Row.below_all (Row.keep hv (setRow_other _ _ _ _ (by omega))) hC5)
  replace h16 : w5.heap[w1.heap.size]? = some (.cells (uC V3) 100 (0, 0)) := (heap_call hC5 (setRow_heap _ _ _ _ _ _ h16))
  have hBw5 : Hid (Below w.heap.size w w5) := Lib.hid (below_call (below_setRow hBw4.out (by omega) _) hC5)
  clear hC5
  go_wp2_with (first
    | ((with_reducible refine at_store 16 ?_); refine wpList_store_row rfl 100 _ _ rfl (w1.heap.size) (uC V4) rfl rfl 100 (uC V3) h16 (infoU_of (uC V4) (uC_size _)) ((uC_size _).trans (uC_size _).symm) (uC_one _) ?_))
  obtain ⟨V5, qV5⟩ : ∃ u : Nat, u = a0 * b1 := ⟨_, rfl⟩
  have bV5 : V5 ≤ 5071840416510062208026652180481 := by have := Nat.mul_le_mul ba0 bb1; omega
  have HV5 := Lib.hid qV5; clear qV5
  refine (mul_any a0 b1 V5 (by omega) (by omega) HV5 _).mono ?_
  rintro e w6 ⟨rfl, hC6⟩
  have hs6 : w5.heap.size ≤ w6.heap.size := by have := hC6.size; (try simp only [alloc_size, setRow_size] at this); omega
  replace hv : Row w6 (vb) (vo) 5 (vs) := (Row.below_all (Row.keep hv (setRow_other _ _ _ _ (by omega))) hC6)
  replace h16 : w6.heap[w1.heap.size]? = some (.cells (uC V4) 100 (0, 0)) := (heap_call hC6 (setRow_heap _ _ _ _ _ _ h16))
  have hBw6 : Hid (Below w.heap.size w w6) := Lib.hid (below_call (below_setRow hBw5.out (by omega) _) hC6)
  clear hC6
  go_wp2_with (first
    | ((with_reducible refine at_store 17 ?_); refine wpList_store_row rfl 100 _ _ rfl (w6.heap.size) (uC V5) rfl rfl 100 (zU) (heap_new_at _ _ _ rfl) (infoU_of (uC V5) (uC_size _)) (zU_size.trans (uC_size _).symm) (uC_one _) ?_)
    | ((with_reducible refine at_dst 93 ?_); refine wpList_load_row rfl 100 _ rfl (w6.heap.size) rfl 100 (uC V5) (0, 0) _ (setRow_heap _ _ _ _ _ _ (heap_new_at _ _ _ rfl)) Tryd.underlying100 rfl (infoU_of (uC V5) (uC_size _)) ?_))
  obtain ⟨V6, qV6⟩ : ∃ u : Nat, u = V5 + a1 * b0 := ⟨_, rfl⟩
  have bV6 : V6 ≤ 10143680833020124416053304360962 := by have := Nat.mul_le_mul ba1 bb0; omega
  have HV6 := Lib.hid qV6; clear qV6
  refine (addMul_any V5 a1 b0 V6 (by omega) (by omega) HV6 (by omega) _).mono ?_
  rintro e w7 ⟨rfl, hC7⟩
  have hs7 : w6.heap.size + 1 ≤ w7.heap.size := by have := hC7.size; (try simp only [alloc_size, setRow_size] at this); omega
  replace hv : Row w7 (vb) (vo) 5 (vs) := (Row.below_all (Row.keep (Row.alloc hv _) (setRow_other _ _ _ _ (by omega))) hC7)
  replace h16 : w7.heap[w1.heap.size]? = some (.cells (uC V4) 100 (0, 0)) := (heap_call hC7 (heap_row _ (by omega) (heap_old _ h16)))
  replace h17 : w7.heap[w6.heap.size]? = some (.cells (uC V5) 100 (0, 0)) := (heap_call hC7 (setRow_heap _ _ _ _ _ _ (heap_new_at _ _ _ rfl)))
  have hBw7 : Hid (Below w.heap.size w w7) := Lib.hid (below_call (below_setRow (below_alloc hBw6.out _) (by omega) _) hC7)
  clear hC7
  go_wp2_with (first
    | ((with_reducible refine at_store 17 ?_); refine wpList_store_row rfl 100 _ _ rfl (w6.heap.size) (uC V6) rfl rfl 100 (uC V5) h17 (infoU_of (uC V6) (uC_size _)) ((uC_size _).trans (uC_size _).symm) (uC_one _) ?_)
    | ((with_reducible refine at_dst 97 ?_); refine wpList_load_row rfl 100 _ rfl (w6.heap.size) rfl 100 (uC V6) (0, 0) _ (setRow_heap _ _ _ _ _ _ h17) Tryd.underlying100 rfl (infoU_of (uC V6) (uC_size _)) ?_))
  obtain ⟨V7, qV7⟩ : ∃ u : Nat, u = V6 + 19 * (a2 * b4) := ⟨_, rfl⟩
  have bV7 : V7 ≤ 106508648746711306368559695790101 := by have := Nat.mul_le_mul ba2 bb4; omega
  have HV7 := Lib.hid qV7; clear qV7
  refine (addMul19_any V6 a2 b4 V7 (by omega) (by omega) HV7 (by omega) _).mono ?_
  rintro e w8 ⟨rfl, hC8⟩
  have hs8 : w7.heap.size ≤ w8.heap.size := by have := hC8.size; (try simp only [alloc_size, setRow_size] at this); omega
  replace hv : Row w8 (vb) (vo) 5 (vs) := (Row.below_all (Row.keep hv (setRow_other _ _ _ _ (by omega))) hC8)
  replace h16 : w8.heap[w1.heap.size]? = some (.cells (uC V4) 100 (0, 0)) := (heap_call hC8 (heap_row _ (by omega) h16))
  replace h17 : w8.heap[w6.heap.size]? = some (.cells (uC V6) 100 (0, 0)) := (heap_call hC8 (setRow_heap _ _ _ _ _ _ h17))
  have hBw8 : Hid (Below w.heap.size w w8) := Lib.hid (below_call (below_setRow hBw7.out (by omega) _) hC8)
  clear hC8
  go_wp2_with (first
    | ((with_reducible refine at_store 17 ?_); refine wpList_store_row rfl 100 _ _ rfl (w6.heap.size) (uC V7) rfl rfl 100 (uC V6) h17 (infoU_of (uC V7) (uC_size _)) ((uC_size _).trans (uC_size _).symm) (uC_one _) ?_)
    | ((with_reducible refine at_dst 101 ?_); refine wpList_load_row rfl 100 _ rfl (w6.heap.size) rfl 100 (uC V7) (0, 0) _ (setRow_heap _ _ _ _ _ _ h17) Tryd.underlying100 rfl (infoU_of (uC V7) (uC_size _)) ?_))
  obtain ⟨V8, qV8⟩ : ∃ u : Nat, u = V7 + 19 * (a3 * b3) := ⟨_, rfl⟩
  have bV8 : V8 ≤ 202873616660402488321066087219240 := by have := Nat.mul_le_mul ba3 bb3; omega
  have HV8 := Lib.hid qV8; clear qV8
  refine (addMul19_any V7 a3 b3 V8 (by omega) (by omega) HV8 (by omega) _).mono ?_
  rintro e w9 ⟨rfl, hC9⟩
  have hs9 : w8.heap.size ≤ w9.heap.size := by have := hC9.size; (try simp only [alloc_size, setRow_size] at this); omega
  replace hv : Row w9 (vb) (vo) 5 (vs) := (Row.below_all (Row.keep hv (setRow_other _ _ _ _ (by omega))) hC9)
  replace h16 : w9.heap[w1.heap.size]? = some (.cells (uC V4) 100 (0, 0)) := (heap_call hC9 (heap_row _ (by omega) h16))
  replace h17 : w9.heap[w6.heap.size]? = some (.cells (uC V7) 100 (0, 0)) := (heap_call hC9 (setRow_heap _ _ _ _ _ _ h17))
  have hBw9 : Hid (Below w.heap.size w w9) := Lib.hid (below_call (below_setRow hBw8.out (by omega) _) hC9)
  clear hC9
  go_wp2_with (first
    | ((with_reducible refine at_store 17 ?_); refine wpList_store_row rfl 100 _ _ rfl (w6.heap.size) (uC V8) rfl rfl 100 (uC V7) h17 (infoU_of (uC V8) (uC_size _)) ((uC_size _).trans (uC_size _).symm) (uC_one _) ?_)
    | ((with_reducible refine at_dst 105 ?_); refine wpList_load_row rfl 100 _ rfl (w6.heap.size) rfl 100 (uC V8) (0, 0) _ (setRow_heap _ _ _ _ _ _ h17) Tryd.underlying100 rfl (infoU_of (uC V8) (uC_size _)) ?_))
  obtain ⟨V9, qV9⟩ : ∃ u : Nat, u = V8 + 19 * (a4 * b2) := ⟨_, rfl⟩
  have bV9 : V9 ≤ 299238584574093670273572478648379 := by have := Nat.mul_le_mul ba4 bb2; omega
  have HV9 := Lib.hid qV9; clear qV9
  refine (addMul19_any V8 a4 b2 V9 (by omega) (by omega) HV9 (by omega) _).mono ?_
  rintro e w10 ⟨rfl, hC10⟩
  have hs10 : w9.heap.size ≤ w10.heap.size := by have := hC10.size; (try simp only [alloc_size, setRow_size] at this); omega
  replace hv : Row w10 (vb) (vo) 5 (vs) := (Row.below_all (Row.keep hv (setRow_other _ _ _ _ (by omega))) hC10)
  replace h16 : w10.heap[w1.heap.size]? = some (.cells (uC V4) 100 (0, 0)) := (heap_call hC10 (heap_row _ (by omega) h16))
  replace h17 : w10.heap[w6.heap.size]? = some (.cells (uC V8) 100 (0, 0)) := (heap_call hC10 (setRow_heap _ _ _ _ _ _ h17))
  have hBw10 : Hid (Below w.heap.size w w10) := Lib.hid (below_call (below_setRow hBw9.out (by omega) _) hC10)
  clear hC10
  go_wp2_with (first
    | ((with_reducible refine at_store 17 ?_); refine wpList_store_row rfl 100 _ _ rfl (w6.heap.size) (uC V9) rfl rfl 100 (uC V8) h17 (infoU_of (uC V9) (uC_size _)) ((uC_size _).trans (uC_size _).symm) (uC_one _) ?_))
  obtain ⟨V10, qV10⟩ : ∃ u : Nat, u = a0 * b2 := ⟨_, rfl⟩
  have bV10 : V10 ≤ 5071840416510062208026652180481 := by have := Nat.mul_le_mul ba0 bb2; omega
  have HV10 := Lib.hid qV10; clear qV10
  refine (mul_any a0 b2 V10 (by omega) (by omega) HV10 _).mono ?_
  rintro e w11 ⟨rfl, hC11⟩
  have hs11 : w10.heap.size ≤ w11.heap.size := by have := hC11.size; (try simp only [alloc_size, setRow_size] at this); omega
  replace hv : Row w11 (vb) (vo) 5 (vs) := (Row.below_all (Row.keep hv (setRow_other _ _ _ _ (by omega))) hC11)
  replace h16 : w11.heap[w1.heap.size]? = some (.cells (uC V4) 100 (0, 0)) := (heap_call hC11 (heap_row _ (by omega) h16))
  replace h17 : w11.heap[w6.heap.size]? = some (.cells (uC V9) 100 (0, 0)) := (heap_call hC11 (setRow_heap _ _ _ _ _ _ h17))
  have hBw11 : Hid (Below w.heap.size w w11) := Lib.hid (below_call (below_setRow hBw10.out (by omega) _) hC11)
  clear hC11
  go_wp2_with (first
    | ((with_reducible refine at_store 18 ?_); refine wpList_store_row rfl 100 _ _ rfl (w11.heap.size) (uC V10) rfl rfl 100 (zU) (heap_new_at _ _ _ rfl) (infoU_of (uC V10) (uC_size _)) (zU_size.trans (uC_size _).symm) (uC_one _) ?_)
    | ((with_reducible refine at_dst 112 ?_); refine wpList_load_row rfl 100 _ rfl (w11.heap.size) rfl 100 (uC V10) (0, 0) _ (setRow_heap _ _ _ _ _ _ (heap_new_at _ _ _ rfl)) Tryd.underlying100 rfl (infoU_of (uC V10) (uC_size _)) ?_))
  obtain ⟨V11, qV11⟩ : ∃ u : Nat, u = V10 + a1 * b1 := ⟨_, rfl⟩
  have bV11 : V11 ≤ 10143680833020124416053304360962 := by have := Nat.mul_le_mul ba1 bb1; omega
  have HV11 := Lib.hid qV11; clear qV11
  refine (addMul_any V10 a1 b1 V11 (by omega) (by omega) HV11 (by omega) _).mono ?_
  rintro e w12 ⟨rfl, hC12⟩
  have hs12 : w11.heap.size + 1 ≤ w12.heap.size := by have := hC12.size; (try simp only [alloc_size, setRow_size] at this); omega
  replace hv : Row w12 (vb) (vo) 5 (vs) := (Row.below_all (Row.keep (Row.alloc hv _) (setRow_other _ _ _ _ (by omega))) hC12)
  replace h16 : w12.heap[w1.heap.size]? = some (.cells (uC V4) 100 (0, 0)) := (heap_call hC12 (heap_row _ (by omega) (heap_old _ h16)))
  replace h17 : w12.heap[w6.heap.size]? = some (.cells (uC V9) 100 (0, 0)) := (heap_call hC12 (heap_row _ (by omega) (heap_old _ h17)))
  replace h18 : w12.heap[w11.heap.size]? = some (.cells (uC V10) 100 (0, 0)) := (heap_call hC12 (setRow_heap _ _ _ _ _ _ (heap_new_at _ _ _ rfl)))
  have hBw12 : Hid (Below w.heap.size w w12) := Lib.hid (below_call (below_setRow (below_alloc hBw11.out _) (by omega) _) hC12)
  clear hC12
  go_wp2_with (first
    | ((with_reducible refine at_store 18 ?_); refine wpList_store_row rfl 100 _ _ rfl (w11.heap.size) (uC V11) rfl rfl 100 (uC V10) h18 (infoU_of (uC V11) (uC_size _)) ((uC_size _).trans (uC_size _).symm) (uC_one _) ?_)
    | ((with_reducible refine at_dst 116 ?_); refine wpList_load_row rfl 100 _ rfl (w11.heap.size) rfl 100 (uC V11) (0, 0) _ (setRow_heap _ _ _ _ _ _ h18) Tryd.underlying100 rfl (infoU_of (uC V11) (uC_size _)) ?_))
  obtain ⟨V12, qV12⟩ : ∃ u : Nat, u = V11 + a2 * b0 := ⟨_, rfl⟩
  have bV12 : V12 ≤ 15215521249530186624079956541443 := by have := Nat.mul_le_mul ba2 bb0; omega
  have HV12 := Lib.hid qV12; clear qV12
  refine (addMul_any V11 a2 b0 V12 (by omega) (by omega) HV12 (by omega) _).mono ?_
  rintro e w13 ⟨rfl, hC13⟩
  have hs13 : w12.heap.size ≤ w13.heap.size := by have := hC13.size; (try simp only [alloc_size, setRow_size] at this); omega
  replace hv : Row w13 (vb) (vo) 5 (vs) := (Row.below_all (Row.keep hv (setRow_other _ _ _ _ (by omega))) hC13)
  replace h16 : w13.heap[w1.heap.size]? = some (.cells (uC V4) 100 (0, 0)) := (heap_call hC13 (heap_row _ (by omega) h16))
  replace h17 : w13.heap[w6.heap.size]? = some (.cells (uC V9) 100 (0, 0)) := (heap_call hC13 (heap_row _ (by omega) h17))
  replace h18 : w13.heap[w11.heap.size]? = some (.cells (uC V11) 100 (0, 0)) := (heap_call hC13 (setRow_heap _ _ _ _ _ _ h18))
  have hBw13 : Hid (Below w.heap.size w w13) := Lib.hid (below_call (below_setRow hBw12.out (by omega) _) hC13)
  clear hC13
  go_wp2_with (first
    | ((with_reducible refine at_store 18 ?_); refine wpList_store_row rfl 100 _ _ rfl (w11.heap.size) (uC V12) rfl rfl 100 (uC V11) h18 (infoU_of (uC V12) (uC_size _)) ((uC_size _).trans (uC_size _).symm) (uC_one _) ?_)
    | ((with_reducible refine at_dst 120 ?_); refine wpList_load_row rfl 100 _ rfl (w11.heap.size) rfl 100 (uC V12) (0, 0) _ (setRow_heap _ _ _ _ _ _ h18) Tryd.underlying100 rfl (infoU_of (uC V12) (uC_size _)) ?_))
  obtain ⟨V13, qV13⟩ : ∃ u : Nat, u = V12 + 19 * (a3 * b4) := ⟨_, rfl⟩
  have bV13 : V13 ≤ 111580489163221368576586347970582 := by have := Nat.mul_le_mul ba3 bb4; omega
  have HV13 := Lib.hid qV13; clear qV13
  refine (addMul19_any V12 a3 b4 V13 (by omega) (by omega) HV13 (by omega) _).mono ?_
  rintro e w14 ⟨rfl, hC14⟩
  have hs14 : w13.heap.size ≤ w14.heap.size := by have := hC14.size; (try simp only [alloc_size, setRow_size] at this); omega
  replace hv : Row w14 (vb) (vo) 5 (vs) := (Row.below_all (Row.keep hv (setRow_other _ _ _ _ (by omega))) hC14)
  replace h16 : w14.heap[w1.heap.size]? = some (.cells (uC V4) 100 (0, 0)) := (heap_call hC14 (heap_row _ (by omega) h16))
  replace h17 : w14.heap[w6.heap.size]? = some (.cells (uC V9) 100 (0, 0)) := (heap_call hC14 (heap_row _ (by omega) h17))
  replace h18 : w14.heap[w11.heap.size]? = some (.cells (uC V12) 100 (0, 0)) := (heap_call hC14 (setRow_heap _ _ _ _ _ _ h18))
  have hBw14 : Hid (Below w.heap.size w w14) := Lib.hid (below_call (below_setRow hBw13.out (by omega) _) hC14)
  clear hC14
  go_wp2_with (first
    | ((with_reducible refine at_store 18 ?_); refine wpList_store_row rfl 100 _ _ rfl (w11.heap.size) (uC V13) rfl rfl 100 (uC V12) h18 (infoU_of (uC V13) (uC_size _)) ((uC_size _).trans (uC_size _).symm) (uC_one _) ?_)
    | ((with_reducible refine at_dst 124 ?_); refine wpList_load_row rfl 100 _ rfl (w11.heap.size) rfl 100 (uC V13) (0, 0) _ (setRow_heap _ _ _ _ _ _ h18) Tryd.underlying100 rfl (infoU_of (uC V13) (uC_size _)) ?_))
  obtain ⟨V14, qV14⟩ : ∃ u : Nat, u = V13 + 19 * (a4 * b3) := ⟨_, rfl⟩
  have bV14 : V14 ≤ 207945457076912550529092739399721 := by have := Nat.mul_le_mul ba4 bb3; omega
  have HV14 := Lib.hid qV14; clear qV14
  refine (addMul19_any V13 a4 b3 V14 (by omega) (by omega) HV14 (by omega) _).mono ?_
  rintro e w15 ⟨rfl, hC15⟩
  have hs15 : w14.heap.size ≤ w15.heap.size := by have := hC15.size; (try simp only [alloc_size, setRow_size] at this); omega
  replace hv : Row w15 (vb) (vo) 5 (vs) := (Row.below_all (Row.keep hv (setRow_other _ _ _ _ (by omega))) hC15)
  replace h16 : w15.heap[w1.heap.size]? = some (.cells (uC V4) 100 (0, 0)) := (heap_call hC15 (heap_row _ (by omega) h16))
  replace h17 : w15.heap[w6.heap.size]? = some (.cells (uC V9) 100 (0, 0)) := (heap_call hC15 (heap_row _ (by omega) h17))
  replace h18 : w15.heap[w11.heap.size]? = some (.cells (uC V13) 100 (0, 0)) := (heap_call hC15 (setRow_heap _ _ _ _ _ _ h18))
  have hBw15 : Hid (Below w.heap.size w w15) := Lib.hid (below_call (below_setRow hBw14.out (by omega) _) hC15)
  clear hC15
  go_wp2_with (first
    | ((with_reducible refine at_store 18 ?_); refine wpList_store_row rfl 100 _ _ rfl (w11.heap.size) (uC V14) rfl rfl 100 (uC V13) h18 (infoU_of (uC V14) (uC_size _)) ((uC_size _).trans (uC_size _).symm) (uC_one _) ?_))
  obtain ⟨V15, qV15⟩ : ∃ u : Nat, u = a0 * b3 := ⟨_, rfl⟩
  have bV15 : V15 ≤ 5071840416510062208026652180481 := by have := Nat.mul_le_mul ba0 bb3; omega
  have HV15 := Lib.hid qV15; clear qV15
  refine (mul_any a0 b3 V15 (by omega) (by omega) HV15 _).mono ?_
  rintro e w16 ⟨rfl, hC16⟩
  have hs16 : w15.heap.size ≤ w16.heap.size := by have := hC16.size; (try simp only [alloc_size, setRow_size] at this); omega
  replace hv : Row w16 (vb) (vo) 5 (vs) := (Row.below_all (Row.keep hv (setRow_other _ _ _ _ (by omega))) hC16)
  replace h16 : w16.heap[w1.heap.size]? = some (.cells (uC V4) 100 (0, 0)) := (heap_call hC16 (heap_row _ (by omega) h16))
  replace h17 : w16.heap[w6.heap.size]? = some (.cells (uC V9) 100 (0, 0)) := (heap_call hC16 (heap_row _ (by omega) h17))
  replace h18 : w16.heap[w11.heap.size]? = some (.cells (uC V14) 100 (0, 0)) := (heap_call hC16 (setRow_heap _ _ _ _ _ _ h18))
  have hBw16 : Hid (Below w.heap.size w w16) := Lib.hid (below_call (below_setRow hBw15.out (by omega) _) hC16)
  clear hC16
  go_wp2_with (first
    | ((with_reducible refine at_store 19 ?_); refine wpList_store_row rfl 100 _ _ rfl (w16.heap.size) (uC V15) rfl rfl 100 (zU) (heap_new_at _ _ _ rfl) (infoU_of (uC V15) (uC_size _)) (zU_size.trans (uC_size _).symm) (uC_one _) ?_)
    | ((with_reducible refine at_dst 131 ?_); refine wpList_load_row rfl 100 _ rfl (w16.heap.size) rfl 100 (uC V15) (0, 0) _ (setRow_heap _ _ _ _ _ _ (heap_new_at _ _ _ rfl)) Tryd.underlying100 rfl (infoU_of (uC V15) (uC_size _)) ?_))
  obtain ⟨V16, qV16⟩ : ∃ u : Nat, u = V15 + a1 * b2 := ⟨_, rfl⟩
  have bV16 : V16 ≤ 10143680833020124416053304360962 := by have := Nat.mul_le_mul ba1 bb2; omega
  have HV16 := Lib.hid qV16; clear qV16
  refine (addMul_any V15 a1 b2 V16 (by omega) (by omega) HV16 (by omega) _).mono ?_
  rintro e w17 ⟨rfl, hC17⟩
  have hs17 : w16.heap.size + 1 ≤ w17.heap.size := by have := hC17.size; (try simp only [alloc_size, setRow_size] at this); omega
  replace hv : Row w17 (vb) (vo) 5 (vs) := (Row.below_all (Row.keep (Row.alloc hv _) (setRow_other _ _ _ _ (by omega))) hC17)
  replace h16 : w17.heap[w1.heap.size]? = some (.cells (uC V4) 100 (0, 0)) := (heap_call hC17 (heap_row _ (by omega) (heap_old _ h16)))
  replace h17 : w17.heap[w6.heap.size]? = some (.cells (uC V9) 100 (0, 0)) := (heap_call hC17 (heap_row _ (by omega) (heap_old _ h17)))
  replace h18 : w17.heap[w11.heap.size]? = some (.cells (uC V14) 100 (0, 0)) := (heap_call hC17 (heap_row _ (by omega) (heap_old _ h18)))
  replace h19 : w17.heap[w16.heap.size]? = some (.cells (uC V15) 100 (0, 0)) := (heap_call hC17 (setRow_heap _ _ _ _ _ _ (heap_new_at _ _ _ rfl)))
  have hBw17 : Hid (Below w.heap.size w w17) := Lib.hid (below_call (below_setRow (below_alloc hBw16.out _) (by omega) _) hC17)
  clear hC17
  go_wp2_with (first
    | ((with_reducible refine at_store 19 ?_); refine wpList_store_row rfl 100 _ _ rfl (w16.heap.size) (uC V16) rfl rfl 100 (uC V15) h19 (infoU_of (uC V16) (uC_size _)) ((uC_size _).trans (uC_size _).symm) (uC_one _) ?_)
    | ((with_reducible refine at_dst 135 ?_); refine wpList_load_row rfl 100 _ rfl (w16.heap.size) rfl 100 (uC V16) (0, 0) _ (setRow_heap _ _ _ _ _ _ h19) Tryd.underlying100 rfl (infoU_of (uC V16) (uC_size _)) ?_))
  obtain ⟨V17, qV17⟩ : ∃ u : Nat, u = V16 + a2 * b1 := ⟨_, rfl⟩
  have bV17 : V17 ≤ 15215521249530186624079956541443 := by have := Nat.mul_le_mul ba2 bb1; omega
  have HV17 := Lib.hid qV17; clear qV17
  refine (addMul_any V16 a2 b1 V17 (by omega) (by omega) HV17 (by omega) _).mono ?_
  rintro e w18 ⟨rfl, hC18⟩
  have hs18 : w17.heap.size ≤ w18.heap.size := by have := hC18.size; (try simp only [alloc_size, setRow_size] at this); omega
  replace hv : Row w18 (vb) (vo) 5 (vs) := (Row.below_all (Row.keep hv (setRow_other _ _ _ _ (by omega))) hC18)
  replace h16 : w18.heap[w1.heap.size]? = some (.cells (uC V4) 100 (0, 0)) := (heap_call hC18 (heap_row _ (by omega) h16))
  replace h17 : w18.heap[w6.heap.size]? = some (.cells (uC V9) 100 (0, 0)) := (heap_call hC18 (heap_row _ (by omega) h17))
  replace h18 : w18.heap[w11.heap.size]? = some (.cells (uC V14) 100 (0, 0)) := (heap_call hC18 (heap_row _ (by omega) h18))
  replace h19 : w18.heap[w16.heap.size]? = some (.cells (uC V16) 100 (0, 0)) := (heap_call hC18 (setRow_heap _ _ _ _ _ _ h19))
  have hBw18 : Hid (Below w.heap.size w w18) := Lib.hid (below_call (below_setRow hBw17.out (by omega) _) hC18)
  clear hC18
  go_wp2_with (first
    | ((with_reducible refine at_store 19 ?_); refine wpList_store_row rfl 100 _ _ rfl (w16.heap.size) (uC V17) rfl rfl 100 (uC V16) h19 (infoU_of (uC V17) (uC_size _)) ((uC_size _).trans (uC_size _).symm) (uC_one _) ?_)
    | ((with_reducible refine at_dst 139 ?_); refine wpList_load_row rfl 100 _ rfl (w16.heap.size) rfl 100 (uC V17) (0, 0) _ (setRow_heap _ _ _ _ _ _ h19) Tryd.underlying100 rfl (infoU_of (uC V17) (uC_size _)) ?_))
  obtain ⟨V18, qV18⟩ : ∃ u : Nat, u = V17 + a3 * b0 := ⟨_, rfl⟩
  have bV18 : V18 ≤ 20287361666040248832106608721924 := by have := Nat.mul_le_mul ba3 bb0; omega
  have HV18 := Lib.hid qV18; clear qV18
  refine (addMul_any V17 a3 b0 V18 (by omega) (by omega) HV18 (by omega) _).mono ?_
  rintro e w19 ⟨rfl, hC19⟩
  have hs19 : w18.heap.size ≤ w19.heap.size := by have := hC19.size; (try simp only [alloc_size, setRow_size] at this); omega
  replace hv : Row w19 (vb) (vo) 5 (vs) := (Row.below_all (Row.keep hv (setRow_other _ _ _ _ (by omega))) hC19)
  replace h16 : w19.heap[w1.heap.size]? = some (.cells (uC V4) 100 (0, 0)) := (heap_call hC19 (heap_row _ (by omega) h16))
  replace h17 : w19.heap[w6.heap.size]? = some (.cells (uC V9) 100 (0, 0)) := (heap_call hC19 (heap_row _ (by omega) h17))
  replace h18 : w19.heap[w11.heap.size]? = some (.cells (uC V14) 100 (0, 0)) := (heap_call hC19 (heap_row _ (by omega) h18))
  replace h19 : w19.heap[w16.heap.size]? = some (.cells (uC V17) 100 (0, 0)) := (heap_call hC19 (setRow_heap _ _ _ _ _ _ h19))
  have hBw19 : Hid (Below w.heap.size w w19) := Lib.hid (below_call (below_setRow hBw18.out (by omega) _) hC19)
  clear hC19
  go_wp2_with (first
    | ((with_reducible refine at_store 19 ?_); refine wpList_store_row rfl 100 _ _ rfl (w16.heap.size) (uC V18) rfl rfl 100 (uC V17) h19 (infoU_of (uC V18) (uC_size _)) ((uC_size _).trans (uC_size _).symm) (uC_one _) ?_)
    | ((with_reducible refine at_dst 143 ?_); refine wpList_load_row rfl 100 _ rfl (w16.heap.size) rfl 100 (uC V18) (0, 0) _ (setRow_heap _ _ _ _ _ _ h19) Tryd.underlying100 rfl (infoU_of (uC V18) (uC_size _)) ?_))
  obtain ⟨V19, qV19⟩ : ∃ u : Nat, u = V18 + 19 * (a4 * b4) := ⟨_, rfl⟩
  have bV19 : V19 ≤ 116652329579731430784613000151063 := by have := Nat.mul_le_mul ba4 bb4; omega
  have HV19 := Lib.hid qV19; clear qV19
  refine (addMul19_any V18 a4 b4 V19 (by omega) (by omega) HV19 (by omega) _).mono ?_
  rintro e w20 ⟨rfl, hC20⟩
  have hs20 : w19.heap.size ≤ w20.heap.size := by have := hC20.size; (try simp only [alloc_size, setRow_size] at this); omega
  replace hv : Row w20 (vb) (vo) 5 (vs) := (Row.below_all (Row.keep hv (setRow_other _ _ _ _ (by omega))) hC20)
  replace h16 : w20.heap[w1.heap.size]? = some (.cells (uC V4) 100 (0, 0)) := (heap_call hC20 (heap_row _ (by omega) h16))
  replace h17 : w20.heap[w6.heap.size]? = some (.cells (uC V9) 100 (0, 0)) := (heap_call hC20 (heap_row _ (by omega) h17))
  replace h18 : w20.heap[w11.heap.size]? = some (.cells (uC V14) 100 (0, 0)) := (heap_call hC20 (heap_row _ (by omega) h18))
  replace h19 : w20.heap[w16.heap.size]? = some (.cells (uC V18) 100 (0, 0)) := (heap_call hC20 (setRow_heap _ _ _ _ _ _ h19))
  have hBw20 : Hid (Below w.heap.size w w20) := Lib.hid (below_call (below_setRow hBw19.out (by omega) _) hC20)
  clear hC20
  go_wp2_with (first
    | ((with_reducible refine at_store 19 ?_); refine wpList_store_row rfl 100 _ _ rfl (w16.heap.size) (uC V19) rfl rfl 100 (uC V18) h19 (infoU_of (uC V19) (uC_size _)) ((uC_size _).trans (uC_size _).symm) (uC_one _) ?_))
  obtain ⟨V20, qV20⟩ : ∃ u : Nat, u = a0 * b4 := ⟨_, rfl⟩
  have bV20 : V20 ≤ 5071840416510062208026652180481 := by have := Nat.mul_le_mul ba0 bb4; omega
  have HV20 := Lib.hid qV20; clear qV20
  refine (mul_any a0 b4 V20 (by omega) (by omega) HV20 _).mono ?_
  rintro e w21 ⟨rfl, hC21⟩
  have hs21 : w20.heap.size ≤ w21.heap.size := by have := hC21.size; (try simp only [alloc_size, setRow_size] at this); omega
  replace hv : Row w21 (vb) (vo) 5 (vs) := (Row.below_all (Row.keep hv (setRow_other _ _ _ _ (by omega))) hC21)
  replace h16 : w21.heap[w1.heap.size]? = some (.cells (uC V4) 100 (0, 0)) := (heap_call hC21 (heap_row _ (by omega) h16))
  replace h17 : w21.heap[w6.heap.size]? = some (.cells (uC V9) 100 (0, 0)) := (heap_call hC21 (heap_row _ (by omega) h17))
  replace h18 : w21.heap[w11.heap.size]? = some (.cells (uC V14) 100 (0, 0)) := (heap_call hC21 (heap_row _ (by omega) h18))
  replace h19 : w21.heap[w16.heap.size]? = some (.cells (uC V19) 100 (0, 0)) := (heap_call hC21 (setRow_heap _ _ _ _ _ _ h19))
  have hBw21 : Hid (Below w.heap.size w w21) := Lib.hid (below_call (below_setRow hBw20.out (by omega) _) hC21)
  clear hC21
  go_wp2_with (first
    | ((with_reducible refine at_store 20 ?_); refine wpList_store_row rfl 100 _ _ rfl (w21.heap.size) (uC V20) rfl rfl 100 (zU) (heap_new_at _ _ _ rfl) (infoU_of (uC V20) (uC_size _)) (zU_size.trans (uC_size _).symm) (uC_one _) ?_)
    | ((with_reducible refine at_dst 150 ?_); refine wpList_load_row rfl 100 _ rfl (w21.heap.size) rfl 100 (uC V20) (0, 0) _ (setRow_heap _ _ _ _ _ _ (heap_new_at _ _ _ rfl)) Tryd.underlying100 rfl (infoU_of (uC V20) (uC_size _)) ?_))
  obtain ⟨V21, qV21⟩ : ∃ u : Nat, u = V20 + a1 * b3 := ⟨_, rfl⟩
  have bV21 : V21 ≤ 10143680833020124416053304360962 := by have := Nat.mul_le_mul ba1 bb3; omega
  have HV21 := Lib.hid qV21; clear qV21
  refine (addMul_any V20 a1 b3 V21 (by omega) (by omega) HV21 (by omega) _).mono ?_
  rintro e w22 ⟨rfl, hC22⟩
  have hs22 : w21.heap.size + 1 ≤ w22.heap.size := by have := hC22.size; (try simp only [alloc_size, setRow_size] at this); omega
  replace hv : Row w22 (vb) (vo) 5 (vs) := (Row.below_all (Row.keep (Row.alloc hv _) (setRow_other _ _ _ _ (by omega))) hC22)
  replace h16 : w22.heap[w1.heap.size]? = some (.cells (uC V4) 100 (0, 0)) := (heap_call hC22 (heap_row _ (by omega) (heap_old _ h16)))
  replace h17 : w22.heap[w6.heap.size]? = some (.cells (uC V9) 100 (0, 0)) := (heap_call hC22 (heap_row _ (by omega) (heap_old _ h17)))
  replace h18 : w22.heap[w11.heap.size]? = some (.cells (uC V14) 100 (0, 0)) := (heap_call hC22 (heap_row _ (by omega) (heap_old _ h18)))
  replace h19 : w22.heap[w16.heap.size]? = some (.cells (uC V19) 100 (0, 0)) := (heap_call hC22 (heap_row _ (by omega) (heap_old _ h19)))
  replace h20 : w22.heap[w21.heap.size]? = some (.cells (uC V20) 100 (0, 0)) := (heap_call hC22 (setRow_heap _ _ _ _ _ _ (heap_new_at _ _ _ rfl)))
  have hBw22 : Hid (Below w.heap.size w w22) := Lib.hid (below_call (below_setRow (below_alloc hBw21.out _) (by omega) _) hC22)
  clear hC22
  go_wp2_with (first
    | ((with_reducible refine at_store 20 ?_); refine wpList_store_row rfl 100 _ _ rfl (w21.heap.size) (uC V21) rfl rfl 100 (uC V20) h20 (infoU_of (uC V21) (uC_size _)) ((uC_size _).trans (uC_size _).symm) (uC_one _) ?_)
    | ((with_reducible refine at_dst 154 ?_); refine wpList_load_row rfl 100 _ rfl (w21.heap.size) rfl 100 (uC V21) (0, 0) _ (setRow_heap _ _ _ _ _ _ h20) Tryd.underlying100 rfl (infoU_of (uC V21) (uC_size _)) ?_))
  obtain ⟨V22, qV22⟩ : ∃ u : Nat, u = V21 + a2 * b2 := ⟨_, rfl⟩
  have bV22 : V22 ≤ 15215521249530186624079956541443 := by have := Nat.mul_le_mul ba2 bb2; omega
  have HV22 := Lib.hid qV22; clear qV22
  refine (addMul_any V21 a2 b2 V22 (by omega) (by omega) HV22 (by omega) _).mono ?_
  rintro e w23 ⟨rfl, hC23⟩
  have hs23 : w22.heap.size ≤ w23.heap.size := by have := hC23.size; (try simp only [alloc_size, setRow_size] at this); omega
  replace hv : Row w23 (vb) (vo) 5 (vs) := (Row.below_all (Row.keep hv (setRow_other _ _ _ _ (by omega))) hC23)
  replace h16 : w23.heap[w1.heap.size]? = some (.cells (uC V4) 100 (0, 0)) := (heap_call hC23 (heap_row _ (by omega) h16))
  replace h17 : w23.heap[w6.heap.size]? = some (.cells (uC V9) 100 (0, 0)) := (heap_call hC23 (heap_row _ (by omega) h17))
  replace h18 : w23.heap[w11.heap.size]? = some (.cells (uC V14) 100 (0, 0)) := (heap_call hC23 (heap_row _ (by omega) h18))
  replace h19 : w23.heap[w16.heap.size]? = some (.cells (uC V19) 100 (0, 0)) := (heap_call hC23 (heap_row _ (by omega) h19))
  replace h20 : w23.heap[w21.heap.size]? = some (.cells (uC V21) 100 (0, 0)) := (heap_call hC23 (setRow_heap _ _ _ _ _ _ h20))
  have hBw23 : Hid (Below w.heap.size w w23) := Lib.hid (below_call (below_setRow hBw22.out (by omega) _) hC23)
  clear hC23
  go_wp2_with (first
    | ((with_reducible refine at_store 20 ?_); refine wpList_store_row rfl 100 _ _ rfl (w21.heap.size) (uC V22) rfl rfl 100 (uC V21) h20 (infoU_of (uC V22) (uC_size _)) ((uC_size _).trans (uC_size _).symm) (uC_one _) ?_)
    | ((with_reducible refine at_dst 158 ?_); refine wpList_load_row rfl 100 _ rfl (w21.heap.size) rfl 100 (uC V22) (0, 0) _ (setRow_heap _ _ _ _ _ _ h20) Tryd.underlying100 rfl (infoU_of (uC V22) (uC_size _)) ?_))
  obtain ⟨V23, qV23⟩ : ∃ u : Nat, u = V22 + a3 * b1 := ⟨_, rfl⟩
  have bV23 : V23 ≤ 20287361666040248832106608721924 := by have := Nat.mul_le_mul ba3 bb1; omega
  have HV23 := Lib.hid qV23; clear qV23
  refine (addMul_any V22 a3 b1 V23 (by omega) (by omega) HV23 (by omega) _).mono ?_
  rintro e w24 ⟨rfl, hC24⟩
  have hs24 : w23.heap.size ≤ w24.heap.size := by have := hC24.size; (try simp only [alloc_size, setRow_size] at this); omega
  replace hv : Row w24 (vb) (vo) 5 (vs) := (Row.below_all (Row.keep hv (setRow_other _ _ _ _ (by omega))) hC24)
  replace h16 : w24.heap[w1.heap.size]? = some (.cells (uC V4) 100 (0, 0)) := (heap_call hC24 (heap_row _ (by omega) h16))
  replace h17 : w24.heap[w6.heap.size]? = some (.cells (uC V9) 100 (0, 0)) := (heap_call hC24 (heap_row _ (by omega) h17))
  replace h18 : w24.heap[w11.heap.size]? = some (.cells (uC V14) 100 (0, 0)) := (heap_call hC24 (heap_row _ (by omega) h18))
  replace h19 : w24.heap[w16.heap.size]? = some (.cells (uC V19) 100 (0, 0)) := (heap_call hC24 (heap_row _ (by omega) h19))
  replace h20 : w24.heap[w21.heap.size]? = some (.cells (uC V22) 100 (0, 0)) := (heap_call hC24 (setRow_heap _ _ _ _ _ _ h20))
  have hBw24 : Hid (Below w.heap.size w w24) := Lib.hid (below_call (below_setRow hBw23.out (by omega) _) hC24)
  clear hC24
  go_wp2_with (first
    | ((with_reducible refine at_store 20 ?_); refine wpList_store_row rfl 100 _ _ rfl (w21.heap.size) (uC V23) rfl rfl 100 (uC V22) h20 (infoU_of (uC V23) (uC_size _)) ((uC_size _).trans (uC_size _).symm) (uC_one _) ?_)
    | ((with_reducible refine at_dst 162 ?_); refine wpList_load_row rfl 100 _ rfl (w21.heap.size) rfl 100 (uC V23) (0, 0) _ (setRow_heap _ _ _ _ _ _ h20) Tryd.underlying100 rfl (infoU_of (uC V23) (uC_size _)) ?_))
  obtain ⟨V24, qV24⟩ : ∃ u : Nat, u = V23 + a4 * b0 := ⟨_, rfl⟩
  have bV24 : V24 ≤ 25359202082550311040133260902405 := by have := Nat.mul_le_mul ba4 bb0; omega
  have HV24 := Lib.hid qV24; clear qV24
  refine (addMul_any V23 a4 b0 V24 (by omega) (by omega) HV24 (by omega) _).mono ?_
  rintro e w25 ⟨rfl, hC25⟩
  have hs25 : w24.heap.size ≤ w25.heap.size := by have := hC25.size; (try simp only [alloc_size, setRow_size] at this); omega
  replace hv : Row w25 (vb) (vo) 5 (vs) := (Row.below_all (Row.keep hv (setRow_other _ _ _ _ (by omega))) hC25)
  replace h16 : w25.heap[w1.heap.size]? = some (.cells (uC V4) 100 (0, 0)) := (heap_call hC25 (heap_row _ (by omega) h16))
  replace h17 : w25.heap[w6.heap.size]? = some (.cells (uC V9) 100 (0, 0)) := (heap_call hC25 (heap_row _ (by omega) h17))
  replace h18 : w25.heap[w11.heap.size]? = some (.cells (uC V14) 100 (0, 0)) := (heap_call hC25 (heap_row _ (by omega) h18))
  replace h19 : w25.heap[w16.heap.size]? = some (.cells (uC V19) 100 (0, 0)) := (heap_call hC25 (heap_row _ (by omega) h19))
  replace h20 : w25.heap[w21.heap.size]? = some (.cells (uC V23) 100 (0, 0)) := (heap_call hC25 (setRow_heap _ _ _ _ _ _ h20))
  have hBw25 : Hid (Below w.heap.size w w25) := Lib.hid (below_call (below_setRow hBw24.out (by omega) _) hC25)
  clear hC25
  obtain ⟨c0, qc0⟩ : ∃ u : Nat, u = V4 / 2251799813685248 := ⟨_, rfl⟩
  have bc0 : c0 ≤ 173430919435124581 := by omega
  have Hc0 := Lib.hid qc0; clear qc0
  obtain ⟨c1, qc1⟩ : ∃ u : Nat, u = V9 / 2251799813685248 := ⟨_, rfl⟩
  have bc1 : c1 ≤ 173430919435124581 := by omega
  have Hc1 := Lib.hid qc1; clear qc1
  obtain ⟨c2, qc2⟩ : ∃ u : Nat, u = V14 / 2251799813685248 := ⟨_, rfl⟩
  have bc2 : c2 ≤ 173430919435124581 := by omega
  have Hc2 := Lib.hid qc2; clear qc2
  obtain ⟨c3, qc3⟩ : ∃ u : Nat, u = V19 / 2251799813685248 := ⟨_, rfl⟩
  have bc3 : c3 ≤ 173430919435124581 := by omega
  have Hc3 := Lib.hid qc3; clear qc3
  obtain ⟨c4, qc4⟩ : ∃ u : Nat, u = V24 / 2251799813685248 := ⟨_, rfl⟩
  have bc4 : c4 ≤ 11261748015267829 := by omega
  have Hc4 := Lib.hid qc4; clear qc4
  go_wp2_with (first
    | ((with_reducible refine at_store 20 ?_); refine wpList_store_row rfl 100 _ _ rfl (w21.heap.size) (uC V24) rfl rfl 100 (uC V23) h20 (infoU_of (uC V24) (uC_size _)) ((uC_size _).trans (uC_size _).symm) (uC_one _) ?_)
    | ((with_reducible refine at_dst 166 ?_); refine wpList_load_row rfl 100 _ rfl (w1.heap.size) rfl 100 (uC V4) (0, 0) _ (heap_row _ (by omega) h16) Tryd.underlying100 rfl (infoU_of (uC V4) (uC_size _)) ?_))
  refine (shr51_any V4 c0 (by omega) Hc0 _).mono ?_
  rintro e w26 ⟨rfl, hC26⟩
  have hs26 : w25.heap.size ≤ w26.heap.size := by have := hC26.size; (try simp only [alloc_size, setRow_size] at this); omega
  replace hv : Row w26 (vb) (vo) 5 (vs) := (Row.below_all (Row.keep hv (setRow_other _ _ _ _ (by omega))) hC26)
  replace h16 : w26.heap[w1.heap.size]? = some (.cells (uC V4) 100 (0, 0)) := (heap_call hC26 (heap_row _ (by omega) h16))
  replace h17 : w26.heap[w6.heap.size]? = some (.cells (uC V9) 100 (0, 0)) := (heap_call hC26 (heap_row _ (by omega) h17))
  replace h18 : w26.heap[w11.heap.size]? = some (.cells (uC V14) 100 (0, 0)) := (heap_call hC26 (heap_row _ (by omega) h18))
  replace h19 : w26.heap[w16.heap.size]? = some (.cells (uC V19) 100 (0, 0)) := (heap_call hC26 (heap_row _ (by omega) h19))
  replace h20 : w26.heap[w21.heap.size]? = some (.cells (uC V24) 100 (0, 0)) := (heap_call hC26 (setRow_heap _ _ _ _ _ _ h20))
  have hBw26 : Hid (Below w.heap.size w w26) := Lib.hid (below_call (below_setRow hBw25.out (by omega) _) hC26)
  clear hC26
  go_wp2_with (first
    | ((with_reducible refine at_dst 168 ?_); refine wpList_load_row rfl 100 _ rfl (w6.heap.size) rfl 100 (uC V9) (0, 0) _ h17 Tryd.underlying100 rfl (infoU_of (uC V9) (uC_size _)) ?_))
  refine (shr51_any V9 c1 (by omega) Hc1 _).mono ?_
  rintro e w27 ⟨rfl, hC27⟩
  have hs27 : w26.heap.size ≤ w27.heap.size := by have := hC27.size; (try simp only [alloc_size, setRow_size] at this); omega
  replace hv : Row w27 (vb) (vo) 5 (vs) := (Row.below_all hv hC27)
  replace h16 : w27.heap[w1.heap.size]? = some (.cells (uC V4) 100 (0, 0)) := (heap_call hC27 h16)
  replace h17 : w27.heap[w6.heap.size]? = some (.cells (uC V9) 100 (0, 0)) := (heap_call hC27 h17)
  replace h18 : w27.heap[w11.heap.size]? = some (.cells (uC V14) 100 (0, 0)) := (heap_call hC27 h18)
  replace h19 : w27.heap[w16.heap.size]? = some (.cells (uC V19) 100 (0, 0)) := (heap_call hC27 h19)
  replace h20 : w27.heap[w21.heap.size]? = some (.cells (uC V24) 100 (0, 0)) := (heap_call hC27 h20)
  have hBw27 : Hid (Below w.heap.size w w27) := Lib.hid (below_call hBw26.out hC27)
  clear hC27
  go_wp2_with (first
    | ((with_reducible refine at_dst 170 ?_); refine wpList_load_row rfl 100 _ rfl (w11.heap.size) rfl 100 (uC V14) (0, 0) _ h18 Tryd.underlying100 rfl (infoU_of (uC V14) (uC_size _)) ?_))
  refine (shr51_any V14 c2 (by omega) Hc2 _).mono ?_
  rintro e w28 ⟨rfl, hC28⟩
  have hs28 : w27.heap.size ≤ w28.heap.size := by have := hC28.size; (try simp only [alloc_size, setRow_size] at this); omega
  replace hv : Row w28 (vb) (vo) 5 (vs) := (Row.below_all hv hC28)
  replace h16 : w28.heap[w1.heap.size]? = some (.cells (uC V4) 100 (0, 0)) := (heap_call hC28 h16)
  replace h17 : w28.heap[w6.heap.size]? = some (.cells (uC V9) 100 (0, 0)) := (heap_call hC28 h17)
  replace h18 : w28.heap[w11.heap.size]? = some (.cells (uC V14) 100 (0, 0)) := (heap_call hC28 h18)
  replace h19 : w28.heap[w16.heap.size]? = some (.cells (uC V19) 100 (0, 0)) := (heap_call hC28 h19)
  replace h20 : w28.heap[w21.heap.size]? = some (.cells (uC V24) 100 (0, 0)) := (heap_call hC28 h20)
  have hBw28 : Hid (Below w.heap.size w w28) := Lib.hid (below_call hBw27.out hC28)
  clear hC28
  go_wp2_with (first
    | ((with_reducible refine at_dst 172 ?_); refine wpList_load_row rfl 100 _ rfl (w16.heap.size) rfl 100 (uC V19) (0, 0) _ h19 Tryd.underlying100 rfl (infoU_of (uC V19) (uC_size _)) ?_))
  refine (shr51_any V19 c3 (by omega) Hc3 _).mono ?_
  rintro e w29 ⟨rfl, hC29⟩
  have hs29 : w28.heap.size ≤ w29.heap.size := by have := hC29.size; (try simp only [alloc_size, setRow_size] at this); omega
  replace hv : Row w29 (vb) (vo) 5 (vs) := (Row.below_all hv hC29)
  replace h16 : w29.heap[w1.heap.size]? = some (.cells (uC V4) 100 (0, 0)) := (heap_call hC29 h16)
  replace h17 : w29.heap[w6.heap.size]? = some (.cells (uC V9) 100 (0, 0)) := (heap_call hC29 h17)
  replace h18 : w29.heap[w11.heap.size]? = some (.cells (uC V14) 100 (0, 0)) := (heap_call hC29 h18)
  replace h19 : w29.heap[w16.heap.size]? = some (.cells (uC V19) 100 (0, 0)) := (heap_call hC29 h19)
  replace h20 : w29.heap[w21.heap.size]? = some (.cells (uC V24) 100 (0, 0)) := (heap_call hC29 h20)
  have hBw29 : Hid (Below w.heap.size w w29) := Lib.hid (below_call hBw28.out hC29)
  clear hC29
  go_wp2_with (first
    | ((with_reducible refine at_dst 174 ?_); refine wpList_load_row rfl 100 _ rfl (w21.heap.size) rfl 100 (uC V24) (0, 0) _ h20 Tryd.underlying100 rfl (infoU_of (uC V24) (uC_size _)) ?_))
  refine (shr51_any V24 c4 (by omega) Hc4 _).mono ?_
  rintro e w30 ⟨rfl, hC30⟩
  have hs30 : w29.heap.size ≤ w30.heap.size := by have := hC30.size; (try simp only [alloc_size, setRow_size] at this); omega
  replace hv : Row w30 (vb) (vo) 5 (vs) := (Row.below_all hv hC30)
  replace h16 : w30.heap[w1.heap.size]? = some (.cells (uC V4) 100 (0, 0)) := (heap_call hC30 h16)
  replace h17 : w30.heap[w6.heap.size]? = some (.cells (uC V9) 100 (0, 0)) := (heap_call hC30 h17)
  replace h18 : w30.heap[w11.heap.size]? = some (.cells (uC V14) 100 (0, 0)) := (heap_call hC30 h18)
  replace h19 : w30.heap[w16.heap.size]? = some (.cells (uC V19) 100 (0, 0)) := (heap_call hC30 h19)
  replace h20 : w30.heap[w21.heap.size]? = some (.cells (uC V24) 100 (0, 0)) := (heap_call hC30 h20)
  have hBw30 : Hid (Below w.heap.size w w30) := Lib.hid (below_call hBw29.out hC30)
  clear hC30
  obtain ⟨l0, ql0⟩ : ∃ u : Nat, u = V4 % 18446744073709551616 := ⟨_, rfl⟩
  obtain ⟨m0, qm0⟩ : ∃ u : Nat, u = V4 % 2251799813685248 := ⟨_, rfl⟩
  have bm0 : m0 < 2251799813685248 := by omega
  have hl0 := Lib.hid ql0; have hm0 := Lib.hid qm0; clear ql0 qm0
  have hlow0 := low51 V4 l0 m0 hl0 hm0
  obtain ⟨l1, ql1⟩ : ∃ u : Nat, u = V9 % 18446744073709551616 := ⟨_, rfl⟩
  obtain ⟨m1, qm1⟩ : ∃ u : Nat, u = V9 % 2251799813685248 := ⟨_, rfl⟩
  have bm1 : m1 < 2251799813685248 := by omega
  have hl1 := Lib.hid ql1; have hm1 := Lib.hid qm1; clear ql1 qm1
  have hlow1 := low51 V9 l1 m1 hl1 hm1
  obtain ⟨l2, ql2⟩ : ∃ u : Nat, u = V14 % 18446744073709551616 := ⟨_, rfl⟩
  obtain ⟨m2, qm2⟩ : ∃ u : Nat, u = V14 % 2251799813685248 := ⟨_, rfl⟩
  have bm2 : m2 < 2251799813685248 := by omega
  have hl2 := Lib.hid ql2; have hm2 := Lib.hid qm2; clear ql2 qm2
  have hlow2 := low51 V14 l2 m2 hl2 hm2
  obtain ⟨l3, ql3⟩ : ∃ u : Nat, u = V19 % 18446744073709551616 := ⟨_, rfl⟩
  obtain ⟨m3, qm3⟩ : ∃ u : Nat, u = V19 % 2251799813685248 := ⟨_, rfl⟩
  have bm3 : m3 < 2251799813685248 := by omega
  have hl3 := Lib.hid ql3; have hm3 := Lib.hid qm3; clear ql3 qm3
  have hlow3 := low51 V19 l3 m3 hl3 hm3
  obtain ⟨l4, ql4⟩ : ∃ u : Nat, u = V24 % 18446744073709551616 := ⟨_, rfl⟩
  obtain ⟨m4, qm4⟩ : ∃ u : Nat, u = V24 % 2251799813685248 := ⟨_, rfl⟩
  have bm4 : m4 < 2251799813685248 := by omega
  have hl4 := Lib.hid ql4; have hm4 := Lib.hid qm4; clear ql4 qm4
  have hlow4 := low51 V24 l4 m4 hl4 hm4
  have hsum0 : IntKind.u64.wrap ((m0 : Int) + 19 * (c4 : Int)) = (m0 : Int) + 19 * (c4 : Int) := by rw [IntKind.wrap_u64]; omega
  go_wp2_with fail
  refine wp_named ?_
  intro w31 ew31
  have hs31 : w30.heap.size ≤ w31.heap.size := by rw [ew31]; (try simp only [alloc_size, setRow_size]); omega
  replace hv : Row w31 (vb) (vo) 5 (vs) := by rw [ew31]; exact hv
  replace h16 : w31.heap[w1.heap.size]? = some (.cells (uC V4) 100 (0, 0)) := by rw [ew31]; exact h16
  replace h17 : w31.heap[w6.heap.size]? = some (.cells (uC V9) 100 (0, 0)) := by rw [ew31]; exact h17
  replace h18 : w31.heap[w11.heap.size]? = some (.cells (uC V14) 100 (0, 0)) := by rw [ew31]; exact h18
  replace h19 : w31.heap[w16.heap.size]? = some (.cells (uC V19) 100 (0, 0)) := by rw [ew31]; exact h19
  replace h20 : w31.heap[w21.heap.size]? = some (.cells (uC V24) 100 (0, 0)) := by rw [ew31]; exact h20
  have hBw31 : Hid (Below w.heap.size w w31) := Lib.hid (by rw [ew31]; exact hBw30.out)
  clear ew31
  refine wp_region_quiet (C := Below w31.heap.size w31) (by kernel_rfl) (by kernel_rfl) (Below.refl _ _).drew ?_
  simp only [List.toList_toArray]
  refine wpQuiet_step (fun K hK => ?_); rw [if_pos (by rfl)]
  refine ⟨.pointer (some ⟨w1.heap.size, 0, none⟩), fun w' hC => qrun (by go_simp), hK _ ?_⟩; clear hK K
  simp only [Act.put, List.setIfInBounds_toArray, List.set_cons_zero, List.set_cons_succ]
  refine wpQuiet_step (fun K hK => ?_); rw [if_pos (by rfl)]
  refine ⟨.int .u64 (l0 : Int), fun w' hC => qcell 40 _ rfl (w1.heap.size) 0 rfl (by rw [hl0.out]; exact blk_cell h16 0 (uC_0 V4)) (heap_lt h16) hC (fun u hu => by go_simp), hK _ ?_⟩; clear hK K
  simp only [Act.put, List.setIfInBounds_toArray, List.set_cons_zero, List.set_cons_succ]
  refine wpQuiet_step (fun K hK => ?_); rw [if_pos (by rfl)]
  refine ⟨.int .u64 (m0 : Int), fun w' hC => qrun (by go_simp), hK _ ?_⟩; clear hK K
  simp only [Act.put, List.setIfInBounds_toArray, List.set_cons_zero, List.set_cons_succ]
  refine wpQuiet_step (fun K hK => ?_); rw [if_pos (by rfl)]
  refine ⟨.int .u64 (c4 : Int), fun w' hC => qrun (by go_simp), hK _ ?_⟩; clear hK K
  simp only [Act.put, List.setIfInBounds_toArray, List.set_cons_zero, List.set_cons_succ]
  refine wpQuiet_step (fun K hK => ?_); rw [if_pos (by rfl)]
  refine ⟨.int .u64 (19 * (c4 : Int)), fun w' hC => qcall 64 #[.int .u64 (c4 : Int)] (by go_simp) hC (mul19_q (c4 : Int) w' (by omega) (by omega)), hK _ ?_⟩; clear hK K
  simp only [Act.put, List.setIfInBounds_toArray, List.set_cons_zero, List.set_cons_succ]
  refine wpQuiet_step (fun K hK => ?_); rw [if_pos (by rfl)]
  refine ⟨.int .u64 ((m0 : Int) + 19 * (c4 : Int)), fun w' hC => qrun (by go_simp), hK _ ?_⟩; clear hK K
  simp only [Act.put, List.setIfInBounds_toArray, List.set_cons_zero, List.set_cons_succ]
  refine wpQuiet_step (fun K hK => ?_); rw [if_pos (by rfl)]
  refine ⟨.int .u64 ((m0 : Int) + 19 * (c4 : Int)), fun w' hC => qrun (by go_simp), hK _ ?_⟩; clear hK K
  simp only [Act.put, List.setIfInBounds_toArray, List.set_cons_zero, List.set_cons_succ]
  refine wpQuiet_nil ?_
  intro w32 hC
  have hs32 := hC.size
  replace hv : Row w32 (vb) (vo) 5 (vs) := (Row.below_all hv hC)
  replace h16 : w32.heap[w1.heap.size]? = some (.cells (uC V4) 100 (0, 0)) := (heap_call hC h16)
  replace h17 : w32.heap[w6.heap.size]? = some (.cells (uC V9) 100 (0, 0)) := (heap_call hC h17)
  replace h18 : w32.heap[w11.heap.size]? = some (.cells (uC V14) 100 (0, 0)) := (heap_call hC h18)
  replace h19 : w32.heap[w16.heap.size]? = some (.cells (uC V19) 100 (0, 0)) := (heap_call hC h19)
  replace h20 : w32.heap[w21.heap.size]? = some (.cells (uC V24) 100 (0, 0)) := (heap_call hC h20)
  have hBw32 : Hid (Below w.heap.size w w32) := Lib.hid (below_call hBw31.out hC)
  clear hC
  clear hsum0
  have hcell1 : w32.cell? ⟨w6.heap.size, 0, none⟩ = some (.int .u64 (l1 : Int)) := (by rw [hl1.out]; exact blk_cell h17 0 (uC_0 V9))
  have hcell2 : w32.cell? ⟨w11.heap.size, 0, none⟩ = some (.int .u64 (l2 : Int)) := (by rw [hl2.out]; exact blk_cell h18 0 (uC_0 V14))
  have hcell3 : w32.cell? ⟨w16.heap.size, 0, none⟩ = some (.int .u64 (l3 : Int)) := (by rw [hl3.out]; exact blk_cell h19 0 (uC_0 V19))
  have hcell4 : w32.cell? ⟨w21.heap.size, 0, none⟩ = some (.int .u64 (l4 : Int)) := (by rw [hl4.out]; exact blk_cell h20 0 (uC_0 V24))
  go_upto_region 45 with (fail)
  obtain ⟨r0, qr0⟩ : ∃ u : Nat, u = m0 + 19 * c4 := ⟨_, rfl⟩
  rw [show (m0 : Int) + 19 * (c4 : Int) = (r0 : Int) by omega]
  have br0 : r0 < 1152921504606846976 := by omega
  have Hr0 := Lib.hid qr0; clear qr0
  obtain ⟨r1, qr1⟩ : ∃ u : Nat, u = m1 + c0 := ⟨_, rfl⟩
  rw [show (m1 : Int) + (c0 : Int) = (r1 : Int) by omega]
  have br1 : r1 < 1152921504606846976 := by omega
  have Hr1 := Lib.hid qr1; clear qr1
  obtain ⟨r2, qr2⟩ : ∃ u : Nat, u = m2 + c1 := ⟨_, rfl⟩
  rw [show (m2 : Int) + (c1 : Int) = (r2 : Int) by omega]
  have br2 : r2 < 1152921504606846976 := by omega
  have Hr2 := Lib.hid qr2; clear qr2
  obtain ⟨r3, qr3⟩ : ∃ u : Nat, u = m3 + c2 := ⟨_, rfl⟩
  rw [show (m3 : Int) + (c2 : Int) = (r3 : Int) by omega]
  have br3 : r3 < 1152921504606846976 := by omega
  have Hr3 := Lib.hid qr3; clear qr3
  obtain ⟨r4, qr4⟩ : ∃ u : Nat, u = m4 + c3 := ⟨_, rfl⟩
  rw [show (m4 : Int) + (c3 : Int) = (r4 : Int) by omega]
  have br4 : r4 < 1152921504606846976 := by omega
  have Hr4 := Lib.hid qr4; clear qr4
  clear hlow0 hlow1 hlow2 hlow3 hlow4 hcell1 hcell2 hcell3 hcell4
  have f0 := hv.frozen (i := 0) (by omega); have k0 := hv.cell (i := 0) (by omega)
  have f1 := hv.frozen (i := 1) (by omega); have k1 := hv.cell (i := 1) (by omega)
  have f2 := hv.frozen (i := 2) (by omega); have k2 := hv.cell (i := 2) (by omega)
  have f3 := hv.frozen (i := 3) (by omega); have k3 := hv.cell (i := 3) (by omega)
  have f4 := hv.frozen (i := 4) (by omega); have k4 := hv.cell (i := 4) (by omega)
  rw [Nat.add_zero] at f0 k0
  have Hv := Lib.hid hv; clear hv
  go_wp2_with fail
  refine (mul19_any _ _ (by omega) (by omega)).mono ?_
  rintro e w' ⟨rfl, rfl⟩
  go_wp2
  go_end0
  have eC : cpL KK = ⟨r0, r1, r2, r3, r4⟩ := by
    rw [hKK.out]
    simp only [cpL, Hr0.out, Hr1.out, Hr2.out, Hr3.out, Hr4.out, hm0.out, hm1.out, hm2.out, hm3.out, hm4.out, Hc0.out, Hc1.out, Hc2.out, Hc3.out, Hc4.out, HV24.out, HV23.out, HV22.out, HV21.out, HV20.out, HV19.out, HV18.out, HV17.out, HV16.out, HV15.out, HV14.out, HV13.out, HV12.out, HV11.out, HV10.out, HV9.out, HV8.out, HV7.out, HV6.out, HV5.out, HV4.out, HV3.out, HV2.out, HV1.out, HV0.out]
  rw [eC]
  refine ⟨rfl, Wr.ahead hBw32.out (Wr.five ((((((Wr.start Hv.out).set 0 _).set 1 _).set 2 _).set 3 _).set 4 _) ?_ ?_ ?_ ?_ ?_) hvl⟩
  · exact u64_eq (cp_word19 _ _ (by omega) (by omega))
  · exact u64_eq (cp_word _ _ (by omega) (by omega))
  · exact u64_eq (cp_word _ _ (by omega) (by omega))
  · exact u64_eq (cp_word _ _ (by omega) (by omega))
  · exact u64_eq (cp_word _ _ (by omega) (by omega))
end Go.Proofs.YtemgflkecflhmaaDoor
