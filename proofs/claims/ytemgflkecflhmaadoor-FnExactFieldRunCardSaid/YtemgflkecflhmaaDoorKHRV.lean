/- The reference's value of a step, each kind. -/
import Derived.Laws.AppendOwn
import Derived.Test.YtemgflkecflhmaaDoorKHRQ
import Derived.Test.YtemgflkecflhmaaDoorKHRR
import Derived.Test.YtemgflkecflhmaaDoorKL0
import Derived.Test.YtemgflkecflhmaaDoorKL2
import Derived.Test.YtemgflkecflhmaaDoorKL3
set_option maxRecDepth 4000
set_option linter.unusedSimpArgs false
set_option linter.unusedVariables false
namespace Go.Proofs.YtemgflkecflhmaaDoor
open Go.RowKit

theorem fop_cell {w : World} {b k : Nat} {o : FOp} (h : w.heap[b]? = some (.cells (opC o.kind o.z o.x o.y o.n) 33 (0, 0))) : w.cell? ⟨b, 0, none⟩ = some (.int .i64 o.kind) ∧ w.cell? ⟨b, 4, none⟩ = some (.int .u32 (o.n : Int)) :=
  ⟨cell_of_row w b 0 _ _ _ h, cell_of_row w b 4 _ _ _ h⟩
theorem Keep.cell {R : Nat} {w w1 : World} (h : Keep R w w1) {b k : Nat} {v : Value} (hc : w.cell? ⟨b, k, none⟩ = some v) (hne : b ≠ R) : w1.cell? ⟨b, k, none⟩ = some v :=
  (World.cell?_of_block (a := ⟨b, k, none⟩) (h.block b (World.block_lt_of_cell? w ⟨b, k, none⟩ hc) hne)).trans hc

set_option maxHeartbeats 8000000 in
theorem value_0 (z x y : Int) (n a b : Nat) (hn : n < 4294967296) (la : a < pF) (lb : b < pF) (R : Nat) (hR : Hid (R = (a + b) % pF)) (w : World) :
    Calls Tryd.prog 15 #[.agg (opC 0 z x y n), .agg (numC a), .agg (numC b)] w fun e w' => e = .returned (.agg (numC R)) ∧ Below w.heap.size w w' := by
  go_enter Tryd.func15, Tryd.ntmps15
  go_upto_region 1 with fail
  refine wp_named ?_
  intro w1 ew1
  have hs1 : w.heap.size + 1 + 1 + 1 + 1 ≤ w1.heap.size := by rw [ew1]; (try simp only [alloc_size, setRow_size]); omega
  have h3 : w1.heap[w.heap.size]? = some (.cells (opC 0 z x y n) 33 (0, 0)) := by rw [ew1]; exact (heap_old _ (heap_old _ (heap_old _ (heap_new_at _ _ _ rfl))))
  have h4 : w1.heap[w.heap.size + 1]? = some (.cells (numC a) 42 (0, 0)) := by rw [ew1]; exact (heap_old _ (heap_old _ (heap_new_at _ _ _ (by simp only [alloc_size, setRow_size]))))
  have h5 : w1.heap[w.heap.size + 1 + 1]? = some (.cells (numC b) 42 (0, 0)) := by rw [ew1]; exact (heap_old _ (heap_new_at _ _ _ (by simp only [alloc_size, setRow_size])))
  have h6 : w1.heap[w.heap.size + 1 + 1 + 1]? = some (.cells (z4) 42 (0, 0)) := by rw [ew1]; exact (heap_new_at _ _ _ (by simp only [alloc_size, setRow_size]))
  have hBw1 : Hid (Below w.heap.size w w1) := Lib.hid (by rw [ew1]; exact below_alloc (below_alloc (below_alloc (below_alloc (Below.refl _ w) _) _) _) _)
  clear ew1
  go_wp2_with fail
  refine (prime_any _).mono ?_
  rintro e w2 ⟨rfl, hC2⟩
  have hs2 : w1.heap.size ≤ w2.heap.size := by have := hC2.size; (try simp only [alloc_size, setRow_size] at this); omega
  replace h3 : w2.heap[w.heap.size]? = some (.cells (opC 0 z x y n) 33 (0, 0)) := (heap_call hC2 h3)
  replace h4 : w2.heap[w.heap.size + 1]? = some (.cells (numC a) 42 (0, 0)) := (heap_call hC2 h4)
  replace h5 : w2.heap[w.heap.size + 1 + 1]? = some (.cells (numC b) 42 (0, 0)) := (heap_call hC2 h5)
  replace h6 : w2.heap[w.heap.size + 1 + 1 + 1]? = some (.cells (z4) 42 (0, 0)) := (heap_call hC2 h6)
  have hBw2 : Hid (Below w.heap.size w w2) := Lib.hid (below_call hBw1.out hC2)
  clear hC2
  go_upto_region 2 with (first
    | ((with_reducible refine at_store 7 ?_); refine wpList_store_row rfl 42 _ _ rfl (w2.heap.size) (numC pF) rfl rfl 42 (z4) (heap_new_at _ _ _ rfl) (infoNum_of (numC pF) (numC_size _)) (z4_size.trans (numC_size _).symm) (numC_one _) ?_))
  try simp only [Act.put]
  refine wp_named ?_
  intro w3 ew3
  have hs3 : w2.heap.size + 1 ≤ w3.heap.size := by rw [ew3]; (try simp only [alloc_size, setRow_size]); omega
  replace h3 : w3.heap[w.heap.size]? = some (.cells (opC 0 z x y n) 33 (0, 0)) := by rw [ew3]; exact (heap_row _ (by omega) (heap_old _ h3))
  replace h4 : w3.heap[w.heap.size + 1]? = some (.cells (numC a) 42 (0, 0)) := by rw [ew3]; exact (heap_row _ (by omega) (heap_old _ h4))
  replace h5 : w3.heap[w.heap.size + 1 + 1]? = some (.cells (numC b) 42 (0, 0)) := by rw [ew3]; exact (heap_row _ (by omega) (heap_old _ h5))
  replace h6 : w3.heap[w.heap.size + 1 + 1 + 1]? = some (.cells (z4) 42 (0, 0)) := by rw [ew3]; exact (heap_row _ (by omega) (heap_old _ h6))
  replace h7 : w3.heap[w2.heap.size]? = some (.cells (numC pF) 42 (0, 0)) := by rw [ew3]; exact (setRow_heap _ _ _ _ _ _ (heap_new_at _ _ _ rfl))
  have hBw3 : Hid (Below w.heap.size w w3) := Lib.hid (by rw [ew3]; exact (below_setRow (below_alloc hBw2.out _) (by omega) _))
  clear ew3
  have k0 : w3.cell? ⟨w.heap.size, 0, none⟩ = some (.int .i64 0) := cell_of_row w3 _ 0 _ _ _ h3
  have k4 : w3.cell? ⟨w.heap.size, 4, none⟩ = some (.int .u32 (n : Int)) := cell_of_row w3 _ 4 _ _ _ h3
  go_wp2_with (first
    | ((with_reducible refine at_dst 15 ?_); refine wpList_load_row rfl 42 _ rfl (w.heap.size + 1) rfl 42 (numC a) (0, 0) _ h4 underNum rfl (infoNum_of (numC a) (numC_size _)) ?_)
    | ((with_reducible refine at_dst 16 ?_); refine wpList_load_row rfl 42 _ rfl (w.heap.size + 1 + 1) rfl 42 (numC b) (0, 0) _ h5 underNum rfl (infoNum_of (numC b) (numC_size _)) ?_)
    | ((with_reducible refine at_dst 17 ?_); refine wpList_load_row rfl 42 _ rfl (w2.heap.size) rfl 42 (numC pF) (0, 0) _ h7 underNum rfl (infoNum_of (numC pF) (numC_size _)) ?_))
  refine (plus_to a b pF R hR la lb (by unfold pF; omega) _).mono ?_
  rintro e w4 ⟨rfl, hC4⟩
  have hs4 : w3.heap.size ≤ w4.heap.size := by have := hC4.size; (try simp only [alloc_size, setRow_size] at this); omega
  replace h3 : w4.heap[w.heap.size]? = some (.cells (opC 0 z x y n) 33 (0, 0)) := (heap_call hC4 h3)
  replace h4 : w4.heap[w.heap.size + 1]? = some (.cells (numC a) 42 (0, 0)) := (heap_call hC4 h4)
  replace h5 : w4.heap[w.heap.size + 1 + 1]? = some (.cells (numC b) 42 (0, 0)) := (heap_call hC4 h5)
  replace h6 : w4.heap[w.heap.size + 1 + 1 + 1]? = some (.cells (z4) 42 (0, 0)) := (heap_call hC4 h6)
  replace h7 : w4.heap[w2.heap.size]? = some (.cells (numC pF) 42 (0, 0)) := (heap_call hC4 h7)
  have hBw4 : Hid (Below w.heap.size w w4) := Lib.hid (below_call hBw3.out hC4)
  clear hC4
  go_wp2_with (first
    | ((with_reducible refine at_store 6 ?_); refine wpList_store_row rfl 42 _ _ rfl (w.heap.size + 1 + 1 + 1) (numC R) rfl rfl 42 (z4) h6 (infoNum_of (numC R) (numC_size _)) (z4_size.trans (numC_size _).symm) (numC_one _) ?_))
  refine bodyPost_ret (results_cell_row rfl _ _ (w.heap.size + 1 + 1 + 1) 42 (numC R) (0, 0) _ rfl (setRow_heap _ _ _ _ _ _ h6) underNum rfl (infoNum_of (numC R) (numC_size _))) rfl ⟨rfl, (below_setRow hBw4.out (by omega) _)⟩

set_option maxHeartbeats 8000000 in
theorem value_1 (z x y : Int) (n a b : Nat) (hn : n < 4294967296) (la : a < pF) (lb : b < pF) (R : Nat) (hR : Hid (R = (a + (pF - b)) % pF)) (w : World) :
    Calls Tryd.prog 15 #[.agg (opC 1 z x y n), .agg (numC a), .agg (numC b)] w fun e w' => e = .returned (.agg (numC R)) ∧ Below w.heap.size w w' := by
  go_enter Tryd.func15, Tryd.ntmps15
  go_upto_region 1 with fail
  refine wp_named ?_
  intro w1 ew1
  have hs1 : w.heap.size + 1 + 1 + 1 + 1 ≤ w1.heap.size := by rw [ew1]; (try simp only [alloc_size, setRow_size]); omega
  have h3 : w1.heap[w.heap.size]? = some (.cells (opC 1 z x y n) 33 (0, 0)) := by rw [ew1]; exact (heap_old _ (heap_old _ (heap_old _ (heap_new_at _ _ _ rfl))))
  have h4 : w1.heap[w.heap.size + 1]? = some (.cells (numC a) 42 (0, 0)) := by rw [ew1]; exact (heap_old _ (heap_old _ (heap_new_at _ _ _ (by simp only [alloc_size, setRow_size]))))
  have h5 : w1.heap[w.heap.size + 1 + 1]? = some (.cells (numC b) 42 (0, 0)) := by rw [ew1]; exact (heap_old _ (heap_new_at _ _ _ (by simp only [alloc_size, setRow_size])))
  have h6 : w1.heap[w.heap.size + 1 + 1 + 1]? = some (.cells (z4) 42 (0, 0)) := by rw [ew1]; exact (heap_new_at _ _ _ (by simp only [alloc_size, setRow_size]))
  have hBw1 : Hid (Below w.heap.size w w1) := Lib.hid (by rw [ew1]; exact below_alloc (below_alloc (below_alloc (below_alloc (Below.refl _ w) _) _) _) _)
  clear ew1
  go_wp2_with fail
  refine (prime_any _).mono ?_
  rintro e w2 ⟨rfl, hC2⟩
  have hs2 : w1.heap.size ≤ w2.heap.size := by have := hC2.size; (try simp only [alloc_size, setRow_size] at this); omega
  replace h3 : w2.heap[w.heap.size]? = some (.cells (opC 1 z x y n) 33 (0, 0)) := (heap_call hC2 h3)
  replace h4 : w2.heap[w.heap.size + 1]? = some (.cells (numC a) 42 (0, 0)) := (heap_call hC2 h4)
  replace h5 : w2.heap[w.heap.size + 1 + 1]? = some (.cells (numC b) 42 (0, 0)) := (heap_call hC2 h5)
  replace h6 : w2.heap[w.heap.size + 1 + 1 + 1]? = some (.cells (z4) 42 (0, 0)) := (heap_call hC2 h6)
  have hBw2 : Hid (Below w.heap.size w w2) := Lib.hid (below_call hBw1.out hC2)
  clear hC2
  go_upto_region 2 with (first
    | ((with_reducible refine at_store 7 ?_); refine wpList_store_row rfl 42 _ _ rfl (w2.heap.size) (numC pF) rfl rfl 42 (z4) (heap_new_at _ _ _ rfl) (infoNum_of (numC pF) (numC_size _)) (z4_size.trans (numC_size _).symm) (numC_one _) ?_))
  try simp only [Act.put]
  refine wp_named ?_
  intro w3 ew3
  have hs3 : w2.heap.size + 1 ≤ w3.heap.size := by rw [ew3]; (try simp only [alloc_size, setRow_size]); omega
  replace h3 : w3.heap[w.heap.size]? = some (.cells (opC 1 z x y n) 33 (0, 0)) := by rw [ew3]; exact (heap_row _ (by omega) (heap_old _ h3))
  replace h4 : w3.heap[w.heap.size + 1]? = some (.cells (numC a) 42 (0, 0)) := by rw [ew3]; exact (heap_row _ (by omega) (heap_old _ h4))
  replace h5 : w3.heap[w.heap.size + 1 + 1]? = some (.cells (numC b) 42 (0, 0)) := by rw [ew3]; exact (heap_row _ (by omega) (heap_old _ h5))
  replace h6 : w3.heap[w.heap.size + 1 + 1 + 1]? = some (.cells (z4) 42 (0, 0)) := by rw [ew3]; exact (heap_row _ (by omega) (heap_old _ h6))
  replace h7 : w3.heap[w2.heap.size]? = some (.cells (numC pF) 42 (0, 0)) := by rw [ew3]; exact (setRow_heap _ _ _ _ _ _ (heap_new_at _ _ _ rfl))
  have hBw3 : Hid (Below w.heap.size w w3) := Lib.hid (by rw [ew3]; exact (below_setRow (below_alloc hBw2.out _) (by omega) _))
  clear ew3
  have k0 : w3.cell? ⟨w.heap.size, 0, none⟩ = some (.int .i64 1) := cell_of_row w3 _ 0 _ _ _ h3
  have k4 : w3.cell? ⟨w.heap.size, 4, none⟩ = some (.int .u32 (n : Int)) := cell_of_row w3 _ 4 _ _ _ h3
  go_wp2_with (first
    | ((with_reducible refine at_dst 21 ?_); refine wpList_load_row rfl 42 _ rfl (w.heap.size + 1) rfl 42 (numC a) (0, 0) _ h4 underNum rfl (infoNum_of (numC a) (numC_size _)) ?_)
    | ((with_reducible refine at_dst 22 ?_); refine wpList_load_row rfl 42 _ rfl (w.heap.size + 1 + 1) rfl 42 (numC b) (0, 0) _ h5 underNum rfl (infoNum_of (numC b) (numC_size _)) ?_)
    | ((with_reducible refine at_dst 23 ?_); refine wpList_load_row rfl 42 _ rfl (w2.heap.size) rfl 42 (numC pF) (0, 0) _ h7 underNum rfl (infoNum_of (numC pF) (numC_size _)) ?_))
  refine (minus_to a b pF R hR la lb (by unfold pF; omega) _).mono ?_
  rintro e w4 ⟨rfl, hC4⟩
  have hs4 : w3.heap.size ≤ w4.heap.size := by have := hC4.size; (try simp only [alloc_size, setRow_size] at this); omega
  replace h3 : w4.heap[w.heap.size]? = some (.cells (opC 1 z x y n) 33 (0, 0)) := (heap_call hC4 h3)
  replace h4 : w4.heap[w.heap.size + 1]? = some (.cells (numC a) 42 (0, 0)) := (heap_call hC4 h4)
  replace h5 : w4.heap[w.heap.size + 1 + 1]? = some (.cells (numC b) 42 (0, 0)) := (heap_call hC4 h5)
  replace h6 : w4.heap[w.heap.size + 1 + 1 + 1]? = some (.cells (z4) 42 (0, 0)) := (heap_call hC4 h6)
  replace h7 : w4.heap[w2.heap.size]? = some (.cells (numC pF) 42 (0, 0)) := (heap_call hC4 h7)
  have hBw4 : Hid (Below w.heap.size w w4) := Lib.hid (below_call hBw3.out hC4)
  clear hC4
  go_wp2_with (first
    | ((with_reducible refine at_store 6 ?_); refine wpList_store_row rfl 42 _ _ rfl (w.heap.size + 1 + 1 + 1) (numC R) rfl rfl 42 (z4) h6 (infoNum_of (numC R) (numC_size _)) (z4_size.trans (numC_size _).symm) (numC_one _) ?_))
  refine bodyPost_ret (results_cell_row rfl _ _ (w.heap.size + 1 + 1 + 1) 42 (numC R) (0, 0) _ rfl (setRow_heap _ _ _ _ _ _ h6) underNum rfl (infoNum_of (numC R) (numC_size _))) rfl ⟨rfl, (below_setRow hBw4.out (by omega) _)⟩

set_option maxHeartbeats 8000000 in
theorem value_2 (z x y : Int) (n a b : Nat) (hn : n < 4294967296) (la : a < pF) (lb : b < pF) (R : Nat) (hR : Hid (R = a * b % pF)) (w : World) :
    Calls Tryd.prog 15 #[.agg (opC 2 z x y n), .agg (numC a), .agg (numC b)] w fun e w' => e = .returned (.agg (numC R)) ∧ Below w.heap.size w w' := by
  go_enter Tryd.func15, Tryd.ntmps15
  go_upto_region 1 with fail
  refine wp_named ?_
  intro w1 ew1
  have hs1 : w.heap.size + 1 + 1 + 1 + 1 ≤ w1.heap.size := by rw [ew1]; (try simp only [alloc_size, setRow_size]); omega
  have h3 : w1.heap[w.heap.size]? = some (.cells (opC 2 z x y n) 33 (0, 0)) := by rw [ew1]; exact (heap_old _ (heap_old _ (heap_old _ (heap_new_at _ _ _ rfl))))
  have h4 : w1.heap[w.heap.size + 1]? = some (.cells (numC a) 42 (0, 0)) := by rw [ew1]; exact (heap_old _ (heap_old _ (heap_new_at _ _ _ (by simp only [alloc_size, setRow_size]))))
  have h5 : w1.heap[w.heap.size + 1 + 1]? = some (.cells (numC b) 42 (0, 0)) := by rw [ew1]; exact (heap_old _ (heap_new_at _ _ _ (by simp only [alloc_size, setRow_size])))
  have h6 : w1.heap[w.heap.size + 1 + 1 + 1]? = some (.cells (z4) 42 (0, 0)) := by rw [ew1]; exact (heap_new_at _ _ _ (by simp only [alloc_size, setRow_size]))
  have hBw1 : Hid (Below w.heap.size w w1) := Lib.hid (by rw [ew1]; exact below_alloc (below_alloc (below_alloc (below_alloc (Below.refl _ w) _) _) _) _)
  clear ew1
  go_wp2_with fail
  refine (prime_any _).mono ?_
  rintro e w2 ⟨rfl, hC2⟩
  have hs2 : w1.heap.size ≤ w2.heap.size := by have := hC2.size; (try simp only [alloc_size, setRow_size] at this); omega
  replace h3 : w2.heap[w.heap.size]? = some (.cells (opC 2 z x y n) 33 (0, 0)) := (heap_call hC2 h3)
  replace h4 : w2.heap[w.heap.size + 1]? = some (.cells (numC a) 42 (0, 0)) := (heap_call hC2 h4)
  replace h5 : w2.heap[w.heap.size + 1 + 1]? = some (.cells (numC b) 42 (0, 0)) := (heap_call hC2 h5)
  replace h6 : w2.heap[w.heap.size + 1 + 1 + 1]? = some (.cells (z4) 42 (0, 0)) := (heap_call hC2 h6)
  have hBw2 : Hid (Below w.heap.size w w2) := Lib.hid (below_call hBw1.out hC2)
  clear hC2
  go_upto_region 2 with (first
    | ((with_reducible refine at_store 7 ?_); refine wpList_store_row rfl 42 _ _ rfl (w2.heap.size) (numC pF) rfl rfl 42 (z4) (heap_new_at _ _ _ rfl) (infoNum_of (numC pF) (numC_size _)) (z4_size.trans (numC_size _).symm) (numC_one _) ?_))
  try simp only [Act.put]
  refine wp_named ?_
  intro w3 ew3
  have hs3 : w2.heap.size + 1 ≤ w3.heap.size := by rw [ew3]; (try simp only [alloc_size, setRow_size]); omega
  replace h3 : w3.heap[w.heap.size]? = some (.cells (opC 2 z x y n) 33 (0, 0)) := by rw [ew3]; exact (heap_row _ (by omega) (heap_old _ h3))
  replace h4 : w3.heap[w.heap.size + 1]? = some (.cells (numC a) 42 (0, 0)) := by rw [ew3]; exact (heap_row _ (by omega) (heap_old _ h4))
  replace h5 : w3.heap[w.heap.size + 1 + 1]? = some (.cells (numC b) 42 (0, 0)) := by rw [ew3]; exact (heap_row _ (by omega) (heap_old _ h5))
  replace h6 : w3.heap[w.heap.size + 1 + 1 + 1]? = some (.cells (z4) 42 (0, 0)) := by rw [ew3]; exact (heap_row _ (by omega) (heap_old _ h6))
  replace h7 : w3.heap[w2.heap.size]? = some (.cells (numC pF) 42 (0, 0)) := by rw [ew3]; exact (setRow_heap _ _ _ _ _ _ (heap_new_at _ _ _ rfl))
  have hBw3 : Hid (Below w.heap.size w w3) := Lib.hid (by rw [ew3]; exact (below_setRow (below_alloc hBw2.out _) (by omega) _))
  clear ew3
  have k0 : w3.cell? ⟨w.heap.size, 0, none⟩ = some (.int .i64 2) := cell_of_row w3 _ 0 _ _ _ h3
  have k4 : w3.cell? ⟨w.heap.size, 4, none⟩ = some (.int .u32 (n : Int)) := cell_of_row w3 _ 4 _ _ _ h3
  go_wp2_with (first
    | ((with_reducible refine at_dst 27 ?_); refine wpList_load_row rfl 42 _ rfl (w.heap.size + 1) rfl 42 (numC a) (0, 0) _ h4 underNum rfl (infoNum_of (numC a) (numC_size _)) ?_)
    | ((with_reducible refine at_dst 28 ?_); refine wpList_load_row rfl 42 _ rfl (w.heap.size + 1 + 1) rfl 42 (numC b) (0, 0) _ h5 underNum rfl (infoNum_of (numC b) (numC_size _)) ?_)
    | ((with_reducible refine at_dst 29 ?_); refine wpList_load_row rfl 42 _ rfl (w2.heap.size) rfl 42 (numC pF) (0, 0) _ h7 underNum rfl (infoNum_of (numC pF) (numC_size _)) ?_))
  refine (times_to a b pF R hR la (Nat.lt_trans lb (by unfold pF; omega)) (by unfold pF; omega) _).mono ?_
  rintro e w4 ⟨rfl, hC4⟩
  have hs4 : w3.heap.size ≤ w4.heap.size := by have := hC4.size; (try simp only [alloc_size, setRow_size] at this); omega
  replace h3 : w4.heap[w.heap.size]? = some (.cells (opC 2 z x y n) 33 (0, 0)) := (heap_call hC4 h3)
  replace h4 : w4.heap[w.heap.size + 1]? = some (.cells (numC a) 42 (0, 0)) := (heap_call hC4 h4)
  replace h5 : w4.heap[w.heap.size + 1 + 1]? = some (.cells (numC b) 42 (0, 0)) := (heap_call hC4 h5)
  replace h6 : w4.heap[w.heap.size + 1 + 1 + 1]? = some (.cells (z4) 42 (0, 0)) := (heap_call hC4 h6)
  replace h7 : w4.heap[w2.heap.size]? = some (.cells (numC pF) 42 (0, 0)) := (heap_call hC4 h7)
  have hBw4 : Hid (Below w.heap.size w w4) := Lib.hid (below_call hBw3.out hC4)
  clear hC4
  go_wp2_with (first
    | ((with_reducible refine at_store 6 ?_); refine wpList_store_row rfl 42 _ _ rfl (w.heap.size + 1 + 1 + 1) (numC R) rfl rfl 42 (z4) h6 (infoNum_of (numC R) (numC_size _)) (z4_size.trans (numC_size _).symm) (numC_one _) ?_))
  refine bodyPost_ret (results_cell_row rfl _ _ (w.heap.size + 1 + 1 + 1) 42 (numC R) (0, 0) _ rfl (setRow_heap _ _ _ _ _ _ h6) underNum rfl (infoNum_of (numC R) (numC_size _))) rfl ⟨rfl, (below_setRow hBw4.out (by omega) _)⟩

set_option maxHeartbeats 8000000 in
theorem value_3 (z x y : Int) (n a b : Nat) (hn : n < 4294967296) (la : a < pF) (lb : b < pF) (R : Nat) (hR : Hid (R = a * a % pF)) (w : World) :
    Calls Tryd.prog 15 #[.agg (opC 3 z x y n), .agg (numC a), .agg (numC b)] w fun e w' => e = .returned (.agg (numC R)) ∧ Below w.heap.size w w' := by
  go_enter Tryd.func15, Tryd.ntmps15
  go_upto_region 1 with fail
  refine wp_named ?_
  intro w1 ew1
  have hs1 : w.heap.size + 1 + 1 + 1 + 1 ≤ w1.heap.size := by rw [ew1]; (try simp only [alloc_size, setRow_size]); omega
  have h3 : w1.heap[w.heap.size]? = some (.cells (opC 3 z x y n) 33 (0, 0)) := by rw [ew1]; exact (heap_old _ (heap_old _ (heap_old _ (heap_new_at _ _ _ rfl))))
  have h4 : w1.heap[w.heap.size + 1]? = some (.cells (numC a) 42 (0, 0)) := by rw [ew1]; exact (heap_old _ (heap_old _ (heap_new_at _ _ _ (by simp only [alloc_size, setRow_size]))))
  have h5 : w1.heap[w.heap.size + 1 + 1]? = some (.cells (numC b) 42 (0, 0)) := by rw [ew1]; exact (heap_old _ (heap_new_at _ _ _ (by simp only [alloc_size, setRow_size])))
  have h6 : w1.heap[w.heap.size + 1 + 1 + 1]? = some (.cells (z4) 42 (0, 0)) := by rw [ew1]; exact (heap_new_at _ _ _ (by simp only [alloc_size, setRow_size]))
  have hBw1 : Hid (Below w.heap.size w w1) := Lib.hid (by rw [ew1]; exact below_alloc (below_alloc (below_alloc (below_alloc (Below.refl _ w) _) _) _) _)
  clear ew1
  go_wp2_with fail
  refine (prime_any _).mono ?_
  rintro e w2 ⟨rfl, hC2⟩
  have hs2 : w1.heap.size ≤ w2.heap.size := by have := hC2.size; (try simp only [alloc_size, setRow_size] at this); omega
  replace h3 : w2.heap[w.heap.size]? = some (.cells (opC 3 z x y n) 33 (0, 0)) := (heap_call hC2 h3)
  replace h4 : w2.heap[w.heap.size + 1]? = some (.cells (numC a) 42 (0, 0)) := (heap_call hC2 h4)
  replace h5 : w2.heap[w.heap.size + 1 + 1]? = some (.cells (numC b) 42 (0, 0)) := (heap_call hC2 h5)
  replace h6 : w2.heap[w.heap.size + 1 + 1 + 1]? = some (.cells (z4) 42 (0, 0)) := (heap_call hC2 h6)
  have hBw2 : Hid (Below w.heap.size w w2) := Lib.hid (below_call hBw1.out hC2)
  clear hC2
  go_upto_region 2 with (first
    | ((with_reducible refine at_store 7 ?_); refine wpList_store_row rfl 42 _ _ rfl (w2.heap.size) (numC pF) rfl rfl 42 (z4) (heap_new_at _ _ _ rfl) (infoNum_of (numC pF) (numC_size _)) (z4_size.trans (numC_size _).symm) (numC_one _) ?_))
  try simp only [Act.put]
  refine wp_named ?_
  intro w3 ew3
  have hs3 : w2.heap.size + 1 ≤ w3.heap.size := by rw [ew3]; (try simp only [alloc_size, setRow_size]); omega
  replace h3 : w3.heap[w.heap.size]? = some (.cells (opC 3 z x y n) 33 (0, 0)) := by rw [ew3]; exact (heap_row _ (by omega) (heap_old _ h3))
  replace h4 : w3.heap[w.heap.size + 1]? = some (.cells (numC a) 42 (0, 0)) := by rw [ew3]; exact (heap_row _ (by omega) (heap_old _ h4))
  replace h5 : w3.heap[w.heap.size + 1 + 1]? = some (.cells (numC b) 42 (0, 0)) := by rw [ew3]; exact (heap_row _ (by omega) (heap_old _ h5))
  replace h6 : w3.heap[w.heap.size + 1 + 1 + 1]? = some (.cells (z4) 42 (0, 0)) := by rw [ew3]; exact (heap_row _ (by omega) (heap_old _ h6))
  replace h7 : w3.heap[w2.heap.size]? = some (.cells (numC pF) 42 (0, 0)) := by rw [ew3]; exact (setRow_heap _ _ _ _ _ _ (heap_new_at _ _ _ rfl))
  have hBw3 : Hid (Below w.heap.size w w3) := Lib.hid (by rw [ew3]; exact (below_setRow (below_alloc hBw2.out _) (by omega) _))
  clear ew3
  have k0 : w3.cell? ⟨w.heap.size, 0, none⟩ = some (.int .i64 3) := cell_of_row w3 _ 0 _ _ _ h3
  have k4 : w3.cell? ⟨w.heap.size, 4, none⟩ = some (.int .u32 (n : Int)) := cell_of_row w3 _ 4 _ _ _ h3
  go_wp2_with (first
    | ((with_reducible refine at_dst 33 ?_); refine wpList_load_row rfl 42 _ rfl (w.heap.size + 1) rfl 42 (numC a) (0, 0) _ h4 underNum rfl (infoNum_of (numC a) (numC_size _)) ?_)
    | ((with_reducible refine at_dst 34 ?_); refine wpList_load_row rfl 42 _ rfl (w.heap.size + 1) rfl 42 (numC a) (0, 0) _ h4 underNum rfl (infoNum_of (numC a) (numC_size _)) ?_)
    | ((with_reducible refine at_dst 35 ?_); refine wpList_load_row rfl 42 _ rfl (w2.heap.size) rfl 42 (numC pF) (0, 0) _ h7 underNum rfl (infoNum_of (numC pF) (numC_size _)) ?_))
  refine (times_to a a pF R hR la (Nat.lt_trans la (by unfold pF; omega)) (by unfold pF; omega) _).mono ?_
  rintro e w4 ⟨rfl, hC4⟩
  have hs4 : w3.heap.size ≤ w4.heap.size := by have := hC4.size; (try simp only [alloc_size, setRow_size] at this); omega
  replace h3 : w4.heap[w.heap.size]? = some (.cells (opC 3 z x y n) 33 (0, 0)) := (heap_call hC4 h3)
  replace h4 : w4.heap[w.heap.size + 1]? = some (.cells (numC a) 42 (0, 0)) := (heap_call hC4 h4)
  replace h5 : w4.heap[w.heap.size + 1 + 1]? = some (.cells (numC b) 42 (0, 0)) := (heap_call hC4 h5)
  replace h6 : w4.heap[w.heap.size + 1 + 1 + 1]? = some (.cells (z4) 42 (0, 0)) := (heap_call hC4 h6)
  replace h7 : w4.heap[w2.heap.size]? = some (.cells (numC pF) 42 (0, 0)) := (heap_call hC4 h7)
  have hBw4 : Hid (Below w.heap.size w w4) := Lib.hid (below_call hBw3.out hC4)
  clear hC4
  go_wp2_with (first
    | ((with_reducible refine at_store 6 ?_); refine wpList_store_row rfl 42 _ _ rfl (w.heap.size + 1 + 1 + 1) (numC R) rfl rfl 42 (z4) h6 (infoNum_of (numC R) (numC_size _)) (z4_size.trans (numC_size _).symm) (numC_one _) ?_))
  refine bodyPost_ret (results_cell_row rfl _ _ (w.heap.size + 1 + 1 + 1) 42 (numC R) (0, 0) _ rfl (setRow_heap _ _ _ _ _ _ h6) underNum rfl (infoNum_of (numC R) (numC_size _))) rfl ⟨rfl, (below_setRow hBw4.out (by omega) _)⟩

set_option maxHeartbeats 8000000 in
theorem value_4 (z x y : Int) (n a b : Nat) (hn : n < 4294967296) (la : a < pF) (lb : b < pF) (R : Nat) (hR : Hid (R = (pF - a) % pF)) (w : World) :
    Calls Tryd.prog 15 #[.agg (opC 4 z x y n), .agg (numC a), .agg (numC b)] w fun e w' => e = .returned (.agg (numC R)) ∧ Below w.heap.size w w' := by
  go_enter Tryd.func15, Tryd.ntmps15
  go_upto_region 1 with fail
  refine wp_named ?_
  intro w1 ew1
  have hs1 : w.heap.size + 1 + 1 + 1 + 1 ≤ w1.heap.size := by rw [ew1]; (try simp only [alloc_size, setRow_size]); omega
  have h3 : w1.heap[w.heap.size]? = some (.cells (opC 4 z x y n) 33 (0, 0)) := by rw [ew1]; exact (heap_old _ (heap_old _ (heap_old _ (heap_new_at _ _ _ rfl))))
  have h4 : w1.heap[w.heap.size + 1]? = some (.cells (numC a) 42 (0, 0)) := by rw [ew1]; exact (heap_old _ (heap_old _ (heap_new_at _ _ _ (by simp only [alloc_size, setRow_size]))))
  have h5 : w1.heap[w.heap.size + 1 + 1]? = some (.cells (numC b) 42 (0, 0)) := by rw [ew1]; exact (heap_old _ (heap_new_at _ _ _ (by simp only [alloc_size, setRow_size])))
  have h6 : w1.heap[w.heap.size + 1 + 1 + 1]? = some (.cells (z4) 42 (0, 0)) := by rw [ew1]; exact (heap_new_at _ _ _ (by simp only [alloc_size, setRow_size]))
  have hBw1 : Hid (Below w.heap.size w w1) := Lib.hid (by rw [ew1]; exact below_alloc (below_alloc (below_alloc (below_alloc (Below.refl _ w) _) _) _) _)
  clear ew1
  go_wp2_with fail
  refine (prime_any _).mono ?_
  rintro e w2 ⟨rfl, hC2⟩
  have hs2 : w1.heap.size ≤ w2.heap.size := by have := hC2.size; (try simp only [alloc_size, setRow_size] at this); omega
  replace h3 : w2.heap[w.heap.size]? = some (.cells (opC 4 z x y n) 33 (0, 0)) := (heap_call hC2 h3)
  replace h4 : w2.heap[w.heap.size + 1]? = some (.cells (numC a) 42 (0, 0)) := (heap_call hC2 h4)
  replace h5 : w2.heap[w.heap.size + 1 + 1]? = some (.cells (numC b) 42 (0, 0)) := (heap_call hC2 h5)
  replace h6 : w2.heap[w.heap.size + 1 + 1 + 1]? = some (.cells (z4) 42 (0, 0)) := (heap_call hC2 h6)
  have hBw2 : Hid (Below w.heap.size w w2) := Lib.hid (below_call hBw1.out hC2)
  clear hC2
  go_upto_region 2 with (first
    | ((with_reducible refine at_store 7 ?_); refine wpList_store_row rfl 42 _ _ rfl (w2.heap.size) (numC pF) rfl rfl 42 (z4) (heap_new_at _ _ _ rfl) (infoNum_of (numC pF) (numC_size _)) (z4_size.trans (numC_size _).symm) (numC_one _) ?_))
  try simp only [Act.put]
  refine wp_named ?_
  intro w3 ew3
  have hs3 : w2.heap.size + 1 ≤ w3.heap.size := by rw [ew3]; (try simp only [alloc_size, setRow_size]); omega
  replace h3 : w3.heap[w.heap.size]? = some (.cells (opC 4 z x y n) 33 (0, 0)) := by rw [ew3]; exact (heap_row _ (by omega) (heap_old _ h3))
  replace h4 : w3.heap[w.heap.size + 1]? = some (.cells (numC a) 42 (0, 0)) := by rw [ew3]; exact (heap_row _ (by omega) (heap_old _ h4))
  replace h5 : w3.heap[w.heap.size + 1 + 1]? = some (.cells (numC b) 42 (0, 0)) := by rw [ew3]; exact (heap_row _ (by omega) (heap_old _ h5))
  replace h6 : w3.heap[w.heap.size + 1 + 1 + 1]? = some (.cells (z4) 42 (0, 0)) := by rw [ew3]; exact (heap_row _ (by omega) (heap_old _ h6))
  replace h7 : w3.heap[w2.heap.size]? = some (.cells (numC pF) 42 (0, 0)) := by rw [ew3]; exact (setRow_heap _ _ _ _ _ _ (heap_new_at _ _ _ rfl))
  have hBw3 : Hid (Below w.heap.size w w3) := Lib.hid (by rw [ew3]; exact (below_setRow (below_alloc hBw2.out _) (by omega) _))
  clear ew3
  have k0 : w3.cell? ⟨w.heap.size, 0, none⟩ = some (.int .i64 4) := cell_of_row w3 _ 0 _ _ _ h3
  have k4 : w3.cell? ⟨w.heap.size, 4, none⟩ = some (.int .u32 (n : Int)) := cell_of_row w3 _ 4 _ _ _ h3
  go_wp2_with (first
    | ((with_reducible refine at_dst 39 ?_); refine wpList_load_row rfl 42 _ rfl (w.heap.size + 1) rfl 42 (numC a) (0, 0) _ h4 underNum rfl (infoNum_of (numC a) (numC_size _)) ?_))
  refine (opposite_to a R la hR _).mono ?_
  rintro e w4 ⟨rfl, hC4⟩
  have hs4 : w3.heap.size ≤ w4.heap.size := by have := hC4.size; (try simp only [alloc_size, setRow_size] at this); omega
  replace h3 : w4.heap[w.heap.size]? = some (.cells (opC 4 z x y n) 33 (0, 0)) := (heap_call hC4 h3)
  replace h4 : w4.heap[w.heap.size + 1]? = some (.cells (numC a) 42 (0, 0)) := (heap_call hC4 h4)
  replace h5 : w4.heap[w.heap.size + 1 + 1]? = some (.cells (numC b) 42 (0, 0)) := (heap_call hC4 h5)
  replace h6 : w4.heap[w.heap.size + 1 + 1 + 1]? = some (.cells (z4) 42 (0, 0)) := (heap_call hC4 h6)
  replace h7 : w4.heap[w2.heap.size]? = some (.cells (numC pF) 42 (0, 0)) := (heap_call hC4 h7)
  have hBw4 : Hid (Below w.heap.size w w4) := Lib.hid (below_call hBw3.out hC4)
  clear hC4
  go_wp2_with (first
    | ((with_reducible refine at_store 6 ?_); refine wpList_store_row rfl 42 _ _ rfl (w.heap.size + 1 + 1 + 1) (numC R) rfl rfl 42 (z4) h6 (infoNum_of (numC R) (numC_size _)) (z4_size.trans (numC_size _).symm) (numC_one _) ?_))
  refine bodyPost_ret (results_cell_row rfl _ _ (w.heap.size + 1 + 1 + 1) 42 (numC R) (0, 0) _ rfl (setRow_heap _ _ _ _ _ _ h6) underNum rfl (infoNum_of (numC R) (numC_size _))) rfl ⟨rfl, (below_setRow hBw4.out (by omega) _)⟩

set_option maxHeartbeats 8000000 in
theorem value_5 (z x y : Int) (n a b : Nat) (hn : n < 4294967296) (la : a < pF) (lb : b < pF) (R : Nat) (hR : Hid (R = a * n % pF)) (w : World) :
    Calls Tryd.prog 15 #[.agg (opC 5 z x y n), .agg (numC a), .agg (numC b)] w fun e w' => e = .returned (.agg (numC R)) ∧ Below w.heap.size w w' := by
  go_enter Tryd.func15, Tryd.ntmps15
  go_upto_region 1 with fail
  refine wp_named ?_
  intro w1 ew1
  have hs1 : w.heap.size + 1 + 1 + 1 + 1 ≤ w1.heap.size := by rw [ew1]; (try simp only [alloc_size, setRow_size]); omega
  have h3 : w1.heap[w.heap.size]? = some (.cells (opC 5 z x y n) 33 (0, 0)) := by rw [ew1]; exact (heap_old _ (heap_old _ (heap_old _ (heap_new_at _ _ _ rfl))))
  have h4 : w1.heap[w.heap.size + 1]? = some (.cells (numC a) 42 (0, 0)) := by rw [ew1]; exact (heap_old _ (heap_old _ (heap_new_at _ _ _ (by simp only [alloc_size, setRow_size]))))
  have h5 : w1.heap[w.heap.size + 1 + 1]? = some (.cells (numC b) 42 (0, 0)) := by rw [ew1]; exact (heap_old _ (heap_new_at _ _ _ (by simp only [alloc_size, setRow_size])))
  have h6 : w1.heap[w.heap.size + 1 + 1 + 1]? = some (.cells (z4) 42 (0, 0)) := by rw [ew1]; exact (heap_new_at _ _ _ (by simp only [alloc_size, setRow_size]))
  have hBw1 : Hid (Below w.heap.size w w1) := Lib.hid (by rw [ew1]; exact below_alloc (below_alloc (below_alloc (below_alloc (Below.refl _ w) _) _) _) _)
  clear ew1
  go_wp2_with fail
  refine (prime_any _).mono ?_
  rintro e w2 ⟨rfl, hC2⟩
  have hs2 : w1.heap.size ≤ w2.heap.size := by have := hC2.size; (try simp only [alloc_size, setRow_size] at this); omega
  replace h3 : w2.heap[w.heap.size]? = some (.cells (opC 5 z x y n) 33 (0, 0)) := (heap_call hC2 h3)
  replace h4 : w2.heap[w.heap.size + 1]? = some (.cells (numC a) 42 (0, 0)) := (heap_call hC2 h4)
  replace h5 : w2.heap[w.heap.size + 1 + 1]? = some (.cells (numC b) 42 (0, 0)) := (heap_call hC2 h5)
  replace h6 : w2.heap[w.heap.size + 1 + 1 + 1]? = some (.cells (z4) 42 (0, 0)) := (heap_call hC2 h6)
  have hBw2 : Hid (Below w.heap.size w w2) := Lib.hid (below_call hBw1.out hC2)
  clear hC2
  go_upto_region 2 with (first
    | ((with_reducible refine at_store 7 ?_); refine wpList_store_row rfl 42 _ _ rfl (w2.heap.size) (numC pF) rfl rfl 42 (z4) (heap_new_at _ _ _ rfl) (infoNum_of (numC pF) (numC_size _)) (z4_size.trans (numC_size _).symm) (numC_one _) ?_))
  try simp only [Act.put]
  refine wp_named ?_
  intro w3 ew3
  have hs3 : w2.heap.size + 1 ≤ w3.heap.size := by rw [ew3]; (try simp only [alloc_size, setRow_size]); omega
  replace h3 : w3.heap[w.heap.size]? = some (.cells (opC 5 z x y n) 33 (0, 0)) := by rw [ew3]; exact (heap_row _ (by omega) (heap_old _ h3))
  replace h4 : w3.heap[w.heap.size + 1]? = some (.cells (numC a) 42 (0, 0)) := by rw [ew3]; exact (heap_row _ (by omega) (heap_old _ h4))
  replace h5 : w3.heap[w.heap.size + 1 + 1]? = some (.cells (numC b) 42 (0, 0)) := by rw [ew3]; exact (heap_row _ (by omega) (heap_old _ h5))
  replace h6 : w3.heap[w.heap.size + 1 + 1 + 1]? = some (.cells (z4) 42 (0, 0)) := by rw [ew3]; exact (heap_row _ (by omega) (heap_old _ h6))
  replace h7 : w3.heap[w2.heap.size]? = some (.cells (numC pF) 42 (0, 0)) := by rw [ew3]; exact (setRow_heap _ _ _ _ _ _ (heap_new_at _ _ _ rfl))
  have hBw3 : Hid (Below w.heap.size w w3) := Lib.hid (by rw [ew3]; exact (below_setRow (below_alloc hBw2.out _) (by omega) _))
  clear ew3
  have k0 : w3.cell? ⟨w.heap.size, 0, none⟩ = some (.int .i64 5) := cell_of_row w3 _ 0 _ _ _ h3
  have k4 : w3.cell? ⟨w.heap.size, 4, none⟩ = some (.int .u32 (n : Int)) := cell_of_row w3 _ 4 _ _ _ h3
  go_wp2_with fail
  try simp only [Act.put]
  refine wp_region_noPanic ?_
  refine wp_region_held_drew (S := Keep (w.heap.size + 1 + 1 + 1) w3) (by kernel_rfl) (Keep.start _ _) ?_
  intro hS
  obtain ⟨w4, ed⟩ : ∃ u : World, u = w3.drew := ⟨_, rfl⟩
  rw [← ed] at hS ⊢
  have xh3 : w4.heap[w.heap.size]? = some (.cells (opC 5 z x y n) 33 (0, 0)) := by rw [ed]; exact h3
  have xh4 : w4.heap[w.heap.size + 1]? = some (.cells (numC a) 42 (0, 0)) := by rw [ed]; exact h4
  have xh5 : w4.heap[w.heap.size + 1 + 1]? = some (.cells (numC b) 42 (0, 0)) := by rw [ed]; exact h5
  have xh6 : w4.heap[w.heap.size + 1 + 1 + 1]? = some (.cells (z4) 42 (0, 0)) := by rw [ed]; exact h6
  have xh7 : w4.heap[w2.heap.size]? = some (.cells (numC pF) 42 (0, 0)) := by rw [ed]; exact h7
  clear ed
  have hSz := hS.size
  clear xh3
  clear xh4
  clear xh5
  clear xh7
  refine takeAt (i := 0) (v := .agg (numC a)) rfl (some 43) rfl (by kernel_rfl) (by kernel_rfl) (by kernel_rfl) (fun _ _ _ h => h) (take_row rfl _ _ rfl (w.heap.size + 1) rfl _ _ _ h4 (by omega) underNum rfl (infoNum_of (numC a) (numC_size _))) hS ?_
  simp only [Act.put, List.setIfInBounds_toArray, List.set_cons_zero, List.set_cons_succ]
  refine takeAt (i := 1) (v := .pointer (some ⟨w.heap.size, 4, none⟩)) rfl (some 44) rfl (by kernel_rfl) (by kernel_rfl) (by kernel_rfl) (fun _ _ _ h => h) (take_run rfl (fun _ _ => by go_simp)) hS ?_
  simp only [Act.put, List.setIfInBounds_toArray, List.set_cons_zero, List.set_cons_succ]
  refine takeAt (i := 2) (v := .int .u32 (n : Int)) rfl (some 45) rfl (by kernel_rfl) (by kernel_rfl) (by kernel_rfl) (fun _ _ _ h => h) (take_run rfl (fun u hK => by have cc := Keep.cell hK k4 (by omega); go_simp)) hS ?_
  simp only [Act.put, List.setIfInBounds_toArray, List.set_cons_zero, List.set_cons_succ]
  refine takeAt (i := 3) (v := .int .u64 (n : Int)) rfl (some 46) rfl (by kernel_rfl) (by kernel_rfl) (by kernel_rfl) (fun _ _ _ h => h) (take_run rfl (fun _ _ => by go_simp; exact wrap_nat n (by omega))) hS ?_
  simp only [Act.put, List.setIfInBounds_toArray, List.set_cons_zero, List.set_cons_succ]
  refine takeAt (i := 5) (v := .agg (numC pF)) rfl (some 48) rfl (by kernel_rfl) (by kernel_rfl) (by kernel_rfl) (fun _ _ _ h => h) (take_row rfl _ _ rfl (w2.heap.size) rfl _ _ _ h7 (by omega) underNum rfl (infoNum_of (numC pF) (numC_size _))) hS ?_
  simp only [Act.put, List.setIfInBounds_toArray, List.set_cons_zero, List.set_cons_succ]
  refine wpAnyH_ready (rs := [4]) (by kernel_rfl) (by simp) ?_
  refine (AllReadyH.cons rfl ?_ AllReadyH.nil)
  intro K hK
  refine ready_call rfl (some 47) rfl 41 #[.int .u64 (n : Int)] (by go_simp) ?_
  refine (small_any n (by omega) _).mono ?_
  rintro e w5 ⟨rfl, hC⟩
  refine ⟨_, rfl, ?_⟩
  simp only [Act.put, List.setIfInBounds_toArray, List.set_cons_zero, List.set_cons_succ]
  have xh6 : w5.heap[w.heap.size + 1 + 1 + 1]? = some (.cells (z4) 42 (0, 0)) := (heap_call hC xh6)
  have hS := hS.call hC
  have hz5 := hC.size
  clear hC
  refine hK.out _ _ hS ?_
  clear hK K
  intro _
  have hSz := hS.size
  refine wpAnyH_ready (rs := [6]) (by kernel_rfl) (by simp) ?_
  refine (AllReadyH.cons rfl ?_ AllReadyH.nil)
  intro K hK
  refine ready_call rfl (some 49) rfl 39 #[.agg (numC a), .agg (numC n), .agg (numC pF)] (by go_simp) ?_
  refine (times_to a n pF R hR la (by omega) (by unfold pF; omega) _).mono ?_
  rintro e w6 ⟨rfl, hC⟩
  refine ⟨_, rfl, ?_⟩
  simp only [Act.put, List.setIfInBounds_toArray, List.set_cons_zero, List.set_cons_succ]
  have xh6 : w6.heap[w.heap.size + 1 + 1 + 1]? = some (.cells (z4) 42 (0, 0)) := (heap_call hC xh6)
  have hS := hS.call hC
  have hz6 := hC.size
  clear hC
  refine hK.out _ _ hS ?_
  clear hK K
  intro _
  have hSz := hS.size
  refine wpAnyH_ready (rs := [7]) (by kernel_rfl) (by simp) ?_
  refine (AllReadyH.cons rfl ?_ AllReadyH.nil)
  intro K hK
  rw [if_pos (by rfl)]
  refine wp_store_row 42 _ _ rfl (w.heap.size + 1 + 1 + 1) (numC R) rfl rfl 42 (z4) xh6 (infoNum_of (numC R) (numC_size _)) (z4_size.trans (numC_size _).symm) (numC_one _) ?_
  refine put_at (none) rfl ?_
  simp only [Act.put, List.setIfInBounds_toArray, List.set_cons_zero, List.set_cons_succ]
  have xh6 : (w6.setRow (w.heap.size + 1 + 1 + 1) (numC R)).heap[w.heap.size + 1 + 1 + 1]? = some (.cells (numC R) 42 (0, 0)) := (setRow_heap _ _ _ _ _ _ xh6)
  have hS := hS.store (numC R)
  generalize w6.setRow (w.heap.size + 1 + 1 + 1) (numC R) = w7 at *
  refine hK.out _ _ hS ?_
  clear hK K
  intro _
  have hSz := hS.size
  refine wpAnyH_done (by kernel_rfl) ?_ _
  refine NoPanic.normal ?_
  have hsz := hS.size
  have h3 : w7.heap[w.heap.size]? = some (.cells (opC 5 z x y n) 33 (0, 0)) := hS.old h3 (by omega)
  have h4 : w7.heap[w.heap.size + 1]? = some (.cells (numC a) 42 (0, 0)) := hS.old h4 (by omega)
  have h5 : w7.heap[w.heap.size + 1 + 1]? = some (.cells (numC b) 42 (0, 0)) := hS.old h5 (by omega)
  have h7 : w7.heap[w2.heap.size]? = some (.cells (numC pF) 42 (0, 0)) := hS.old h7 (by omega)
  have h6 := xh6
  have hBw7 : Hid (Below w.heap.size w w7) := Lib.hid (hBw3.out.trans (hS.below (by omega) hBw3.out.size))
  clear hS
  go_wp2
  refine bodyPost_ret (results_cell_row rfl _ _ (w.heap.size + 1 + 1 + 1) 42 (numC R) (0, 0) _ rfl h6 underNum rfl (infoNum_of (numC R) (numC_size _))) rfl ⟨rfl, hBw7.out⟩

set_option maxHeartbeats 8000000 in
theorem value_6 (z x y : Int) (n a b : Nat) (hn : n < 4294967296) (la : a < pF) (lb : b < pF) (R : Nat) (hR : Hid (R = xp a 57896044618658097711785492504343953926634992332820282019728792003956564819947)) (w : World) :
    Calls Tryd.prog 15 #[.agg (opC 6 z x y n), .agg (numC a), .agg (numC b)] w fun e w' => e = .returned (.agg (numC R)) ∧ Below w.heap.size w w' := by
  go_enter Tryd.func15, Tryd.ntmps15
  go_upto_region 1 with fail
  refine wp_named ?_
  intro w1 ew1
  have hs1 : w.heap.size + 1 + 1 + 1 + 1 ≤ w1.heap.size := by rw [ew1]; (try simp only [alloc_size, setRow_size]); omega
  have h3 : w1.heap[w.heap.size]? = some (.cells (opC 6 z x y n) 33 (0, 0)) := by rw [ew1]; exact (heap_old _ (heap_old _ (heap_old _ (heap_new_at _ _ _ rfl))))
  have h4 : w1.heap[w.heap.size + 1]? = some (.cells (numC a) 42 (0, 0)) := by rw [ew1]; exact (heap_old _ (heap_old _ (heap_new_at _ _ _ (by simp only [alloc_size, setRow_size]))))
  have h5 : w1.heap[w.heap.size + 1 + 1]? = some (.cells (numC b) 42 (0, 0)) := by rw [ew1]; exact (heap_old _ (heap_new_at _ _ _ (by simp only [alloc_size, setRow_size])))
  have h6 : w1.heap[w.heap.size + 1 + 1 + 1]? = some (.cells (z4) 42 (0, 0)) := by rw [ew1]; exact (heap_new_at _ _ _ (by simp only [alloc_size, setRow_size]))
  have hBw1 : Hid (Below w.heap.size w w1) := Lib.hid (by rw [ew1]; exact below_alloc (below_alloc (below_alloc (below_alloc (Below.refl _ w) _) _) _) _)
  clear ew1
  go_wp2_with fail
  refine (prime_any _).mono ?_
  rintro e w2 ⟨rfl, hC2⟩
  have hs2 : w1.heap.size ≤ w2.heap.size := by have := hC2.size; (try simp only [alloc_size, setRow_size] at this); omega
  replace h3 : w2.heap[w.heap.size]? = some (.cells (opC 6 z x y n) 33 (0, 0)) := (heap_call hC2 h3)
  replace h4 : w2.heap[w.heap.size + 1]? = some (.cells (numC a) 42 (0, 0)) := (heap_call hC2 h4)
  replace h5 : w2.heap[w.heap.size + 1 + 1]? = some (.cells (numC b) 42 (0, 0)) := (heap_call hC2 h5)
  replace h6 : w2.heap[w.heap.size + 1 + 1 + 1]? = some (.cells (z4) 42 (0, 0)) := (heap_call hC2 h6)
  have hBw2 : Hid (Below w.heap.size w w2) := Lib.hid (below_call hBw1.out hC2)
  clear hC2
  go_upto_region 2 with (first
    | ((with_reducible refine at_store 7 ?_); refine wpList_store_row rfl 42 _ _ rfl (w2.heap.size) (numC pF) rfl rfl 42 (z4) (heap_new_at _ _ _ rfl) (infoNum_of (numC pF) (numC_size _)) (z4_size.trans (numC_size _).symm) (numC_one _) ?_))
  try simp only [Act.put]
  refine wp_named ?_
  intro w3 ew3
  have hs3 : w2.heap.size + 1 ≤ w3.heap.size := by rw [ew3]; (try simp only [alloc_size, setRow_size]); omega
  replace h3 : w3.heap[w.heap.size]? = some (.cells (opC 6 z x y n) 33 (0, 0)) := by rw [ew3]; exact (heap_row _ (by omega) (heap_old _ h3))
  replace h4 : w3.heap[w.heap.size + 1]? = some (.cells (numC a) 42 (0, 0)) := by rw [ew3]; exact (heap_row _ (by omega) (heap_old _ h4))
  replace h5 : w3.heap[w.heap.size + 1 + 1]? = some (.cells (numC b) 42 (0, 0)) := by rw [ew3]; exact (heap_row _ (by omega) (heap_old _ h5))
  replace h6 : w3.heap[w.heap.size + 1 + 1 + 1]? = some (.cells (z4) 42 (0, 0)) := by rw [ew3]; exact (heap_row _ (by omega) (heap_old _ h6))
  replace h7 : w3.heap[w2.heap.size]? = some (.cells (numC pF) 42 (0, 0)) := by rw [ew3]; exact (setRow_heap _ _ _ _ _ _ (heap_new_at _ _ _ rfl))
  have hBw3 : Hid (Below w.heap.size w w3) := Lib.hid (by rw [ew3]; exact (below_setRow (below_alloc hBw2.out _) (by omega) _))
  clear ew3
  have k0 : w3.cell? ⟨w.heap.size, 0, none⟩ = some (.int .i64 6) := cell_of_row w3 _ 0 _ _ _ h3
  have k4 : w3.cell? ⟨w.heap.size, 4, none⟩ = some (.int .u32 (n : Int)) := cell_of_row w3 _ 4 _ _ _ h3
  go_wp2_with (first
    | ((with_reducible refine at_dst 52 ?_); refine wpList_load_row rfl 42 _ rfl (w.heap.size + 1) rfl 42 (numC a) (0, 0) _ h4 underNum rfl (infoNum_of (numC a) (numC_size _)) ?_))
  refine (inverse_to a R la hR _).mono ?_
  rintro e w4 ⟨rfl, hC4⟩
  have hs4 : w3.heap.size ≤ w4.heap.size := by have := hC4.size; (try simp only [alloc_size, setRow_size] at this); omega
  replace h3 : w4.heap[w.heap.size]? = some (.cells (opC 6 z x y n) 33 (0, 0)) := (heap_call hC4 h3)
  replace h4 : w4.heap[w.heap.size + 1]? = some (.cells (numC a) 42 (0, 0)) := (heap_call hC4 h4)
  replace h5 : w4.heap[w.heap.size + 1 + 1]? = some (.cells (numC b) 42 (0, 0)) := (heap_call hC4 h5)
  replace h6 : w4.heap[w.heap.size + 1 + 1 + 1]? = some (.cells (z4) 42 (0, 0)) := (heap_call hC4 h6)
  replace h7 : w4.heap[w2.heap.size]? = some (.cells (numC pF) 42 (0, 0)) := (heap_call hC4 h7)
  have hBw4 : Hid (Below w.heap.size w w4) := Lib.hid (below_call hBw3.out hC4)
  clear hC4
  go_wp2_with (first
    | ((with_reducible refine at_store 6 ?_); refine wpList_store_row rfl 42 _ _ rfl (w.heap.size + 1 + 1 + 1) (numC R) rfl rfl 42 (z4) h6 (infoNum_of (numC R) (numC_size _)) (z4_size.trans (numC_size _).symm) (numC_one _) ?_))
  refine bodyPost_ret (results_cell_row rfl _ _ (w.heap.size + 1 + 1 + 1) 42 (numC R) (0, 0) _ rfl (setRow_heap _ _ _ _ _ _ h6) underNum rfl (infoNum_of (numC R) (numC_size _))) rfl ⟨rfl, (below_setRow hBw4.out (by omega) _)⟩

set_option maxHeartbeats 8000000 in
theorem value_7 (z x y : Int) (n a b : Nat) (hn : n < 4294967296) (la : a < pF) (lb : b < pF) (R : Nat) (hR : Hid (R = absN a)) (w : World) :
    Calls Tryd.prog 15 #[.agg (opC 7 z x y n), .agg (numC a), .agg (numC b)] w fun e w' => e = .returned (.agg (numC R)) ∧ Below w.heap.size w w' := by
  go_enter Tryd.func15, Tryd.ntmps15
  go_upto_region 1 with fail
  refine wp_named ?_
  intro w1 ew1
  have hs1 : w.heap.size + 1 + 1 + 1 + 1 ≤ w1.heap.size := by rw [ew1]; (try simp only [alloc_size, setRow_size]); omega
  have h3 : w1.heap[w.heap.size]? = some (.cells (opC 7 z x y n) 33 (0, 0)) := by rw [ew1]; exact (heap_old _ (heap_old _ (heap_old _ (heap_new_at _ _ _ rfl))))
  have h4 : w1.heap[w.heap.size + 1]? = some (.cells (numC a) 42 (0, 0)) := by rw [ew1]; exact (heap_old _ (heap_old _ (heap_new_at _ _ _ (by simp only [alloc_size, setRow_size]))))
  have h5 : w1.heap[w.heap.size + 1 + 1]? = some (.cells (numC b) 42 (0, 0)) := by rw [ew1]; exact (heap_old _ (heap_new_at _ _ _ (by simp only [alloc_size, setRow_size])))
  have h6 : w1.heap[w.heap.size + 1 + 1 + 1]? = some (.cells (z4) 42 (0, 0)) := by rw [ew1]; exact (heap_new_at _ _ _ (by simp only [alloc_size, setRow_size]))
  have hBw1 : Hid (Below w.heap.size w w1) := Lib.hid (by rw [ew1]; exact below_alloc (below_alloc (below_alloc (below_alloc (Below.refl _ w) _) _) _) _)
  clear ew1
  go_wp2_with fail
  refine (prime_any _).mono ?_
  rintro e w2 ⟨rfl, hC2⟩
  have hs2 : w1.heap.size ≤ w2.heap.size := by have := hC2.size; (try simp only [alloc_size, setRow_size] at this); omega
  replace h3 : w2.heap[w.heap.size]? = some (.cells (opC 7 z x y n) 33 (0, 0)) := (heap_call hC2 h3)
  replace h4 : w2.heap[w.heap.size + 1]? = some (.cells (numC a) 42 (0, 0)) := (heap_call hC2 h4)
  replace h5 : w2.heap[w.heap.size + 1 + 1]? = some (.cells (numC b) 42 (0, 0)) := (heap_call hC2 h5)
  replace h6 : w2.heap[w.heap.size + 1 + 1 + 1]? = some (.cells (z4) 42 (0, 0)) := (heap_call hC2 h6)
  have hBw2 : Hid (Below w.heap.size w w2) := Lib.hid (below_call hBw1.out hC2)
  clear hC2
  go_upto_region 2 with (first
    | ((with_reducible refine at_store 7 ?_); refine wpList_store_row rfl 42 _ _ rfl (w2.heap.size) (numC pF) rfl rfl 42 (z4) (heap_new_at _ _ _ rfl) (infoNum_of (numC pF) (numC_size _)) (z4_size.trans (numC_size _).symm) (numC_one _) ?_))
  try simp only [Act.put]
  refine wp_named ?_
  intro w3 ew3
  have hs3 : w2.heap.size + 1 ≤ w3.heap.size := by rw [ew3]; (try simp only [alloc_size, setRow_size]); omega
  replace h3 : w3.heap[w.heap.size]? = some (.cells (opC 7 z x y n) 33 (0, 0)) := by rw [ew3]; exact (heap_row _ (by omega) (heap_old _ h3))
  replace h4 : w3.heap[w.heap.size + 1]? = some (.cells (numC a) 42 (0, 0)) := by rw [ew3]; exact (heap_row _ (by omega) (heap_old _ h4))
  replace h5 : w3.heap[w.heap.size + 1 + 1]? = some (.cells (numC b) 42 (0, 0)) := by rw [ew3]; exact (heap_row _ (by omega) (heap_old _ h5))
  replace h6 : w3.heap[w.heap.size + 1 + 1 + 1]? = some (.cells (z4) 42 (0, 0)) := by rw [ew3]; exact (heap_row _ (by omega) (heap_old _ h6))
  replace h7 : w3.heap[w2.heap.size]? = some (.cells (numC pF) 42 (0, 0)) := by rw [ew3]; exact (setRow_heap _ _ _ _ _ _ (heap_new_at _ _ _ rfl))
  have hBw3 : Hid (Below w.heap.size w w3) := Lib.hid (by rw [ew3]; exact (below_setRow (below_alloc hBw2.out _) (by omega) _))
  clear ew3
  have k0 : w3.cell? ⟨w.heap.size, 0, none⟩ = some (.int .i64 7) := cell_of_row w3 _ 0 _ _ _ h3
  have k4 : w3.cell? ⟨w.heap.size, 4, none⟩ = some (.int .u32 (n : Int)) := cell_of_row w3 _ 4 _ _ _ h3
  go_wp2_with (first
    | ((with_reducible refine at_dst 56 ?_); refine wpList_load_row rfl 42 _ rfl (w.heap.size + 1) rfl 42 (numC a) (0, 0) _ h4 underNum rfl (infoNum_of (numC a) (numC_size _)) ?_))
  refine (sabsolute_to a R la hR _).mono ?_
  rintro e w4 ⟨rfl, hC4⟩
  have hs4 : w3.heap.size ≤ w4.heap.size := by have := hC4.size; (try simp only [alloc_size, setRow_size] at this); omega
  replace h3 : w4.heap[w.heap.size]? = some (.cells (opC 7 z x y n) 33 (0, 0)) := (heap_call hC4 h3)
  replace h4 : w4.heap[w.heap.size + 1]? = some (.cells (numC a) 42 (0, 0)) := (heap_call hC4 h4)
  replace h5 : w4.heap[w.heap.size + 1 + 1]? = some (.cells (numC b) 42 (0, 0)) := (heap_call hC4 h5)
  replace h6 : w4.heap[w.heap.size + 1 + 1 + 1]? = some (.cells (z4) 42 (0, 0)) := (heap_call hC4 h6)
  replace h7 : w4.heap[w2.heap.size]? = some (.cells (numC pF) 42 (0, 0)) := (heap_call hC4 h7)
  have hBw4 : Hid (Below w.heap.size w w4) := Lib.hid (below_call hBw3.out hC4)
  clear hC4
  go_wp2_with (first
    | ((with_reducible refine at_store 6 ?_); refine wpList_store_row rfl 42 _ _ rfl (w.heap.size + 1 + 1 + 1) (numC R) rfl rfl 42 (z4) h6 (infoNum_of (numC R) (numC_size _)) (z4_size.trans (numC_size _).symm) (numC_one _) ?_))
  refine bodyPost_ret (results_cell_row rfl _ _ (w.heap.size + 1 + 1 + 1) 42 (numC R) (0, 0) _ rfl (setRow_heap _ _ _ _ _ _ h6) underNum rfl (infoNum_of (numC R) (numC_size _))) rfl ⟨rfl, (below_setRow hBw4.out (by omega) _)⟩

set_option maxHeartbeats 8000000 in
theorem value_8 (z x y : Int) (n a b : Nat) (hn : n < 4294967296) (la : a < pF) (lb : b < pF) (R : Nat) (hR : Hid (R = xp a 7237005577332262213973186563042994240829374041602535252466099000494570602493)) (w : World) :
    Calls Tryd.prog 15 #[.agg (opC 8 z x y n), .agg (numC a), .agg (numC b)] w fun e w' => e = .returned (.agg (numC R)) ∧ Below w.heap.size w w' := by
  have HR : Hid (R = pm a eQ pF) := Lib.hid (by rw [hR.out]; unfold xp pm eQ; rfl)
  go_enter Tryd.func15, Tryd.ntmps15
  go_upto_region 1 with fail
  refine wp_named ?_
  intro w1 ew1
  have hs1 : w.heap.size + 1 + 1 + 1 + 1 ≤ w1.heap.size := by rw [ew1]; (try simp only [alloc_size, setRow_size]); omega
  have h3 : w1.heap[w.heap.size]? = some (.cells (opC 8 z x y n) 33 (0, 0)) := by rw [ew1]; exact (heap_old _ (heap_old _ (heap_old _ (heap_new_at _ _ _ rfl))))
  have h4 : w1.heap[w.heap.size + 1]? = some (.cells (numC a) 42 (0, 0)) := by rw [ew1]; exact (heap_old _ (heap_old _ (heap_new_at _ _ _ (by simp only [alloc_size, setRow_size]))))
  have h5 : w1.heap[w.heap.size + 1 + 1]? = some (.cells (numC b) 42 (0, 0)) := by rw [ew1]; exact (heap_old _ (heap_new_at _ _ _ (by simp only [alloc_size, setRow_size])))
  have h6 : w1.heap[w.heap.size + 1 + 1 + 1]? = some (.cells (z4) 42 (0, 0)) := by rw [ew1]; exact (heap_new_at _ _ _ (by simp only [alloc_size, setRow_size]))
  have hBw1 : Hid (Below w.heap.size w w1) := Lib.hid (by rw [ew1]; exact below_alloc (below_alloc (below_alloc (below_alloc (Below.refl _ w) _) _) _) _)
  clear ew1
  go_wp2_with fail
  refine (prime_any _).mono ?_
  rintro e w2 ⟨rfl, hC2⟩
  have hs2 : w1.heap.size ≤ w2.heap.size := by have := hC2.size; (try simp only [alloc_size, setRow_size] at this); omega
  replace h3 : w2.heap[w.heap.size]? = some (.cells (opC 8 z x y n) 33 (0, 0)) := (heap_call hC2 h3)
  replace h4 : w2.heap[w.heap.size + 1]? = some (.cells (numC a) 42 (0, 0)) := (heap_call hC2 h4)
  replace h5 : w2.heap[w.heap.size + 1 + 1]? = some (.cells (numC b) 42 (0, 0)) := (heap_call hC2 h5)
  replace h6 : w2.heap[w.heap.size + 1 + 1 + 1]? = some (.cells (z4) 42 (0, 0)) := (heap_call hC2 h6)
  have hBw2 : Hid (Below w.heap.size w w2) := Lib.hid (below_call hBw1.out hC2)
  clear hC2
  go_upto_region 2 with (first
    | ((with_reducible refine at_store 7 ?_); refine wpList_store_row rfl 42 _ _ rfl (w2.heap.size) (numC pF) rfl rfl 42 (z4) (heap_new_at _ _ _ rfl) (infoNum_of (numC pF) (numC_size _)) (z4_size.trans (numC_size _).symm) (numC_one _) ?_))
  try simp only [Act.put]
  refine wp_named ?_
  intro w3 ew3
  have hs3 : w2.heap.size + 1 ≤ w3.heap.size := by rw [ew3]; (try simp only [alloc_size, setRow_size]); omega
  replace h3 : w3.heap[w.heap.size]? = some (.cells (opC 8 z x y n) 33 (0, 0)) := by rw [ew3]; exact (heap_row _ (by omega) (heap_old _ h3))
  replace h4 : w3.heap[w.heap.size + 1]? = some (.cells (numC a) 42 (0, 0)) := by rw [ew3]; exact (heap_row _ (by omega) (heap_old _ h4))
  replace h5 : w3.heap[w.heap.size + 1 + 1]? = some (.cells (numC b) 42 (0, 0)) := by rw [ew3]; exact (heap_row _ (by omega) (heap_old _ h5))
  replace h6 : w3.heap[w.heap.size + 1 + 1 + 1]? = some (.cells (z4) 42 (0, 0)) := by rw [ew3]; exact (heap_row _ (by omega) (heap_old _ h6))
  replace h7 : w3.heap[w2.heap.size]? = some (.cells (numC pF) 42 (0, 0)) := by rw [ew3]; exact (setRow_heap _ _ _ _ _ _ (heap_new_at _ _ _ rfl))
  have hBw3 : Hid (Below w.heap.size w w3) := Lib.hid (by rw [ew3]; exact (below_setRow (below_alloc hBw2.out _) (by omega) _))
  clear ew3
  have k0 : w3.cell? ⟨w.heap.size, 0, none⟩ = some (.int .i64 8) := cell_of_row w3 _ 0 _ _ _ h3
  have k4 : w3.cell? ⟨w.heap.size, 4, none⟩ = some (.int .u32 (n : Int)) := cell_of_row w3 _ 4 _ _ _ h3
  go_wp2_with (first
    | ((with_reducible refine at_dst 60 ?_); refine wpList_load_row rfl 42 _ rfl (w.heap.size + 1) rfl 42 (numC a) (0, 0) _ h4 underNum rfl (infoNum_of (numC a) (numC_size _)) ?_)
    | ((with_reducible refine at_dst 61 ?_); refine wpList_buildTo rfl 42 _ rfl (some 61) rfl (numC (eQ)) (by kernel_rfl) ?_)
    | ((with_reducible refine at_dst 62 ?_); refine wpList_load_row rfl 42 _ rfl (w2.heap.size) rfl 42 (numC pF) (0, 0) _ h7 underNum rfl (infoNum_of (numC pF) (numC_size _)) ?_))
  refine (power_to a eQ pF R HR la (by unfold eQ; omega) (by unfold pF; omega) (by unfold pF; omega) _).mono ?_
  rintro e w4 ⟨rfl, hC4⟩
  have hs4 : w3.heap.size ≤ w4.heap.size := by have := hC4.size; (try simp only [alloc_size, setRow_size] at this); omega
  replace h3 : w4.heap[w.heap.size]? = some (.cells (opC 8 z x y n) 33 (0, 0)) := (heap_call hC4 h3)
  replace h4 : w4.heap[w.heap.size + 1]? = some (.cells (numC a) 42 (0, 0)) := (heap_call hC4 h4)
  replace h5 : w4.heap[w.heap.size + 1 + 1]? = some (.cells (numC b) 42 (0, 0)) := (heap_call hC4 h5)
  replace h6 : w4.heap[w.heap.size + 1 + 1 + 1]? = some (.cells (z4) 42 (0, 0)) := (heap_call hC4 h6)
  replace h7 : w4.heap[w2.heap.size]? = some (.cells (numC pF) 42 (0, 0)) := (heap_call hC4 h7)
  have hBw4 : Hid (Below w.heap.size w w4) := Lib.hid (below_call hBw3.out hC4)
  clear hC4
  go_wp2_with (first
    | ((with_reducible refine at_store 6 ?_); refine wpList_store_row rfl 42 _ _ rfl (w.heap.size + 1 + 1 + 1) (numC R) rfl rfl 42 (z4) h6 (infoNum_of (numC R) (numC_size _)) (z4_size.trans (numC_size _).symm) (numC_one _) ?_))
  refine bodyPost_ret (results_cell_row rfl _ _ (w.heap.size + 1 + 1 + 1) 42 (numC R) (0, 0) _ rfl (setRow_heap _ _ _ _ _ _ h6) underNum rfl (infoNum_of (numC R) (numC_size _))) rfl ⟨rfl, (below_setRow hBw4.out (by omega) _)⟩

set_option maxHeartbeats 8000000 in
theorem value_9 (z x y : Int) (n a b : Nat) (hn : n < 4294967296) (la : a < pF) (lb : b < pF) (R : Nat) (hR : Hid (R = sqR a b)) (w : World) :
    Calls Tryd.prog 15 #[.agg (opC 9 z x y n), .agg (numC a), .agg (numC b)] w fun e w' => e = .returned (.agg (numC R)) ∧ Below w.heap.size w w' := by
  go_enter Tryd.func15, Tryd.ntmps15
  go_upto_region 1 with fail
  refine wp_named ?_
  intro w1 ew1
  have hs1 : w.heap.size + 1 + 1 + 1 + 1 ≤ w1.heap.size := by rw [ew1]; (try simp only [alloc_size, setRow_size]); omega
  have h3 : w1.heap[w.heap.size]? = some (.cells (opC 9 z x y n) 33 (0, 0)) := by rw [ew1]; exact (heap_old _ (heap_old _ (heap_old _ (heap_new_at _ _ _ rfl))))
  have h4 : w1.heap[w.heap.size + 1]? = some (.cells (numC a) 42 (0, 0)) := by rw [ew1]; exact (heap_old _ (heap_old _ (heap_new_at _ _ _ (by simp only [alloc_size, setRow_size]))))
  have h5 : w1.heap[w.heap.size + 1 + 1]? = some (.cells (numC b) 42 (0, 0)) := by rw [ew1]; exact (heap_old _ (heap_new_at _ _ _ (by simp only [alloc_size, setRow_size])))
  have h6 : w1.heap[w.heap.size + 1 + 1 + 1]? = some (.cells (z4) 42 (0, 0)) := by rw [ew1]; exact (heap_new_at _ _ _ (by simp only [alloc_size, setRow_size]))
  have hBw1 : Hid (Below w.heap.size w w1) := Lib.hid (by rw [ew1]; exact below_alloc (below_alloc (below_alloc (below_alloc (Below.refl _ w) _) _) _) _)
  clear ew1
  go_wp2_with fail
  refine (prime_any _).mono ?_
  rintro e w2 ⟨rfl, hC2⟩
  have hs2 : w1.heap.size ≤ w2.heap.size := by have := hC2.size; (try simp only [alloc_size, setRow_size] at this); omega
  replace h3 : w2.heap[w.heap.size]? = some (.cells (opC 9 z x y n) 33 (0, 0)) := (heap_call hC2 h3)
  replace h4 : w2.heap[w.heap.size + 1]? = some (.cells (numC a) 42 (0, 0)) := (heap_call hC2 h4)
  replace h5 : w2.heap[w.heap.size + 1 + 1]? = some (.cells (numC b) 42 (0, 0)) := (heap_call hC2 h5)
  replace h6 : w2.heap[w.heap.size + 1 + 1 + 1]? = some (.cells (z4) 42 (0, 0)) := (heap_call hC2 h6)
  have hBw2 : Hid (Below w.heap.size w w2) := Lib.hid (below_call hBw1.out hC2)
  clear hC2
  go_upto_region 2 with (first
    | ((with_reducible refine at_store 7 ?_); refine wpList_store_row rfl 42 _ _ rfl (w2.heap.size) (numC pF) rfl rfl 42 (z4) (heap_new_at _ _ _ rfl) (infoNum_of (numC pF) (numC_size _)) (z4_size.trans (numC_size _).symm) (numC_one _) ?_))
  try simp only [Act.put]
  refine wp_named ?_
  intro w3 ew3
  have hs3 : w2.heap.size + 1 ≤ w3.heap.size := by rw [ew3]; (try simp only [alloc_size, setRow_size]); omega
  replace h3 : w3.heap[w.heap.size]? = some (.cells (opC 9 z x y n) 33 (0, 0)) := by rw [ew3]; exact (heap_row _ (by omega) (heap_old _ h3))
  replace h4 : w3.heap[w.heap.size + 1]? = some (.cells (numC a) 42 (0, 0)) := by rw [ew3]; exact (heap_row _ (by omega) (heap_old _ h4))
  replace h5 : w3.heap[w.heap.size + 1 + 1]? = some (.cells (numC b) 42 (0, 0)) := by rw [ew3]; exact (heap_row _ (by omega) (heap_old _ h5))
  replace h6 : w3.heap[w.heap.size + 1 + 1 + 1]? = some (.cells (z4) 42 (0, 0)) := by rw [ew3]; exact (heap_row _ (by omega) (heap_old _ h6))
  replace h7 : w3.heap[w2.heap.size]? = some (.cells (numC pF) 42 (0, 0)) := by rw [ew3]; exact (setRow_heap _ _ _ _ _ _ (heap_new_at _ _ _ rfl))
  have hBw3 : Hid (Below w.heap.size w w3) := Lib.hid (by rw [ew3]; exact (below_setRow (below_alloc hBw2.out _) (by omega) _))
  clear ew3
  have k0 : w3.cell? ⟨w.heap.size, 0, none⟩ = some (.int .i64 9) := cell_of_row w3 _ 0 _ _ _ h3
  have k4 : w3.cell? ⟨w.heap.size, 4, none⟩ = some (.int .u32 (n : Int)) := cell_of_row w3 _ 4 _ _ _ h3
  go_wp2_with (first
    | ((with_reducible refine at_dst 67 ?_); refine wpList_load_row rfl 42 _ rfl (w.heap.size + 1) rfl 42 (numC a) (0, 0) _ h4 underNum rfl (infoNum_of (numC a) (numC_size _)) ?_)
    | ((with_reducible refine at_dst 68 ?_); refine wpList_load_row rfl 42 _ rfl (w.heap.size + 1 + 1) rfl 42 (numC b) (0, 0) _ h5 underNum rfl (infoNum_of (numC b) (numC_size _)) ?_))
  refine (ratioRoot_any a b R la lb hR _).mono ?_
  rintro e w4 ⟨Z, rfl, hC4⟩
  have hs4 : w3.heap.size ≤ w4.heap.size := by have := hC4.size; (try simp only [alloc_size, setRow_size] at this); omega
  replace h3 : w4.heap[w.heap.size]? = some (.cells (opC 9 z x y n) 33 (0, 0)) := (heap_call hC4 h3)
  replace h4 : w4.heap[w.heap.size + 1]? = some (.cells (numC a) 42 (0, 0)) := (heap_call hC4 h4)
  replace h5 : w4.heap[w.heap.size + 1 + 1]? = some (.cells (numC b) 42 (0, 0)) := (heap_call hC4 h5)
  replace h6 : w4.heap[w.heap.size + 1 + 1 + 1]? = some (.cells (z4) 42 (0, 0)) := (heap_call hC4 h6)
  replace h7 : w4.heap[w2.heap.size]? = some (.cells (numC pF) 42 (0, 0)) := (heap_call hC4 h7)
  have hBw4 : Hid (Below w.heap.size w w4) := Lib.hid (below_call hBw3.out hC4)
  clear hC4
  go_wp2_with (first
    | ((with_reducible refine at_store 8 ?_); refine wpList_store_row rfl 42 _ _ rfl (w4.heap.size) (numC R) rfl rfl 42 (z4) (heap_new_at _ _ _ rfl) (infoNum_of (numC R) (numC_size _)) (z4_size.trans (numC_size _).symm) (numC_one _) ?_)
    | ((with_reducible refine at_dst 72 ?_); refine wpList_load_row rfl 42 _ rfl (w4.heap.size) rfl 42 (numC R) (0, 0) _ (setRow_heap _ _ _ _ _ _ (heap_new_at _ _ _ rfl)) underNum rfl (infoNum_of (numC R) (numC_size _)) ?_)
    | ((with_reducible refine at_store 6 ?_); refine wpList_store_row rfl 42 _ _ rfl (w.heap.size + 1 + 1 + 1) (numC R) rfl rfl 42 (z4) (heap_row _ (by omega) (heap_old _ h6)) (infoNum_of (numC R) (numC_size _)) (z4_size.trans (numC_size _).symm) (numC_one _) ?_))
  refine bodyPost_ret (results_cell_row rfl _ _ (w.heap.size + 1 + 1 + 1) 42 (numC R) (0, 0) _ rfl (setRow_heap _ _ _ _ _ _ (heap_row _ (by omega) (heap_old _ h6))) underNum rfl (infoNum_of (numC R) (numC_size _))) rfl ⟨rfl, (below_setRow (below_setRow (below_alloc hBw4.out _) (by omega) _) (by omega) _)⟩

set_option maxHeartbeats 8000000 in
theorem value_10a (z x y : Int) (n a b : Nat) (hn : n < 4294967296) (la : a < pF) (lb : b < pF) (h2 : n % 2 = 0) (w : World) :
    Calls Tryd.prog 15 #[.agg (opC 10 z x y n), .agg (numC a), .agg (numC b)] w fun e w' => e = .returned (.agg (numC b)) ∧ Below w.heap.size w w' := by
  go_enter Tryd.func15, Tryd.ntmps15
  go_upto_region 1 with fail
  refine wp_named ?_
  intro w1 ew1
  have hs1 : w.heap.size + 1 + 1 + 1 + 1 ≤ w1.heap.size := by rw [ew1]; (try simp only [alloc_size, setRow_size]); omega
  have h3 : w1.heap[w.heap.size]? = some (.cells (opC 10 z x y n) 33 (0, 0)) := by rw [ew1]; exact (heap_old _ (heap_old _ (heap_old _ (heap_new_at _ _ _ rfl))))
  have h4 : w1.heap[w.heap.size + 1]? = some (.cells (numC a) 42 (0, 0)) := by rw [ew1]; exact (heap_old _ (heap_old _ (heap_new_at _ _ _ (by simp only [alloc_size, setRow_size]))))
  have h5 : w1.heap[w.heap.size + 1 + 1]? = some (.cells (numC b) 42 (0, 0)) := by rw [ew1]; exact (heap_old _ (heap_new_at _ _ _ (by simp only [alloc_size, setRow_size])))
  have h6 : w1.heap[w.heap.size + 1 + 1 + 1]? = some (.cells (z4) 42 (0, 0)) := by rw [ew1]; exact (heap_new_at _ _ _ (by simp only [alloc_size, setRow_size]))
  have hBw1 : Hid (Below w.heap.size w w1) := Lib.hid (by rw [ew1]; exact below_alloc (below_alloc (below_alloc (below_alloc (Below.refl _ w) _) _) _) _)
  clear ew1
  go_wp2_with fail
  refine (prime_any _).mono ?_
  rintro e w2 ⟨rfl, hC2⟩
  have hs2 : w1.heap.size ≤ w2.heap.size := by have := hC2.size; (try simp only [alloc_size, setRow_size] at this); omega
  replace h3 : w2.heap[w.heap.size]? = some (.cells (opC 10 z x y n) 33 (0, 0)) := (heap_call hC2 h3)
  replace h4 : w2.heap[w.heap.size + 1]? = some (.cells (numC a) 42 (0, 0)) := (heap_call hC2 h4)
  replace h5 : w2.heap[w.heap.size + 1 + 1]? = some (.cells (numC b) 42 (0, 0)) := (heap_call hC2 h5)
  replace h6 : w2.heap[w.heap.size + 1 + 1 + 1]? = some (.cells (z4) 42 (0, 0)) := (heap_call hC2 h6)
  have hBw2 : Hid (Below w.heap.size w w2) := Lib.hid (below_call hBw1.out hC2)
  clear hC2
  go_upto_region 2 with (first
    | ((with_reducible refine at_store 7 ?_); refine wpList_store_row rfl 42 _ _ rfl (w2.heap.size) (numC pF) rfl rfl 42 (z4) (heap_new_at _ _ _ rfl) (infoNum_of (numC pF) (numC_size _)) (z4_size.trans (numC_size _).symm) (numC_one _) ?_))
  try simp only [Act.put]
  refine wp_named ?_
  intro w3 ew3
  have hs3 : w2.heap.size + 1 ≤ w3.heap.size := by rw [ew3]; (try simp only [alloc_size, setRow_size]); omega
  replace h3 : w3.heap[w.heap.size]? = some (.cells (opC 10 z x y n) 33 (0, 0)) := by rw [ew3]; exact (heap_row _ (by omega) (heap_old _ h3))
  replace h4 : w3.heap[w.heap.size + 1]? = some (.cells (numC a) 42 (0, 0)) := by rw [ew3]; exact (heap_row _ (by omega) (heap_old _ h4))
  replace h5 : w3.heap[w.heap.size + 1 + 1]? = some (.cells (numC b) 42 (0, 0)) := by rw [ew3]; exact (heap_row _ (by omega) (heap_old _ h5))
  replace h6 : w3.heap[w.heap.size + 1 + 1 + 1]? = some (.cells (z4) 42 (0, 0)) := by rw [ew3]; exact (heap_row _ (by omega) (heap_old _ h6))
  replace h7 : w3.heap[w2.heap.size]? = some (.cells (numC pF) 42 (0, 0)) := by rw [ew3]; exact (setRow_heap _ _ _ _ _ _ (heap_new_at _ _ _ rfl))
  have hBw3 : Hid (Below w.heap.size w w3) := Lib.hid (by rw [ew3]; exact (below_setRow (below_alloc hBw2.out _) (by omega) _))
  clear ew3
  have k0 : w3.cell? ⟨w.heap.size, 0, none⟩ = some (.int .i64 10) := cell_of_row w3 _ 0 _ _ _ h3
  have k4 : w3.cell? ⟨w.heap.size, 4, none⟩ = some (.int .u32 (n : Int)) := cell_of_row w3 _ 4 _ _ _ h3
  go_wp2_with (first
    | ((with_reducible refine at_dst 80 ?_); refine wpList_load_row rfl 42 _ rfl (w.heap.size + 1 + 1) rfl 42 (numC b) (0, 0) _ h5 underNum rfl (infoNum_of (numC b) (numC_size _)) ?_)
    | ((with_reducible refine at_store 6 ?_); refine wpList_store_row rfl 42 _ _ rfl (w.heap.size + 1 + 1 + 1) (numC b) rfl rfl 42 (z4) h6 (infoNum_of (numC b) (numC_size _)) (z4_size.trans (numC_size _).symm) (numC_one _) ?_))
  refine bodyPost_ret (results_cell_row rfl _ _ (w.heap.size + 1 + 1 + 1) 42 (numC b) (0, 0) _ rfl (setRow_heap _ _ _ _ _ _ h6) underNum rfl (infoNum_of (numC b) (numC_size _))) rfl ⟨rfl, (below_setRow hBw3.out (by omega) _)⟩

set_option maxHeartbeats 8000000 in
theorem value_10b (z x y : Int) (n a b : Nat) (hn : n < 4294967296) (la : a < pF) (lb : b < pF) (h2 : n % 2 = 1) (w : World) :
    Calls Tryd.prog 15 #[.agg (opC 10 z x y n), .agg (numC a), .agg (numC b)] w fun e w' => e = .returned (.agg (numC a)) ∧ Below w.heap.size w w' := by
  go_enter Tryd.func15, Tryd.ntmps15
  go_upto_region 1 with fail
  refine wp_named ?_
  intro w1 ew1
  have hs1 : w.heap.size + 1 + 1 + 1 + 1 ≤ w1.heap.size := by rw [ew1]; (try simp only [alloc_size, setRow_size]); omega
  have h3 : w1.heap[w.heap.size]? = some (.cells (opC 10 z x y n) 33 (0, 0)) := by rw [ew1]; exact (heap_old _ (heap_old _ (heap_old _ (heap_new_at _ _ _ rfl))))
  have h4 : w1.heap[w.heap.size + 1]? = some (.cells (numC a) 42 (0, 0)) := by rw [ew1]; exact (heap_old _ (heap_old _ (heap_new_at _ _ _ (by simp only [alloc_size, setRow_size]))))
  have h5 : w1.heap[w.heap.size + 1 + 1]? = some (.cells (numC b) 42 (0, 0)) := by rw [ew1]; exact (heap_old _ (heap_new_at _ _ _ (by simp only [alloc_size, setRow_size])))
  have h6 : w1.heap[w.heap.size + 1 + 1 + 1]? = some (.cells (z4) 42 (0, 0)) := by rw [ew1]; exact (heap_new_at _ _ _ (by simp only [alloc_size, setRow_size]))
  have hBw1 : Hid (Below w.heap.size w w1) := Lib.hid (by rw [ew1]; exact below_alloc (below_alloc (below_alloc (below_alloc (Below.refl _ w) _) _) _) _)
  clear ew1
  go_wp2_with fail
  refine (prime_any _).mono ?_
  rintro e w2 ⟨rfl, hC2⟩
  have hs2 : w1.heap.size ≤ w2.heap.size := by have := hC2.size; (try simp only [alloc_size, setRow_size] at this); omega
  replace h3 : w2.heap[w.heap.size]? = some (.cells (opC 10 z x y n) 33 (0, 0)) := (heap_call hC2 h3)
  replace h4 : w2.heap[w.heap.size + 1]? = some (.cells (numC a) 42 (0, 0)) := (heap_call hC2 h4)
  replace h5 : w2.heap[w.heap.size + 1 + 1]? = some (.cells (numC b) 42 (0, 0)) := (heap_call hC2 h5)
  replace h6 : w2.heap[w.heap.size + 1 + 1 + 1]? = some (.cells (z4) 42 (0, 0)) := (heap_call hC2 h6)
  have hBw2 : Hid (Below w.heap.size w w2) := Lib.hid (below_call hBw1.out hC2)
  clear hC2
  go_upto_region 2 with (first
    | ((with_reducible refine at_store 7 ?_); refine wpList_store_row rfl 42 _ _ rfl (w2.heap.size) (numC pF) rfl rfl 42 (z4) (heap_new_at _ _ _ rfl) (infoNum_of (numC pF) (numC_size _)) (z4_size.trans (numC_size _).symm) (numC_one _) ?_))
  try simp only [Act.put]
  refine wp_named ?_
  intro w3 ew3
  have hs3 : w2.heap.size + 1 ≤ w3.heap.size := by rw [ew3]; (try simp only [alloc_size, setRow_size]); omega
  replace h3 : w3.heap[w.heap.size]? = some (.cells (opC 10 z x y n) 33 (0, 0)) := by rw [ew3]; exact (heap_row _ (by omega) (heap_old _ h3))
  replace h4 : w3.heap[w.heap.size + 1]? = some (.cells (numC a) 42 (0, 0)) := by rw [ew3]; exact (heap_row _ (by omega) (heap_old _ h4))
  replace h5 : w3.heap[w.heap.size + 1 + 1]? = some (.cells (numC b) 42 (0, 0)) := by rw [ew3]; exact (heap_row _ (by omega) (heap_old _ h5))
  replace h6 : w3.heap[w.heap.size + 1 + 1 + 1]? = some (.cells (z4) 42 (0, 0)) := by rw [ew3]; exact (heap_row _ (by omega) (heap_old _ h6))
  replace h7 : w3.heap[w2.heap.size]? = some (.cells (numC pF) 42 (0, 0)) := by rw [ew3]; exact (setRow_heap _ _ _ _ _ _ (heap_new_at _ _ _ rfl))
  have hBw3 : Hid (Below w.heap.size w w3) := Lib.hid (by rw [ew3]; exact (below_setRow (below_alloc hBw2.out _) (by omega) _))
  clear ew3
  have k0 : w3.cell? ⟨w.heap.size, 0, none⟩ = some (.int .i64 10) := cell_of_row w3 _ 0 _ _ _ h3
  have k4 : w3.cell? ⟨w.heap.size, 4, none⟩ = some (.int .u32 (n : Int)) := cell_of_row w3 _ 4 _ _ _ h3
  go_wp2_with (first
    | ((with_reducible refine at_dst 79 ?_); refine wpList_load_row rfl 42 _ rfl (w.heap.size + 1) rfl 42 (numC a) (0, 0) _ h4 underNum rfl (infoNum_of (numC a) (numC_size _)) ?_)
    | ((with_reducible refine at_store 6 ?_); refine wpList_store_row rfl 42 _ _ rfl (w.heap.size + 1 + 1 + 1) (numC a) rfl rfl 42 (z4) h6 (infoNum_of (numC a) (numC_size _)) (z4_size.trans (numC_size _).symm) (numC_one _) ?_))
  refine bodyPost_ret (results_cell_row rfl _ _ (w.heap.size + 1 + 1 + 1) 42 (numC a) (0, 0) _ rfl (setRow_heap _ _ _ _ _ _ h6) underNum rfl (infoNum_of (numC a) (numC_size _))) rfl ⟨rfl, (below_setRow hBw3.out (by omega) _)⟩

set_option maxHeartbeats 8000000 in
theorem value_12 (z x y : Int) (n a b : Nat) (hn : n < 4294967296) (la : a < pF) (lb : b < pF) (w : World) :
    Calls Tryd.prog 15 #[.agg (opC 12 z x y n), .agg (numC a), .agg (numC b)] w fun e w' => e = .returned (.agg (numC a)) ∧ Below w.heap.size w w' := by
  go_enter Tryd.func15, Tryd.ntmps15
  go_upto_region 1 with fail
  refine wp_named ?_
  intro w1 ew1
  have hs1 : w.heap.size + 1 + 1 + 1 + 1 ≤ w1.heap.size := by rw [ew1]; (try simp only [alloc_size, setRow_size]); omega
  have h3 : w1.heap[w.heap.size]? = some (.cells (opC 12 z x y n) 33 (0, 0)) := by rw [ew1]; exact (heap_old _ (heap_old _ (heap_old _ (heap_new_at _ _ _ rfl))))
  have h4 : w1.heap[w.heap.size + 1]? = some (.cells (numC a) 42 (0, 0)) := by rw [ew1]; exact (heap_old _ (heap_old _ (heap_new_at _ _ _ (by simp only [alloc_size, setRow_size]))))
  have h5 : w1.heap[w.heap.size + 1 + 1]? = some (.cells (numC b) 42 (0, 0)) := by rw [ew1]; exact (heap_old _ (heap_new_at _ _ _ (by simp only [alloc_size, setRow_size])))
  have h6 : w1.heap[w.heap.size + 1 + 1 + 1]? = some (.cells (z4) 42 (0, 0)) := by rw [ew1]; exact (heap_new_at _ _ _ (by simp only [alloc_size, setRow_size]))
  have hBw1 : Hid (Below w.heap.size w w1) := Lib.hid (by rw [ew1]; exact below_alloc (below_alloc (below_alloc (below_alloc (Below.refl _ w) _) _) _) _)
  clear ew1
  go_wp2_with fail
  refine (prime_any _).mono ?_
  rintro e w2 ⟨rfl, hC2⟩
  have hs2 : w1.heap.size ≤ w2.heap.size := by have := hC2.size; (try simp only [alloc_size, setRow_size] at this); omega
  replace h3 : w2.heap[w.heap.size]? = some (.cells (opC 12 z x y n) 33 (0, 0)) := (heap_call hC2 h3)
  replace h4 : w2.heap[w.heap.size + 1]? = some (.cells (numC a) 42 (0, 0)) := (heap_call hC2 h4)
  replace h5 : w2.heap[w.heap.size + 1 + 1]? = some (.cells (numC b) 42 (0, 0)) := (heap_call hC2 h5)
  replace h6 : w2.heap[w.heap.size + 1 + 1 + 1]? = some (.cells (z4) 42 (0, 0)) := (heap_call hC2 h6)
  have hBw2 : Hid (Below w.heap.size w w2) := Lib.hid (below_call hBw1.out hC2)
  clear hC2
  go_upto_region 2 with (first
    | ((with_reducible refine at_store 7 ?_); refine wpList_store_row rfl 42 _ _ rfl (w2.heap.size) (numC pF) rfl rfl 42 (z4) (heap_new_at _ _ _ rfl) (infoNum_of (numC pF) (numC_size _)) (z4_size.trans (numC_size _).symm) (numC_one _) ?_))
  try simp only [Act.put]
  refine wp_named ?_
  intro w3 ew3
  have hs3 : w2.heap.size + 1 ≤ w3.heap.size := by rw [ew3]; (try simp only [alloc_size, setRow_size]); omega
  replace h3 : w3.heap[w.heap.size]? = some (.cells (opC 12 z x y n) 33 (0, 0)) := by rw [ew3]; exact (heap_row _ (by omega) (heap_old _ h3))
  replace h4 : w3.heap[w.heap.size + 1]? = some (.cells (numC a) 42 (0, 0)) := by rw [ew3]; exact (heap_row _ (by omega) (heap_old _ h4))
  replace h5 : w3.heap[w.heap.size + 1 + 1]? = some (.cells (numC b) 42 (0, 0)) := by rw [ew3]; exact (heap_row _ (by omega) (heap_old _ h5))
  replace h6 : w3.heap[w.heap.size + 1 + 1 + 1]? = some (.cells (z4) 42 (0, 0)) := by rw [ew3]; exact (heap_row _ (by omega) (heap_old _ h6))
  replace h7 : w3.heap[w2.heap.size]? = some (.cells (numC pF) 42 (0, 0)) := by rw [ew3]; exact (setRow_heap _ _ _ _ _ _ (heap_new_at _ _ _ rfl))
  have hBw3 : Hid (Below w.heap.size w w3) := Lib.hid (by rw [ew3]; exact (below_setRow (below_alloc hBw2.out _) (by omega) _))
  clear ew3
  have k0 : w3.cell? ⟨w.heap.size, 0, none⟩ = some (.int .i64 12) := cell_of_row w3 _ 0 _ _ _ h3
  have k4 : w3.cell? ⟨w.heap.size, 4, none⟩ = some (.int .u32 (n : Int)) := cell_of_row w3 _ 4 _ _ _ h3
  go_wp2_with (first
    | ((with_reducible refine at_dst 83 ?_); refine wpList_load_row rfl 42 _ rfl (w.heap.size + 1) rfl 42 (numC a) (0, 0) _ h4 underNum rfl (infoNum_of (numC a) (numC_size _)) ?_)
    | ((with_reducible refine at_store 6 ?_); refine wpList_store_row rfl 42 _ _ rfl (w.heap.size + 1 + 1 + 1) (numC a) rfl rfl 42 (z4) h6 (infoNum_of (numC a) (numC_size _)) (z4_size.trans (numC_size _).symm) (numC_one _) ?_))
  refine bodyPost_ret (results_cell_row rfl _ _ (w.heap.size + 1 + 1 + 1) 42 (numC a) (0, 0) _ rfl (setRow_heap _ _ _ _ _ _ h6) underNum rfl (infoNum_of (numC a) (numC_size _))) rfl ⟨rfl, (below_setRow hBw3.out (by omega) _)⟩

set_option maxHeartbeats 8000000 in
theorem value_13 (z x y : Int) (n a b : Nat) (hn : n < 4294967296) (la : a < pF) (lb : b < pF) (w : World) :
    Calls Tryd.prog 15 #[.agg (opC 13 z x y n), .agg (numC a), .agg (numC b)] w fun e w' => e = .returned (.agg (z4)) ∧ Below w.heap.size w w' := by
  go_enter Tryd.func15, Tryd.ntmps15
  go_upto_region 1 with fail
  refine wp_named ?_
  intro w1 ew1
  have hs1 : w.heap.size + 1 + 1 + 1 + 1 ≤ w1.heap.size := by rw [ew1]; (try simp only [alloc_size, setRow_size]); omega
  have h3 : w1.heap[w.heap.size]? = some (.cells (opC 13 z x y n) 33 (0, 0)) := by rw [ew1]; exact (heap_old _ (heap_old _ (heap_old _ (heap_new_at _ _ _ rfl))))
  have h4 : w1.heap[w.heap.size + 1]? = some (.cells (numC a) 42 (0, 0)) := by rw [ew1]; exact (heap_old _ (heap_old _ (heap_new_at _ _ _ (by simp only [alloc_size, setRow_size]))))
  have h5 : w1.heap[w.heap.size + 1 + 1]? = some (.cells (numC b) 42 (0, 0)) := by rw [ew1]; exact (heap_old _ (heap_new_at _ _ _ (by simp only [alloc_size, setRow_size])))
  have h6 : w1.heap[w.heap.size + 1 + 1 + 1]? = some (.cells (z4) 42 (0, 0)) := by rw [ew1]; exact (heap_new_at _ _ _ (by simp only [alloc_size, setRow_size]))
  have hBw1 : Hid (Below w.heap.size w w1) := Lib.hid (by rw [ew1]; exact below_alloc (below_alloc (below_alloc (below_alloc (Below.refl _ w) _) _) _) _)
  clear ew1
  go_wp2_with fail
  refine (prime_any _).mono ?_
  rintro e w2 ⟨rfl, hC2⟩
  have hs2 : w1.heap.size ≤ w2.heap.size := by have := hC2.size; (try simp only [alloc_size, setRow_size] at this); omega
  replace h3 : w2.heap[w.heap.size]? = some (.cells (opC 13 z x y n) 33 (0, 0)) := (heap_call hC2 h3)
  replace h4 : w2.heap[w.heap.size + 1]? = some (.cells (numC a) 42 (0, 0)) := (heap_call hC2 h4)
  replace h5 : w2.heap[w.heap.size + 1 + 1]? = some (.cells (numC b) 42 (0, 0)) := (heap_call hC2 h5)
  replace h6 : w2.heap[w.heap.size + 1 + 1 + 1]? = some (.cells (z4) 42 (0, 0)) := (heap_call hC2 h6)
  have hBw2 : Hid (Below w.heap.size w w2) := Lib.hid (below_call hBw1.out hC2)
  clear hC2
  go_upto_region 2 with (first
    | ((with_reducible refine at_store 7 ?_); refine wpList_store_row rfl 42 _ _ rfl (w2.heap.size) (numC pF) rfl rfl 42 (z4) (heap_new_at _ _ _ rfl) (infoNum_of (numC pF) (numC_size _)) (z4_size.trans (numC_size _).symm) (numC_one _) ?_))
  try simp only [Act.put]
  refine wp_named ?_
  intro w3 ew3
  have hs3 : w2.heap.size + 1 ≤ w3.heap.size := by rw [ew3]; (try simp only [alloc_size, setRow_size]); omega
  replace h3 : w3.heap[w.heap.size]? = some (.cells (opC 13 z x y n) 33 (0, 0)) := by rw [ew3]; exact (heap_row _ (by omega) (heap_old _ h3))
  replace h4 : w3.heap[w.heap.size + 1]? = some (.cells (numC a) 42 (0, 0)) := by rw [ew3]; exact (heap_row _ (by omega) (heap_old _ h4))
  replace h5 : w3.heap[w.heap.size + 1 + 1]? = some (.cells (numC b) 42 (0, 0)) := by rw [ew3]; exact (heap_row _ (by omega) (heap_old _ h5))
  replace h6 : w3.heap[w.heap.size + 1 + 1 + 1]? = some (.cells (z4) 42 (0, 0)) := by rw [ew3]; exact (heap_row _ (by omega) (heap_old _ h6))
  replace h7 : w3.heap[w2.heap.size]? = some (.cells (numC pF) 42 (0, 0)) := by rw [ew3]; exact (setRow_heap _ _ _ _ _ _ (heap_new_at _ _ _ rfl))
  have hBw3 : Hid (Below w.heap.size w w3) := Lib.hid (by rw [ew3]; exact (below_setRow (below_alloc hBw2.out _) (by omega) _))
  clear ew3
  have k0 : w3.cell? ⟨w.heap.size, 0, none⟩ = some (.int .i64 13) := cell_of_row w3 _ 0 _ _ _ h3
  have k4 : w3.cell? ⟨w.heap.size, 4, none⟩ = some (.int .u32 (n : Int)) := cell_of_row w3 _ 4 _ _ _ h3
  go_wp2_with (first
    | ((with_reducible refine at_store 6 ?_); refine wpList_store_row rfl 42 _ _ rfl (w.heap.size + 1 + 1 + 1) (z4) rfl rfl 42 (z4) h6 (infoNum_of (z4) z4_size) (z4_size.trans z4_size.symm) z4_one ?_))
  refine bodyPost_ret (results_cell_row rfl _ _ (w.heap.size + 1 + 1 + 1) 42 (z4) (0, 0) _ rfl (setRow_heap _ _ _ _ _ _ h6) underNum rfl (infoNum_of (z4) z4_size)) rfl ⟨rfl, (below_setRow hBw3.out (by omega) _)⟩

set_option maxHeartbeats 8000000 in
theorem value_14 (z x y : Int) (n a b : Nat) (hn : n < 4294967296) (la : a < pF) (lb : b < pF) (w : World) :
    Calls Tryd.prog 15 #[.agg (opC 14 z x y n), .agg (numC a), .agg (numC b)] w fun e w' => e = .returned (.agg (numC 1)) ∧ Below w.heap.size w w' := by
  go_enter Tryd.func15, Tryd.ntmps15
  go_upto_region 1 with fail
  refine wp_named ?_
  intro w1 ew1
  have hs1 : w.heap.size + 1 + 1 + 1 + 1 ≤ w1.heap.size := by rw [ew1]; (try simp only [alloc_size, setRow_size]); omega
  have h3 : w1.heap[w.heap.size]? = some (.cells (opC 14 z x y n) 33 (0, 0)) := by rw [ew1]; exact (heap_old _ (heap_old _ (heap_old _ (heap_new_at _ _ _ rfl))))
  have h4 : w1.heap[w.heap.size + 1]? = some (.cells (numC a) 42 (0, 0)) := by rw [ew1]; exact (heap_old _ (heap_old _ (heap_new_at _ _ _ (by simp only [alloc_size, setRow_size]))))
  have h5 : w1.heap[w.heap.size + 1 + 1]? = some (.cells (numC b) 42 (0, 0)) := by rw [ew1]; exact (heap_old _ (heap_new_at _ _ _ (by simp only [alloc_size, setRow_size])))
  have h6 : w1.heap[w.heap.size + 1 + 1 + 1]? = some (.cells (z4) 42 (0, 0)) := by rw [ew1]; exact (heap_new_at _ _ _ (by simp only [alloc_size, setRow_size]))
  have hBw1 : Hid (Below w.heap.size w w1) := Lib.hid (by rw [ew1]; exact below_alloc (below_alloc (below_alloc (below_alloc (Below.refl _ w) _) _) _) _)
  clear ew1
  go_wp2_with fail
  refine (prime_any _).mono ?_
  rintro e w2 ⟨rfl, hC2⟩
  have hs2 : w1.heap.size ≤ w2.heap.size := by have := hC2.size; (try simp only [alloc_size, setRow_size] at this); omega
  replace h3 : w2.heap[w.heap.size]? = some (.cells (opC 14 z x y n) 33 (0, 0)) := (heap_call hC2 h3)
  replace h4 : w2.heap[w.heap.size + 1]? = some (.cells (numC a) 42 (0, 0)) := (heap_call hC2 h4)
  replace h5 : w2.heap[w.heap.size + 1 + 1]? = some (.cells (numC b) 42 (0, 0)) := (heap_call hC2 h5)
  replace h6 : w2.heap[w.heap.size + 1 + 1 + 1]? = some (.cells (z4) 42 (0, 0)) := (heap_call hC2 h6)
  have hBw2 : Hid (Below w.heap.size w w2) := Lib.hid (below_call hBw1.out hC2)
  clear hC2
  go_upto_region 2 with (first
    | ((with_reducible refine at_store 7 ?_); refine wpList_store_row rfl 42 _ _ rfl (w2.heap.size) (numC pF) rfl rfl 42 (z4) (heap_new_at _ _ _ rfl) (infoNum_of (numC pF) (numC_size _)) (z4_size.trans (numC_size _).symm) (numC_one _) ?_))
  try simp only [Act.put]
  refine wp_named ?_
  intro w3 ew3
  have hs3 : w2.heap.size + 1 ≤ w3.heap.size := by rw [ew3]; (try simp only [alloc_size, setRow_size]); omega
  replace h3 : w3.heap[w.heap.size]? = some (.cells (opC 14 z x y n) 33 (0, 0)) := by rw [ew3]; exact (heap_row _ (by omega) (heap_old _ h3))
  replace h4 : w3.heap[w.heap.size + 1]? = some (.cells (numC a) 42 (0, 0)) := by rw [ew3]; exact (heap_row _ (by omega) (heap_old _ h4))
  replace h5 : w3.heap[w.heap.size + 1 + 1]? = some (.cells (numC b) 42 (0, 0)) := by rw [ew3]; exact (heap_row _ (by omega) (heap_old _ h5))
  replace h6 : w3.heap[w.heap.size + 1 + 1 + 1]? = some (.cells (z4) 42 (0, 0)) := by rw [ew3]; exact (heap_row _ (by omega) (heap_old _ h6))
  replace h7 : w3.heap[w2.heap.size]? = some (.cells (numC pF) 42 (0, 0)) := by rw [ew3]; exact (setRow_heap _ _ _ _ _ _ (heap_new_at _ _ _ rfl))
  have hBw3 : Hid (Below w.heap.size w w3) := Lib.hid (by rw [ew3]; exact (below_setRow (below_alloc hBw2.out _) (by omega) _))
  clear ew3
  have k0 : w3.cell? ⟨w.heap.size, 0, none⟩ = some (.int .i64 14) := cell_of_row w3 _ 0 _ _ _ h3
  have k4 : w3.cell? ⟨w.heap.size, 4, none⟩ = some (.int .u32 (n : Int)) := cell_of_row w3 _ 4 _ _ _ h3
  go_wp2_with fail
  refine (small_any 1 (by omega) _).mono ?_
  rintro e w4 ⟨rfl, hC4⟩
  have hs4 : w3.heap.size ≤ w4.heap.size := by have := hC4.size; (try simp only [alloc_size, setRow_size] at this); omega
  replace h3 : w4.heap[w.heap.size]? = some (.cells (opC 14 z x y n) 33 (0, 0)) := (heap_call hC4 h3)
  replace h4 : w4.heap[w.heap.size + 1]? = some (.cells (numC a) 42 (0, 0)) := (heap_call hC4 h4)
  replace h5 : w4.heap[w.heap.size + 1 + 1]? = some (.cells (numC b) 42 (0, 0)) := (heap_call hC4 h5)
  replace h6 : w4.heap[w.heap.size + 1 + 1 + 1]? = some (.cells (z4) 42 (0, 0)) := (heap_call hC4 h6)
  replace h7 : w4.heap[w2.heap.size]? = some (.cells (numC pF) 42 (0, 0)) := (heap_call hC4 h7)
  have hBw4 : Hid (Below w.heap.size w w4) := Lib.hid (below_call hBw3.out hC4)
  clear hC4
  go_wp2_with (first
    | ((with_reducible refine at_store 6 ?_); refine wpList_store_row rfl 42 _ _ rfl (w.heap.size + 1 + 1 + 1) (numC 1) rfl rfl 42 (z4) h6 (infoNum_of (numC 1) (numC_size _)) (z4_size.trans (numC_size _).symm) (numC_one _) ?_))
  refine bodyPost_ret (results_cell_row rfl _ _ (w.heap.size + 1 + 1 + 1) 42 (numC 1) (0, 0) _ rfl (setRow_heap _ _ _ _ _ _ h6) underNum rfl (infoNum_of (numC 1) (numC_size _))) rfl ⟨rfl, (below_setRow hBw4.out (by omega) _)⟩

set_option maxHeartbeats 8000000 in
theorem value_15 (z x y : Int) (n a b : Nat) (hn : n < 4294967296) (la : a < pF) (lb : b < pF) (R : Nat) (hR : Hid (R = xp a (2 ^ (n % 10 + 1)))) (w : World) :
    Calls Tryd.prog 15 #[.agg (opC 15 z x y n), .agg (numC a), .agg (numC b)] w fun e w' => e = .returned (.agg (numC R)) ∧ Below w.heap.size w w' := by
  go_enter Tryd.func15, Tryd.ntmps15
  go_upto_region 1 with fail
  refine wp_named ?_
  intro w1 ew1
  have hs1 : w.heap.size + 1 + 1 + 1 + 1 ≤ w1.heap.size := by rw [ew1]; (try simp only [alloc_size, setRow_size]); omega
  have h3 : w1.heap[w.heap.size]? = some (.cells (opC 15 z x y n) 33 (0, 0)) := by rw [ew1]; exact (heap_old _ (heap_old _ (heap_old _ (heap_new_at _ _ _ rfl))))
  have h4 : w1.heap[w.heap.size + 1]? = some (.cells (numC a) 42 (0, 0)) := by rw [ew1]; exact (heap_old _ (heap_old _ (heap_new_at _ _ _ (by simp only [alloc_size, setRow_size]))))
  have h5 : w1.heap[w.heap.size + 1 + 1]? = some (.cells (numC b) 42 (0, 0)) := by rw [ew1]; exact (heap_old _ (heap_new_at _ _ _ (by simp only [alloc_size, setRow_size])))
  have h6 : w1.heap[w.heap.size + 1 + 1 + 1]? = some (.cells (z4) 42 (0, 0)) := by rw [ew1]; exact (heap_new_at _ _ _ (by simp only [alloc_size, setRow_size]))
  have hBw1 : Hid (Below w.heap.size w w1) := Lib.hid (by rw [ew1]; exact below_alloc (below_alloc (below_alloc (below_alloc (Below.refl _ w) _) _) _) _)
  clear ew1
  go_wp2_with fail
  refine (prime_any _).mono ?_
  rintro e w2 ⟨rfl, hC2⟩
  have hs2 : w1.heap.size ≤ w2.heap.size := by have := hC2.size; (try simp only [alloc_size, setRow_size] at this); omega
  replace h3 : w2.heap[w.heap.size]? = some (.cells (opC 15 z x y n) 33 (0, 0)) := (heap_call hC2 h3)
  replace h4 : w2.heap[w.heap.size + 1]? = some (.cells (numC a) 42 (0, 0)) := (heap_call hC2 h4)
  replace h5 : w2.heap[w.heap.size + 1 + 1]? = some (.cells (numC b) 42 (0, 0)) := (heap_call hC2 h5)
  replace h6 : w2.heap[w.heap.size + 1 + 1 + 1]? = some (.cells (z4) 42 (0, 0)) := (heap_call hC2 h6)
  have hBw2 : Hid (Below w.heap.size w w2) := Lib.hid (below_call hBw1.out hC2)
  clear hC2
  go_upto_region 2 with (first
    | ((with_reducible refine at_store 7 ?_); refine wpList_store_row rfl 42 _ _ rfl (w2.heap.size) (numC pF) rfl rfl 42 (z4) (heap_new_at _ _ _ rfl) (infoNum_of (numC pF) (numC_size _)) (z4_size.trans (numC_size _).symm) (numC_one _) ?_))
  try simp only [Act.put]
  refine wp_named ?_
  intro w3 ew3
  have hs3 : w2.heap.size + 1 ≤ w3.heap.size := by rw [ew3]; (try simp only [alloc_size, setRow_size]); omega
  replace h3 : w3.heap[w.heap.size]? = some (.cells (opC 15 z x y n) 33 (0, 0)) := by rw [ew3]; exact (heap_row _ (by omega) (heap_old _ h3))
  replace h4 : w3.heap[w.heap.size + 1]? = some (.cells (numC a) 42 (0, 0)) := by rw [ew3]; exact (heap_row _ (by omega) (heap_old _ h4))
  replace h5 : w3.heap[w.heap.size + 1 + 1]? = some (.cells (numC b) 42 (0, 0)) := by rw [ew3]; exact (heap_row _ (by omega) (heap_old _ h5))
  replace h6 : w3.heap[w.heap.size + 1 + 1 + 1]? = some (.cells (z4) 42 (0, 0)) := by rw [ew3]; exact (heap_row _ (by omega) (heap_old _ h6))
  replace h7 : w3.heap[w2.heap.size]? = some (.cells (numC pF) 42 (0, 0)) := by rw [ew3]; exact (setRow_heap _ _ _ _ _ _ (heap_new_at _ _ _ rfl))
  have hBw3 : Hid (Below w.heap.size w w3) := Lib.hid (by rw [ew3]; exact (below_setRow (below_alloc hBw2.out _) (by omega) _))
  clear ew3
  have k0 : w3.cell? ⟨w.heap.size, 0, none⟩ = some (.int .i64 15) := cell_of_row w3 _ 0 _ _ _ h3
  have k4 : w3.cell? ⟨w.heap.size, 4, none⟩ = some (.int .u32 (n : Int)) := cell_of_row w3 _ 4 _ _ _ h3
  go_wp2_with (first
    | ((with_reducible refine at_dst 90 ?_); refine wpList_load_row rfl 42 _ rfl (w.heap.size + 1) rfl 42 (numC a) (0, 0) _ h4 underNum rfl (infoNum_of (numC a) (numC_size _)) ?_))
  refine (squares_any a (n % 10 + 1) R la (by omega) hR _).mono ?_
  rintro e w4 ⟨rfl, hC4⟩
  have hs4 : w3.heap.size ≤ w4.heap.size := by have := hC4.size; (try simp only [alloc_size, setRow_size] at this); omega
  replace h3 : w4.heap[w.heap.size]? = some (.cells (opC 15 z x y n) 33 (0, 0)) := (heap_call hC4 h3)
  replace h4 : w4.heap[w.heap.size + 1]? = some (.cells (numC a) 42 (0, 0)) := (heap_call hC4 h4)
  replace h5 : w4.heap[w.heap.size + 1 + 1]? = some (.cells (numC b) 42 (0, 0)) := (heap_call hC4 h5)
  replace h6 : w4.heap[w.heap.size + 1 + 1 + 1]? = some (.cells (z4) 42 (0, 0)) := (heap_call hC4 h6)
  replace h7 : w4.heap[w2.heap.size]? = some (.cells (numC pF) 42 (0, 0)) := (heap_call hC4 h7)
  have hBw4 : Hid (Below w.heap.size w w4) := Lib.hid (below_call hBw3.out hC4)
  clear hC4
  go_wp2_with (first
    | ((with_reducible refine at_store 6 ?_); refine wpList_store_row rfl 42 _ _ rfl (w.heap.size + 1 + 1 + 1) (numC R) rfl rfl 42 (z4) h6 (infoNum_of (numC R) (numC_size _)) (z4_size.trans (numC_size _).symm) (numC_one _) ?_))
  refine bodyPost_ret (results_cell_row rfl _ _ (w.heap.size + 1 + 1 + 1) 42 (numC R) (0, 0) _ rfl (setRow_heap _ _ _ _ _ _ h6) underNum rfl (infoNum_of (numC R) (numC_size _))) rfl ⟨rfl, (below_setRow hBw4.out (by omega) _)⟩

theorem wn {w : World} {f : FuncId} {xs : Array Value} {X : Nat} {R : Nat} (e : R = X) (h : Calls Tryd.prog f xs w fun e w' => e = .returned (.agg (numC R)) ∧ Below w.heap.size w w') : Calls Tryd.prog f xs w fun e w' => e = .returned (.agg (numC X)) ∧ Below w.heap.size w w' := e ▸ h
/-- what a step of another kind than 11 makes of a and b -/
theorem value_any (o : FOp) (a b : Nat) (hn : o.n < 4294967296) (hk : 0 ≤ o.kind) (hk2 : o.kind ≤ 15) (h11 : o.kind ≠ 11) (la : a < pF) (lb : b < pF) (w : World) :
    Calls Tryd.prog 15 #[.agg (opC o.kind o.z o.x o.y o.n), .agg (numC a), .agg (numC b)] w fun e w' => e = .returned (.agg (numC (valueN o a b))) ∧ Below w.heap.size w w' := by
  obtain ⟨k, z, x, y, n⟩ := o
  simp only at hn hk hk2 h11 ⊢
  have hs : k = 0 ∨ k = 1 ∨ k = 2 ∨ k = 3 ∨ k = 4 ∨ k = 5 ∨ k = 6 ∨ k = 7 ∨ k = 8 ∨ k = 9 ∨ k = 10 ∨ k = 12 ∨ k = 13 ∨ k = 14 ∨ k = 15 := by omega
  rcases hs with rfl | rfl | rfl | rfl | rfl | rfl | rfl | rfl | rfl | rfl | rfl | rfl | rfl | rfl | rfl
  · exact wn (by simp [valueN]) (value_0 z x y n a b hn la lb _ (Lib.hid rfl) w)
  · exact wn (by simp [valueN]) (value_1 z x y n a b hn la lb _ (Lib.hid rfl) w)
  · exact wn (by simp [valueN]) (value_2 z x y n a b hn la lb _ (Lib.hid rfl) w)
  · exact wn (by simp [valueN]) (value_3 z x y n a b hn la lb _ (Lib.hid rfl) w)
  · exact wn (by simp [valueN]) (value_4 z x y n a b hn la lb _ (Lib.hid rfl) w)
  · exact wn (by simp [valueN]) (value_5 z x y n a b hn la lb _ (Lib.hid rfl) w)
  · exact wn (by simp [valueN]) (value_6 z x y n a b hn la lb _ (Lib.hid rfl) w)
  · exact wn (by simp [valueN]) (value_7 z x y n a b hn la lb _ (Lib.hid rfl) w)
  · exact wn (by simp [valueN]) (value_8 z x y n a b hn la lb _ (Lib.hid rfl) w)
  · exact wn (by simp [valueN]) (value_9 z x y n a b hn la lb _ (Lib.hid rfl) w)
  · by_cases h : n % 2 = 1
    · exact wn (by simp [valueN, h]) (value_10b z x y n a b hn la lb h w)
    · exact wn (by simp [valueN, h]) (value_10a z x y n a b hn la lb (by omega) w)
  · exact wn (by simp [valueN]) (value_12 z x y n a b hn la lb w)
  · have h := value_13 z x y n a b hn la lb w
    rw [numC_zero] at h
    exact wn (by simp [valueN]) h
  · exact wn (by simp [valueN]) (value_14 z x y n a b hn la lb w)
  · exact wn (by simp [valueN]) (value_15 z x y n a b hn la lb _ (Lib.hid rfl) w)
end Go.Proofs.YtemgflkecflhmaaDoor
