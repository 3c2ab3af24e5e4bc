/- The reference's numbers: plus, minus. -/
import Derived.Test.YtkecocibfmhdpaaS4
import Derived.Test.YtkecocibfmhdpaaK0
set_option linter.unusedSimpArgs false
set_option linter.unusedVariables false
namespace Go.Proofs.Ytkecocibfmhdpaa
open Go.RowKit

theorem infoNum_of (cs : Array Value) (h : cs.size = 4) : (Try.prog.info? 51).map (·.size) = some cs.size := infoNum.trans (by rw [h])
theorem z4_size : z4.size = 4 := rfl

theorem rest_lt (a b c : Nat) (hc : Hid (c = a + 18446744073709551616 ^ 4 - b)) (h : a < b) (hb : b < 18446744073709551616 ^ 4) (w : World) : Calls Try.prog 49 #[.agg (numC a), .agg (numC b)] w fun e w' => e = .returned (.tuple #[.agg (numC c), .int .u64 1]) ∧ Below w.heap.size w w' :=
  (rest_any a b (by omega) hb w).mono fun e w' ⟨he, hB⟩ => ⟨by rw [he, if_pos h, hc.out]; unfold difN; rw [if_pos h]; rfl, hB⟩
theorem rest_ge (a b : Nat) (h : b ≤ a) (ha : a < 18446744073709551616 ^ 4) (w : World) : Calls Try.prog 49 #[.agg (numC a), .agg (numC b)] w fun e w' => e = .returned (.tuple #[.agg (numC (a - b)), .int .u64 0]) ∧ Below w.heap.size w w' :=
  (rest_any a b ha (by omega) w).mono fun e w' ⟨he, hB⟩ => ⟨by rw [he, if_neg (by omega)]; unfold difN; rw [if_neg (by omega)]; rfl, hB⟩
theorem num_mod (a : Nat) : numC (a + 18446744073709551616 ^ 4) = numC a := by
  refine num_ext _ _ (numC_size _) fun i hi => ?_
  rw [numC_get _ i hi]
  unfold woV wordN
  have : i = 0 ∨ i = 1 ∨ i = 2 ∨ i = 3 := by omega
  rcases this with rfl | rfl | rfl | rfl <;> (congr 2; omega)

set_option maxHeartbeats 1000000 in
theorem plus_lt (a b m : Nat) (ha : a < m) (hb : b < m) (hm : m < 57896044618658097711785492504343953926634992332820282019728792003956564819968) (c : Nat) (hc : Hid (c = a + b + 18446744073709551616 ^ 4 - m)) (h : a + b < m) (w : World) :
    Calls Try.prog 60 #[.agg (numC a), .agg (numC b), .agg (numC m)] w fun e w' => e = .returned (.agg (numC (a + b))) ∧ Below w.heap.size w w' := by
  go_enter Try.func60, Try.ntmps60
  go_wp2_with (first
    | ((with_reducible refine at_dst 10 ?_); refine wpList_load_row rfl 51 _ rfl (w.heap.size) rfl 51 (numC a) (0, 0) _ (heap_old _ (heap_old _ (heap_old _ (heap_new_at _ _ _ rfl)))) underNum rfl (infoNum_of (numC a) (numC_size _)) ?_)
    | ((with_reducible refine at_dst 11 ?_); refine wpList_load_row rfl 51 _ rfl (w.heap.size + 1) rfl 51 (numC b) (0, 0) _ (heap_old _ (heap_old _ (heap_new_at _ _ _ (by simp only [alloc_size, setRow_size])))) underNum rfl (infoNum_of (numC b) (numC_size _)) ?_))
  refine (sum_any a b _).mono ?_
  rintro e w1 ⟨rfl, hC1⟩
  have hs1 : w.heap.size + 1 + 1 + 1 + 1 ≤ w1.heap.size := by have := hC1.size; (try simp only [alloc_size, setRow_size] at this); omega
  have h3 : w1.heap[w.heap.size]? = some (.cells (numC a) 51 (0, 0)) := (heap_call hC1 (heap_old _ (heap_old _ (heap_old _ (heap_new_at _ _ _ rfl)))))
  have h4 : w1.heap[w.heap.size + 1]? = some (.cells (numC b) 51 (0, 0)) := (heap_call hC1 (heap_old _ (heap_old _ (heap_new_at _ _ _ (by simp only [alloc_size, setRow_size])))))
  have h5 : w1.heap[w.heap.size + 1 + 1]? = some (.cells (numC m) 51 (0, 0)) := (heap_call hC1 (heap_old _ (heap_new_at _ _ _ (by simp only [alloc_size, setRow_size]))))
  have h6 : w1.heap[w.heap.size + 1 + 1 + 1]? = some (.cells (z4) 51 (0, 0)) := (heap_call hC1 (heap_new_at _ _ _ (by simp only [alloc_size, setRow_size])))
  have hB1 : Hid (Below w.heap.size w w1) := Lib.hid (below_call (below_alloc (below_alloc (below_alloc (below_alloc (Below.refl _ w) _) _) _) _) hC1)
  clear hC1
  go_wp2_with (first
    | ((with_reducible refine at_store 7 ?_); refine wpList_store_row rfl 51 _ _ rfl (w1.heap.size) (numC (a + b)) rfl rfl 51 (z4) (heap_new_at _ _ _ rfl) (infoNum_of (numC (a + b)) (numC_size _)) (z4_size.trans (numC_size _).symm) (numC_one _) ?_)
    | ((with_reducible refine at_dst 14 ?_); refine wpList_load_row rfl 51 _ rfl (w1.heap.size) rfl 51 (numC (a + b)) (0, 0) _ (setRow_heap _ _ _ _ _ _ (heap_new_at _ _ _ rfl)) underNum rfl (infoNum_of (numC (a + b)) (numC_size _)) ?_)
    | ((with_reducible refine at_dst 15 ?_); refine wpList_load_row rfl 51 _ rfl (w.heap.size + 1 + 1) rfl 51 (numC m) (0, 0) _ (heap_row _ (by omega) (heap_old _ h5)) underNum rfl (infoNum_of (numC m) (numC_size _)) ?_))
  refine (rest_lt (a + b) m c hc h (by omega) _).mono ?_
  rintro e w2 ⟨rfl, hC2⟩
  have hs2 : w1.heap.size + 1 ≤ w2.heap.size := by have := hC2.size; (try simp only [alloc_size, setRow_size] at this); omega
  have h3 : w2.heap[w.heap.size]? = some (.cells (numC a) 51 (0, 0)) := (heap_call hC2 (heap_row _ (by omega) (heap_old _ h3)))
  have h4 : w2.heap[w.heap.size + 1]? = some (.cells (numC b) 51 (0, 0)) := (heap_call hC2 (heap_row _ (by omega) (heap_old _ h4)))
  have h5 : w2.heap[w.heap.size + 1 + 1]? = some (.cells (numC m) 51 (0, 0)) := (heap_call hC2 (heap_row _ (by omega) (heap_old _ h5)))
  have h6 : w2.heap[w.heap.size + 1 + 1 + 1]? = some (.cells (z4) 51 (0, 0)) := (heap_call hC2 (heap_row _ (by omega) (heap_old _ h6)))
  have h7 : w2.heap[w1.heap.size]? = some (.cells (numC (a + b)) 51 (0, 0)) := (heap_call hC2 (setRow_heap _ _ _ _ _ _ (heap_new_at _ _ _ rfl)))
  have hB2 : Hid (Below w.heap.size w w2) := Lib.hid (below_call (below_setRow (below_alloc hB1.out _) (by omega) _) hC2)
  clear hC2
  go_wp2_with (first
    | ((with_reducible refine at_store 8 ?_); refine wpList_store_row rfl 51 _ _ rfl (w2.heap.size) (numC (c)) rfl rfl 51 (z4) (heap_new_at _ _ _ rfl) (infoNum_of (numC (c)) (numC_size _)) (z4_size.trans (numC_size _).symm) (numC_one _) ?_)
    | ((with_reducible refine at_dst 21 ?_); refine wpList_load_row rfl 51 _ rfl (w1.heap.size) rfl 51 (numC (a + b)) (0, 0) _ (heap_row _ (by omega) (heap_old _ h7)) underNum rfl (infoNum_of (numC (a + b)) (numC_size _)) ?_)
    | ((with_reducible refine at_store 6 ?_); refine wpList_store_row rfl 51 _ _ rfl (w.heap.size + 1 + 1 + 1) (numC (a + b)) rfl rfl 51 (z4) (heap_row _ (by omega) (heap_old _ h6)) (infoNum_of (numC (a + b)) (numC_size _)) (z4_size.trans (numC_size _).symm) (numC_one _) ?_))
  refine bodyPost_ret (results_cell_row rfl _ _ (w.heap.size + 1 + 1 + 1) 51 (numC (a + b)) (0, 0) _ rfl (setRow_heap _ _ _ _ _ _ (heap_row _ (by omega) (heap_old _ h6))) underNum rfl (infoNum_of (numC (a + b)) (numC_size _))) rfl ⟨rfl, (below_setRow (below_setRow (below_alloc hB2.out _) (by omega) _) (by omega) _)⟩

set_option maxHeartbeats 1000000 in
theorem plus_ge (a b m : Nat) (ha : a < m) (hb : b < m) (hm : m < 57896044618658097711785492504343953926634992332820282019728792003956564819968) (h : m ≤ a + b) (w : World) :
    Calls Try.prog 60 #[.agg (numC a), .agg (numC b), .agg (numC m)] w fun e w' => e = .returned (.agg (numC (a + b - m))) ∧ Below w.heap.size w w' := by
  go_enter Try.func60, Try.ntmps60
  go_wp2_with (first
    | ((with_reducible refine at_dst 10 ?_); refine wpList_load_row rfl 51 _ rfl (w.heap.size) rfl 51 (numC a) (0, 0) _ (heap_old _ (heap_old _ (heap_old _ (heap_new_at _ _ _ rfl)))) underNum rfl (infoNum_of (numC a) (numC_size _)) ?_)
    | ((with_reducible refine at_dst 11 ?_); refine wpList_load_row rfl 51 _ rfl (w.heap.size + 1) rfl 51 (numC b) (0, 0) _ (heap_old _ (heap_old _ (heap_new_at _ _ _ (by simp only [alloc_size, setRow_size])))) underNum rfl (infoNum_of (numC b) (numC_size _)) ?_))
  refine (sum_any a b _).mono ?_
  rintro e w1 ⟨rfl, hC1⟩
  have hs1 : w.heap.size + 1 + 1 + 1 + 1 ≤ w1.heap.size := by have := hC1.size; (try simp only [alloc_size, setRow_size] at this); omega
  have h3 : w1.heap[w.heap.size]? = some (.cells (numC a) 51 (0, 0)) := (heap_call hC1 (heap_old _ (heap_old _ (heap_old _ (heap_new_at _ _ _ rfl)))))
  have h4 : w1.heap[w.heap.size + 1]? = some (.cells (numC b) 51 (0, 0)) := (heap_call hC1 (heap_old _ (heap_old _ (heap_new_at _ _ _ (by simp only [alloc_size, setRow_size])))))
  have h5 : w1.heap[w.heap.size + 1 + 1]? = some (.cells (numC m) 51 (0, 0)) := (heap_call hC1 (heap_old _ (heap_new_at _ _ _ (by simp only [alloc_size, setRow_size]))))
  have h6 : w1.heap[w.heap.size + 1 + 1 + 1]? = some (.cells (z4) 51 (0, 0)) := (heap_call hC1 (heap_new_at _ _ _ (by simp only [alloc_size, setRow_size])))
  have hB1 : Hid (Below w.heap.size w w1) := Lib.hid (below_call (below_alloc (below_alloc (below_alloc (below_alloc (Below.refl _ w) _) _) _) _) hC1)
  clear hC1
  go_wp2_with (first
    | ((with_reducible refine at_store 7 ?_); refine wpList_store_row rfl 51 _ _ rfl (w1.heap.size) (numC (a + b)) rfl rfl 51 (z4) (heap_new_at _ _ _ rfl) (infoNum_of (numC (a + b)) (numC_size _)) (z4_size.trans (numC_size _).symm) (numC_one _) ?_)
    | ((with_reducible refine at_dst 14 ?_); refine wpList_load_row rfl 51 _ rfl (w1.heap.size) rfl 51 (numC (a + b)) (0, 0) _ (setRow_heap _ _ _ _ _ _ (heap_new_at _ _ _ rfl)) underNum rfl (infoNum_of (numC (a + b)) (numC_size _)) ?_)
    | ((with_reducible refine at_dst 15 ?_); refine wpList_load_row rfl 51 _ rfl (w.heap.size + 1 + 1) rfl 51 (numC m) (0, 0) _ (heap_row _ (by omega) (heap_old _ h5)) underNum rfl (infoNum_of (numC m) (numC_size _)) ?_))
  refine (rest_ge (a + b) m h (by omega) _).mono ?_
  rintro e w2 ⟨rfl, hC2⟩
  have hs2 : w1.heap.size + 1 ≤ w2.heap.size := by have := hC2.size; (try simp only [alloc_size, setRow_size] at this); omega
  have h3 : w2.heap[w.heap.size]? = some (.cells (numC a) 51 (0, 0)) := (heap_call hC2 (heap_row _ (by omega) (heap_old _ h3)))
  have h4 : w2.heap[w.heap.size + 1]? = some (.cells (numC b) 51 (0, 0)) := (heap_call hC2 (heap_row _ (by omega) (heap_old _ h4)))
  have h5 : w2.heap[w.heap.size + 1 + 1]? = some (.cells (numC m) 51 (0, 0)) := (heap_call hC2 (heap_row _ (by omega) (heap_old _ h5)))
  have h6 : w2.heap[w.heap.size + 1 + 1 + 1]? = some (.cells (z4) 51 (0, 0)) := (heap_call hC2 (heap_row _ (by omega) (heap_old _ h6)))
  have h7 : w2.heap[w1.heap.size]? = some (.cells (numC (a + b)) 51 (0, 0)) := (heap_call hC2 (setRow_heap _ _ _ _ _ _ (heap_new_at _ _ _ rfl)))
  have hB2 : Hid (Below w.heap.size w w2) := Lib.hid (below_call (below_setRow (below_alloc hB1.out _) (by omega) _) hC2)
  clear hC2
  go_wp2_with (first
    | ((with_reducible refine at_store 8 ?_); refine wpList_store_row rfl 51 _ _ rfl (w2.heap.size) (numC (a + b - m)) rfl rfl 51 (z4) (heap_new_at _ _ _ rfl) (infoNum_of (numC (a + b - m)) (numC_size _)) (z4_size.trans (numC_size _).symm) (numC_one _) ?_)
    | ((with_reducible refine at_dst 22 ?_); refine wpList_load_row rfl 51 _ rfl (w2.heap.size) rfl 51 (numC (a + b - m)) (0, 0) _ (setRow_heap _ _ _ _ _ _ (heap_new_at _ _ _ rfl)) underNum rfl (infoNum_of (numC (a + b - m)) (numC_size _)) ?_)
    | ((with_reducible refine at_store 6 ?_); refine wpList_store_row rfl 51 _ _ rfl (w.heap.size + 1 + 1 + 1) (numC (a + b - m)) rfl rfl 51 (z4) (heap_row _ (by omega) (heap_old _ h6)) (infoNum_of (numC (a + b - m)) (numC_size _)) (z4_size.trans (numC_size _).symm) (numC_one _) ?_))
  refine bodyPost_ret (results_cell_row rfl _ _ (w.heap.size + 1 + 1 + 1) 51 (numC (a + b - m)) (0, 0) _ rfl (setRow_heap _ _ _ _ _ _ (heap_row _ (by omega) (heap_old _ h6))) underNum rfl (infoNum_of (numC (a + b - m)) (numC_size _))) rfl ⟨rfl, (below_setRow (below_setRow (below_alloc hB2.out _) (by omega) _) (by omega) _)⟩




theorem plus_any (a b m : Nat) (ha : a < m) (hb : b < m) (hm : m < 57896044618658097711785492504343953926634992332820282019728792003956564819968) (w : World) :
    Calls Try.prog 60 #[.agg (numC a), .agg (numC b), .agg (numC m)] w fun e w' => e = .returned (.agg (numC ((a + b) % m))) ∧ Below w.heap.size w w' := by
  by_cases h : a + b < m
  · rw [Nat.mod_eq_of_lt h]; exact plus_lt a b m ha hb hm _ rfl h w
  · rw [Nat.mod_eq_sub_mod (by omega), Nat.mod_eq_of_lt (by omega)]; exact plus_ge a b m ha hb hm (by omega) w
end Go.Proofs.Ytkecocibfmhdpaa
