/- FnExactFieldSwap: the walk. -/
import Derived.Test.YtfkodiefldljgaaFSW
import Derived.Test.YtfkodiefldljgaaSSW
import Derived.Test.YtfkodiefldljgaaL1
namespace Go.Proofs.Ytfkodiefldljgaa
open Go.RowKit

set_option maxHeartbeats 2000000 in
theorem ExactSwap_0 (X Y : Nat) (w : World) :
    Calls Try.prog 8 #[.agg (arrC X), .agg (arrC Y), .int .i64 0] w fun e w' => e = .returned (.bool true) ∧ Below w.heap.size w w' := by
  have e0 := fun u : World => run_eq_arr (valN X) (valN X) (Nat.lt_trans (valN_lt _) p_lt) (Nat.lt_trans (valN_lt _) p_lt) u
  have e1 := fun u : World => run_eq_arr (valN Y) (valN Y) (Nat.lt_trans (valN_lt _) p_lt) (Nat.lt_trans (valN_lt _) p_lt) u
  rw [show (decide (valN X = valN X)) = true from by simp] at e0
  rw [show (decide (valN Y = valN Y)) = true from by simp] at e1
  go_enter Try.func8, Try.ntmps8
  go_wp2_with (first
    | ((with_reducible refine at_dst 12 ?_); refine wpList_load_row rfl 22 _ rfl (w.heap.size) rfl 22 (arrC X) (0, 0) _ (heap_old _ (heap_new_at _ _ _ rfl)) under32 rfl (info32_of (arrC X) (arrC_size _)) ?_)
    | ((with_reducible refine at_dst 13 ?_); refine wpList_load_row rfl 22 _ rfl (w.heap.size + 1) rfl 22 (arrC Y) (0, 0) _ (heap_new_at _ _ _ (by simp only [alloc_size, setRow_size])) under32 rfl (info32_of (arrC Y) (arrC_size _)) ?_))
  refine (FieldSwap_0 X Y _).mono ?_
  rintro e w1 ⟨rfl, hC1⟩
  have hs1 : w.heap.size + 1 + 1 ≤ w1.heap.size := by have := hC1.size; (try simp only [alloc_size, setRow_size] at this); omega
  replace h3 : w1.heap[w.heap.size]? = some (.cells (arrC X) 22 (0, 0)) := (heap_call hC1 (heap_old _ (heap_new_at _ _ _ rfl)))
  replace h4 : w1.heap[w.heap.size + 1]? = some (.cells (arrC Y) 22 (0, 0)) := (heap_call hC1 (heap_new_at _ _ _ (by simp only [alloc_size, setRow_size])))
  have hBw1 : Hid (Below w.heap.size w w1) := Lib.hid (below_call (below_alloc (below_alloc (Below.refl _ w) _) _) hC1)
  clear hC1
  go_wp2_with (first
    | ((with_reducible refine at_store 7 ?_); refine wpList_store_row rfl 22 _ _ rfl (w1.heap.size) (arrC (valN X)) rfl rfl 22 (zL) (heap_old _ (heap_new_at _ _ _ rfl)) (info32_of (arrC (valN X)) (arrC_size _)) (zL_size.trans (arrC_size _).symm) (arrC_one _) ?_)
    | ((with_reducible refine at_store 8 ?_); refine wpList_store_row rfl 22 _ _ rfl (w1.heap.size + 1) (arrC (valN Y)) rfl rfl 22 (zL) (heap_row _ (by omega) (heap_new_at _ _ _ (by simp only [alloc_size, setRow_size]))) (info32_of (arrC (valN Y)) (arrC_size _)) (zL_size.trans (arrC_size _).symm) (arrC_one _) ?_)
    | ((with_reducible refine at_dst 19 ?_); refine wpList_load_row rfl 22 _ rfl (w.heap.size) rfl 22 (arrC X) (0, 0) _ (heap_row _ (by omega) (heap_row _ (by omega) (heap_old _ (heap_old _ h3)))) under32 rfl (info32_of (arrC X) (arrC_size _)) ?_)
    | ((with_reducible refine at_dst 20 ?_); refine wpList_load_row rfl 22 _ rfl (w.heap.size + 1) rfl 22 (arrC Y) (0, 0) _ (heap_row _ (by omega) (heap_row _ (by omega) (heap_old _ (heap_old _ h4)))) under32 rfl (info32_of (arrC Y) (arrC_size _)) ?_))
  refine (specSwap_0 X Y _).mono ?_
  rintro e w2 ⟨rfl, hC2⟩
  have hs2 : w1.heap.size + 1 + 1 ≤ w2.heap.size := by have := hC2.size; (try simp only [alloc_size, setRow_size] at this); omega
  replace h3 : w2.heap[w.heap.size]? = some (.cells (arrC X) 22 (0, 0)) := (heap_call hC2 (heap_row _ (by omega) (heap_row _ (by omega) (heap_old _ (heap_old _ h3)))))
  replace h4 : w2.heap[w.heap.size + 1]? = some (.cells (arrC Y) 22 (0, 0)) := (heap_call hC2 (heap_row _ (by omega) (heap_row _ (by omega) (heap_old _ (heap_old _ h4)))))
  replace h7 : w2.heap[w1.heap.size]? = some (.cells (arrC (valN X)) 22 (0, 0)) := (heap_call hC2 (heap_row _ (by omega) (setRow_heap _ _ _ _ _ _ (heap_old _ (heap_new_at _ _ _ rfl)))))
  replace h8 : w2.heap[w1.heap.size + 1]? = some (.cells (arrC (valN Y)) 22 (0, 0)) := (heap_call hC2 (setRow_heap _ _ _ _ _ _ (heap_row _ (by omega) (heap_new_at _ _ _ (by simp only [alloc_size, setRow_size])))))
  have hBw2 : Hid (Below w.heap.size w w2) := Lib.hid (below_call (below_setRow (below_setRow (below_alloc (below_alloc hBw1.out _) _) (by omega) _) (by omega) _) hC2)
  clear hC2
  go_wp2_with (first
    | ((with_reducible refine at_store 9 ?_); refine wpList_store_row rfl 22 _ _ rfl (w2.heap.size) (arrC (valN X)) rfl rfl 22 (zL) (heap_old _ (heap_new_at _ _ _ rfl)) (info32_of (arrC (valN X)) (arrC_size _)) (zL_size.trans (arrC_size _).symm) (arrC_one _) ?_)
    | ((with_reducible refine at_store 10 ?_); refine wpList_store_row rfl 22 _ _ rfl (w2.heap.size + 1) (arrC (valN Y)) rfl rfl 22 (zL) (heap_row _ (by omega) (heap_new_at _ _ _ (by simp only [alloc_size, setRow_size]))) (info32_of (arrC (valN Y)) (arrC_size _)) (zL_size.trans (arrC_size _).symm) (arrC_one _) ?_)
    | ((with_reducible refine at_dst 25 ?_); refine wpList_load_row rfl 22 _ rfl (w1.heap.size) rfl 22 (arrC (valN X)) (0, 0) _ (heap_row _ (by omega) (heap_row _ (by omega) (heap_old _ (heap_old _ h7)))) under32 rfl (info32_of (arrC (valN X)) (arrC_size _)) ?_)
    | ((with_reducible refine at_dst 26 ?_); refine wpList_load_row rfl 22 _ rfl (w2.heap.size) rfl 22 (arrC (valN X)) (0, 0) _ (heap_row _ (by omega) (setRow_heap _ _ _ _ _ _ (heap_old _ (heap_new_at _ _ _ rfl)))) under32 rfl (info32_of (arrC (valN X)) (arrC_size _)) ?_)
    | ((with_reducible refine at_dst 29 ?_); refine load_guarded rfl 22 _ rfl (w1.heap.size + 1) rfl 22 (arrC (valN Y)) (0, 0) _ (heap_row _ (by omega) (heap_row _ (by omega) (heap_old _ (heap_old _ h8)))) under32 rfl (info32_of (arrC (valN Y)) (arrC_size _)) ?_)
    | ((with_reducible refine at_dst 30 ?_); refine load_guarded rfl 22 _ rfl (w2.heap.size + 1) rfl 22 (arrC (valN Y)) (0, 0) _ (setRow_heap _ _ _ _ _ _ (heap_row _ (by omega) (heap_new_at _ _ _ (by simp only [alloc_size, setRow_size])))) under32 rfl (info32_of (arrC (valN Y)) (arrC_size _)) ?_))
  go_ret
  exact ⟨rfl, (below_setRow (below_setRow (below_alloc (below_alloc hBw2.out _) _) (by omega) _) (by omega) _)⟩

set_option maxHeartbeats 2000000 in
theorem ExactSwap_1 (X Y : Nat) (w : World) :
    Calls Try.prog 8 #[.agg (arrC X), .agg (arrC Y), .int .i64 1] w fun e w' => e = .returned (.bool true) ∧ Below w.heap.size w w' := by
  have e0 := fun u : World => run_eq_arr (valN X) (valN X) (Nat.lt_trans (valN_lt _) p_lt) (Nat.lt_trans (valN_lt _) p_lt) u
  have e1 := fun u : World => run_eq_arr (valN Y) (valN Y) (Nat.lt_trans (valN_lt _) p_lt) (Nat.lt_trans (valN_lt _) p_lt) u
  rw [show (decide (valN X = valN X)) = true from by simp] at e0
  rw [show (decide (valN Y = valN Y)) = true from by simp] at e1
  go_enter Try.func8, Try.ntmps8
  go_wp2_with (first
    | ((with_reducible refine at_dst 12 ?_); refine wpList_load_row rfl 22 _ rfl (w.heap.size) rfl 22 (arrC X) (0, 0) _ (heap_old _ (heap_new_at _ _ _ rfl)) under32 rfl (info32_of (arrC X) (arrC_size _)) ?_)
    | ((with_reducible refine at_dst 13 ?_); refine wpList_load_row rfl 22 _ rfl (w.heap.size + 1) rfl 22 (arrC Y) (0, 0) _ (heap_new_at _ _ _ (by simp only [alloc_size, setRow_size])) under32 rfl (info32_of (arrC Y) (arrC_size _)) ?_))
  refine (FieldSwap_1 X Y _).mono ?_
  rintro e w1 ⟨rfl, hC1⟩
  have hs1 : w.heap.size + 1 + 1 ≤ w1.heap.size := by have := hC1.size; (try simp only [alloc_size, setRow_size] at this); omega
  replace h3 : w1.heap[w.heap.size]? = some (.cells (arrC X) 22 (0, 0)) := (heap_call hC1 (heap_old _ (heap_new_at _ _ _ rfl)))
  replace h4 : w1.heap[w.heap.size + 1]? = some (.cells (arrC Y) 22 (0, 0)) := (heap_call hC1 (heap_new_at _ _ _ (by simp only [alloc_size, setRow_size])))
  have hBw1 : Hid (Below w.heap.size w w1) := Lib.hid (below_call (below_alloc (below_alloc (Below.refl _ w) _) _) hC1)
  clear hC1
  go_wp2_with (first
    | ((with_reducible refine at_store 7 ?_); refine wpList_store_row rfl 22 _ _ rfl (w1.heap.size) (arrC (valN Y)) rfl rfl 22 (zL) (heap_old _ (heap_new_at _ _ _ rfl)) (info32_of (arrC (valN Y)) (arrC_size _)) (zL_size.trans (arrC_size _).symm) (arrC_one _) ?_)
    | ((with_reducible refine at_store 8 ?_); refine wpList_store_row rfl 22 _ _ rfl (w1.heap.size + 1) (arrC (valN X)) rfl rfl 22 (zL) (heap_row _ (by omega) (heap_new_at _ _ _ (by simp only [alloc_size, setRow_size]))) (info32_of (arrC (valN X)) (arrC_size _)) (zL_size.trans (arrC_size _).symm) (arrC_one _) ?_)
    | ((with_reducible refine at_dst 19 ?_); refine wpList_load_row rfl 22 _ rfl (w.heap.size) rfl 22 (arrC X) (0, 0) _ (heap_row _ (by omega) (heap_row _ (by omega) (heap_old _ (heap_old _ h3)))) under32 rfl (info32_of (arrC X) (arrC_size _)) ?_)
    | ((with_reducible refine at_dst 20 ?_); refine wpList_load_row rfl 22 _ rfl (w.heap.size + 1) rfl 22 (arrC Y) (0, 0) _ (heap_row _ (by omega) (heap_row _ (by omega) (heap_old _ (heap_old _ h4)))) under32 rfl (info32_of (arrC Y) (arrC_size _)) ?_))
  refine (specSwap_1 X Y _).mono ?_
  rintro e w2 ⟨rfl, hC2⟩
  have hs2 : w1.heap.size + 1 + 1 ≤ w2.heap.size := by have := hC2.size; (try simp only [alloc_size, setRow_size] at this); omega
  replace h3 : w2.heap[w.heap.size]? = some (.cells (arrC X) 22 (0, 0)) := (heap_call hC2 (heap_row _ (by omega) (heap_row _ (by omega) (heap_old _ (heap_old _ h3)))))
  replace h4 : w2.heap[w.heap.size + 1]? = some (.cells (arrC Y) 22 (0, 0)) := (heap_call hC2 (heap_row _ (by omega) (heap_row _ (by omega) (heap_old _ (heap_old _ h4)))))
  replace h7 : w2.heap[w1.heap.size]? = some (.cells (arrC (valN Y)) 22 (0, 0)) := (heap_call hC2 (heap_row _ (by omega) (setRow_heap _ _ _ _ _ _ (heap_old _ (heap_new_at _ _ _ rfl)))))
  replace h8 : w2.heap[w1.heap.size + 1]? = some (.cells (arrC (valN X)) 22 (0, 0)) := (heap_call hC2 (setRow_heap _ _ _ _ _ _ (heap_row _ (by omega) (heap_new_at _ _ _ (by simp only [alloc_size, setRow_size])))))
  have hBw2 : Hid (Below w.heap.size w w2) := Lib.hid (below_call (below_setRow (below_setRow (below_alloc (below_alloc hBw1.out _) _) (by omega) _) (by omega) _) hC2)
  clear hC2
  go_wp2_with (first
    | ((with_reducible refine at_store 9 ?_); refine wpList_store_row rfl 22 _ _ rfl (w2.heap.size) (arrC (valN Y)) rfl rfl 22 (zL) (heap_old _ (heap_new_at _ _ _ rfl)) (info32_of (arrC (valN Y)) (arrC_size _)) (zL_size.trans (arrC_size _).symm) (arrC_one _) ?_)
    | ((with_reducible refine at_store 10 ?_); refine wpList_store_row rfl 22 _ _ rfl (w2.heap.size + 1) (arrC (valN X)) rfl rfl 22 (zL) (heap_row _ (by omega) (heap_new_at _ _ _ (by simp only [alloc_size, setRow_size]))) (info32_of (arrC (valN X)) (arrC_size _)) (zL_size.trans (arrC_size _).symm) (arrC_one _) ?_)
    | ((with_reducible refine at_dst 25 ?_); refine wpList_load_row rfl 22 _ rfl (w1.heap.size) rfl 22 (arrC (valN Y)) (0, 0) _ (heap_row _ (by omega) (heap_row _ (by omega) (heap_old _ (heap_old _ h7)))) under32 rfl (info32_of (arrC (valN Y)) (arrC_size _)) ?_)
    | ((with_reducible refine at_dst 26 ?_); refine wpList_load_row rfl 22 _ rfl (w2.heap.size) rfl 22 (arrC (valN Y)) (0, 0) _ (heap_row _ (by omega) (setRow_heap _ _ _ _ _ _ (heap_old _ (heap_new_at _ _ _ rfl)))) under32 rfl (info32_of (arrC (valN Y)) (arrC_size _)) ?_)
    | ((with_reducible refine at_dst 29 ?_); refine load_guarded rfl 22 _ rfl (w1.heap.size + 1) rfl 22 (arrC (valN X)) (0, 0) _ (heap_row _ (by omega) (heap_row _ (by omega) (heap_old _ (heap_old _ h8)))) under32 rfl (info32_of (arrC (valN X)) (arrC_size _)) ?_)
    | ((with_reducible refine at_dst 30 ?_); refine load_guarded rfl 22 _ rfl (w2.heap.size + 1) rfl 22 (arrC (valN X)) (0, 0) _ (setRow_heap _ _ _ _ _ _ (heap_row _ (by omega) (heap_new_at _ _ _ (by simp only [alloc_size, setRow_size])))) under32 rfl (info32_of (arrC (valN X)) (arrC_size _)) ?_))
  go_ret
  exact ⟨rfl, (below_setRow (below_setRow (below_alloc (below_alloc hBw2.out _) _) (by omega) _) (by omega) _)⟩

set_option maxHeartbeats 2000000 in
theorem ExactSwap_n (X Y : Nat) (c : Int) (g0 : (c != 0) = true) (g1 : (c != 1) = true) (k0 : (c == 0) = false) (k1 : (c == 1) = false) (w : World) :
    Calls Try.prog 8 #[.agg (arrC X), .agg (arrC Y), .int .i64 c] w fun e w' => e = .returned (.bool true) ∧ Below w.heap.size w w' := by
  have e0 := fun u : World => run_eq_arr 0 0 (by omega) (by omega) u
  rw [show (decide ((0 : Nat) = 0)) = true from rfl, ← zL_arrC] at e0
  go_enter Try.func8, Try.ntmps8
  go_wp2_with (first
    | ((with_reducible refine at_dst 12 ?_); refine wpList_load_row rfl 22 _ rfl (w.heap.size) rfl 22 (arrC X) (0, 0) _ (heap_old _ (heap_new_at _ _ _ rfl)) under32 rfl (info32_of (arrC X) (arrC_size _)) ?_)
    | ((with_reducible refine at_dst 13 ?_); refine wpList_load_row rfl 22 _ rfl (w.heap.size + 1) rfl 22 (arrC Y) (0, 0) _ (heap_new_at _ _ _ (by simp only [alloc_size, setRow_size])) under32 rfl (info32_of (arrC Y) (arrC_size _)) ?_))
  refine (FieldSwap_n X Y c g0 g1 _).mono ?_
  rintro e w1 ⟨rfl, hC1⟩
  have hs1 : w.heap.size + 1 + 1 ≤ w1.heap.size := by have := hC1.size; (try simp only [alloc_size, setRow_size] at this); omega
  replace h3 : w1.heap[w.heap.size]? = some (.cells (arrC X) 22 (0, 0)) := (heap_call hC1 (heap_old _ (heap_new_at _ _ _ rfl)))
  replace h4 : w1.heap[w.heap.size + 1]? = some (.cells (arrC Y) 22 (0, 0)) := (heap_call hC1 (heap_new_at _ _ _ (by simp only [alloc_size, setRow_size])))
  have hBw1 : Hid (Below w.heap.size w w1) := Lib.hid (below_call (below_alloc (below_alloc (Below.refl _ w) _) _) hC1)
  clear hC1
  go_wp2_with (first
    | ((with_reducible refine at_store 7 ?_); refine wpList_store_row rfl 22 _ _ rfl (w1.heap.size) (zL) rfl rfl 22 (zL) (heap_old _ (heap_new_at _ _ _ rfl)) (info32_of (zL) zL_size) (zL_size.trans zL_size.symm) zL_one ?_)
    | ((with_reducible refine at_store 8 ?_); refine wpList_store_row rfl 22 _ _ rfl (w1.heap.size + 1) (zL) rfl rfl 22 (zL) (heap_row _ (by omega) (heap_new_at _ _ _ (by simp only [alloc_size, setRow_size]))) (info32_of (zL) zL_size) (zL_size.trans zL_size.symm) zL_one ?_)
    | ((with_reducible refine at_dst 19 ?_); refine wpList_load_row rfl 22 _ rfl (w.heap.size) rfl 22 (arrC X) (0, 0) _ (heap_row _ (by omega) (heap_row _ (by omega) (heap_old _ (heap_old _ h3)))) under32 rfl (info32_of (arrC X) (arrC_size _)) ?_)
    | ((with_reducible refine at_dst 20 ?_); refine wpList_load_row rfl 22 _ rfl (w.heap.size + 1) rfl 22 (arrC Y) (0, 0) _ (heap_row _ (by omega) (heap_row _ (by omega) (heap_old _ (heap_old _ h4)))) under32 rfl (info32_of (arrC Y) (arrC_size _)) ?_))
  refine (specSwap_n X Y c k0 k1 _).mono ?_
  rintro e w2 ⟨rfl, hC2⟩
  have hs2 : w1.heap.size + 1 + 1 ≤ w2.heap.size := by have := hC2.size; (try simp only [alloc_size, setRow_size] at this); omega
  replace h3 : w2.heap[w.heap.size]? = some (.cells (arrC X) 22 (0, 0)) := (heap_call hC2 (heap_row _ (by omega) (heap_row _ (by omega) (heap_old _ (heap_old _ h3)))))
  replace h4 : w2.heap[w.heap.size + 1]? = some (.cells (arrC Y) 22 (0, 0)) := (heap_call hC2 (heap_row _ (by omega) (heap_row _ (by omega) (heap_old _ (heap_old _ h4)))))
  replace h7 : w2.heap[w1.heap.size]? = some (.cells (zL) 22 (0, 0)) := (heap_call hC2 (heap_row _ (by omega) (setRow_heap _ _ _ _ _ _ (heap_old _ (heap_new_at _ _ _ rfl)))))
  replace h8 : w2.heap[w1.heap.size + 1]? = some (.cells (zL) 22 (0, 0)) := (heap_call hC2 (setRow_heap _ _ _ _ _ _ (heap_row _ (by omega) (heap_new_at _ _ _ (by simp only [alloc_size, setRow_size])))))
  have hBw2 : Hid (Below w.heap.size w w2) := Lib.hid (below_call (below_setRow (below_setRow (below_alloc (below_alloc hBw1.out _) _) (by omega) _) (by omega) _) hC2)
  clear hC2
  go_wp2_with (first
    | ((with_reducible refine at_store 9 ?_); refine wpList_store_row rfl 22 _ _ rfl (w2.heap.size) (zL) rfl rfl 22 (zL) (heap_old _ (heap_new_at _ _ _ rfl)) (info32_of (zL) zL_size) (zL_size.trans zL_size.symm) zL_one ?_)
    | ((with_reducible refine at_store 10 ?_); refine wpList_store_row rfl 22 _ _ rfl (w2.heap.size + 1) (zL) rfl rfl 22 (zL) (heap_row _ (by omega) (heap_new_at _ _ _ (by simp only [alloc_size, setRow_size]))) (info32_of (zL) zL_size) (zL_size.trans zL_size.symm) zL_one ?_)
    | ((with_reducible refine at_dst 25 ?_); refine wpList_load_row rfl 22 _ rfl (w1.heap.size) rfl 22 (zL) (0, 0) _ (heap_row _ (by omega) (heap_row _ (by omega) (heap_old _ (heap_old _ h7)))) under32 rfl (info32_of (zL) zL_size) ?_)
    | ((with_reducible refine at_dst 26 ?_); refine wpList_load_row rfl 22 _ rfl (w2.heap.size) rfl 22 (zL) (0, 0) _ (heap_row _ (by omega) (setRow_heap _ _ _ _ _ _ (heap_old _ (heap_new_at _ _ _ rfl)))) under32 rfl (info32_of (zL) zL_size) ?_)
    | ((with_reducible refine at_dst 29 ?_); refine load_guarded rfl 22 _ rfl (w1.heap.size + 1) rfl 22 (zL) (0, 0) _ (heap_row _ (by omega) (heap_row _ (by omega) (heap_old _ (heap_old _ h8)))) under32 rfl (info32_of (zL) zL_size) ?_)
    | ((with_reducible refine at_dst 30 ?_); refine load_guarded rfl 22 _ rfl (w2.heap.size + 1) rfl 22 (zL) (0, 0) _ (setRow_heap _ _ _ _ _ _ (heap_row _ (by omega) (heap_new_at _ _ _ (by simp only [alloc_size, setRow_size])))) under32 rfl (info32_of (zL) zL_size) ?_))
  go_ret
  exact ⟨rfl, (below_setRow (below_setRow (below_alloc (below_alloc hBw2.out _) _) (by omega) _) (by omega) _)⟩

theorem ExactSwap_walk (X : Nat) (_ : X < 256 ^ 32) (Y : Nat) (_ : Y < 256 ^ 32) (c : Int) (_ : -9223372036854775808 ≤ c ∧ c ≤ 9223372036854775807) (w : World) : Calls Try.prog 8 #[.agg (arrC X), .agg (arrC Y), .int .i64 c] w fun e w' => e = .returned (.bool true) ∧ Below w.heap.size w w' := by
  by_cases h0 : c = 0
  · subst h0; exact ExactSwap_0 X Y w
  · by_cases h1 : c = 1
    · subst h1; exact ExactSwap_1 X Y w
    · exact ExactSwap_n X Y c (by simpa using h0) (by simpa using h1) (by simpa using h0) (by simpa using h1) w

end Go.Proofs.Ytfkodiefldljgaa
