/- spec.FieldIsNegative -/
import Derived.Test.YtfkodiefldljgaaSB
namespace Go.Proofs.Ytfkodiefldljgaa
open Go.RowKit

set_option maxHeartbeats 1000000 in
theorem negative_true (a : Nat) (h : Hid (a % 2 = 1)) (w : World) :
    Calls Try.prog 30 #[.agg (numC a)] w fun e w' => e = .returned (.bool true) ∧ Below w.heap.size w w' := by
  go_enter Try.func30, Try.ntmps30
  go_wp2_with (first
    | ((with_reducible refine at_dst 3 ?_); refine wpList_load_row rfl 51 _ rfl (w.heap.size) rfl 51 (numC a) (0, 0) _ (heap_new_at _ _ _ rfl) underNum rfl (infoNum_of (numC a) (numC_size _)) ?_))
  refine (bit_true a 0 (by omega) (by rw [Nat.pow_zero, Nat.div_one]; exact h.out) _).mono ?_
  rintro e w1 ⟨rfl, hC1⟩
  have hs1 : w.heap.size + 1 ≤ w1.heap.size := by have := hC1.size; (try simp only [alloc_size, setRow_size] at this); omega
  have h1 : w1.heap[w.heap.size]? = some (.cells (numC a) 51 (0, 0)) := (heap_call hC1 (heap_new_at _ _ _ rfl))
  have hB1 : Hid (Below w.heap.size w w1) := Lib.hid (below_call (below_alloc (Below.refl _ w) _) hC1)
  clear hC1
  go_wp2
  go_ret
  exact ⟨rfl, hB1.out⟩

set_option maxHeartbeats 1000000 in
theorem negative_false (a : Nat) (h : Hid (¬ a % 2 = 1)) (w : World) :
    Calls Try.prog 30 #[.agg (numC a)] w fun e w' => e = .returned (.bool false) ∧ Below w.heap.size w w' := by
  go_enter Try.func30, Try.ntmps30
  go_wp2_with (first
    | ((with_reducible refine at_dst 3 ?_); refine wpList_load_row rfl 51 _ rfl (w.heap.size) rfl 51 (numC a) (0, 0) _ (heap_new_at _ _ _ rfl) underNum rfl (infoNum_of (numC a) (numC_size _)) ?_))
  refine (bit_false a 0 (by omega) (by rw [Nat.pow_zero, Nat.div_one]; exact h.out) _).mono ?_
  rintro e w1 ⟨rfl, hC1⟩
  have hs1 : w.heap.size + 1 ≤ w1.heap.size := by have := hC1.size; (try simp only [alloc_size, setRow_size] at this); omega
  have h1 : w1.heap[w.heap.size]? = some (.cells (numC a) 51 (0, 0)) := (heap_call hC1 (heap_new_at _ _ _ rfl))
  have hB1 : Hid (Below w.heap.size w w1) := Lib.hid (below_call (below_alloc (Below.refl _ w) _) hC1)
  clear hC1
  go_wp2
  go_ret
  exact ⟨rfl, hB1.out⟩

set_option maxHeartbeats 1000000 in
theorem specNeg_true (N : Nat) (h : Hid (valN N % 2 = 1)) (w : World) :
    Calls Try.prog 15 #[.agg (arrC N)] w fun e w' => e = .returned (.int .i64 1) ∧ Below w.heap.size w w' := by
  obtain ⟨a, qa⟩ : ∃ u : Nat, u = valN N := ⟨_, rfl⟩
  rw [← qa] at h
  have Ha := Lib.hid qa; clear qa
  go_enter Try.func15, Try.ntmps15
  go_wp2_with (first
    | ((with_reducible refine at_dst 3 ?_); refine wpList_load_row rfl 22 _ rfl (w.heap.size) rfl 22 (arrC N) (0, 0) _ (heap_new_at _ _ _ rfl) under32 rfl (info32_of (arrC N) (arrC_size _)) ?_))
  refine (element_to N a Ha _).mono ?_
  rintro e w1 ⟨rfl, hC1⟩
  have hs1 : w.heap.size + 1 ≤ w1.heap.size := by have := hC1.size; (try simp only [alloc_size, setRow_size] at this); omega
  have h1 : w1.heap[w.heap.size]? = some (.cells (arrC N) 22 (0, 0)) := (heap_call hC1 (heap_new_at _ _ _ rfl))
  have hB1 : Hid (Below w.heap.size w w1) := Lib.hid (below_call (below_alloc (Below.refl _ w) _) hC1)
  clear hC1
  go_wp2_with fail
  refine (negative_true a h _).mono ?_
  rintro e w2 ⟨rfl, hC2⟩
  have hs2 : w1.heap.size ≤ w2.heap.size := by have := hC2.size; (try simp only [alloc_size, setRow_size] at this); omega
  have h1 : w2.heap[w.heap.size]? = some (.cells (arrC N) 22 (0, 0)) := (heap_call hC2 h1)
  have hB2 : Hid (Below w.heap.size w w2) := Lib.hid (below_call hB1.out hC2)
  clear hC2
  go_wp2
  go_ret
  exact ⟨rfl, hB2.out⟩

set_option maxHeartbeats 1000000 in
theorem specNeg_false (N : Nat) (h : Hid (¬ valN N % 2 = 1)) (w : World) :
    Calls Try.prog 15 #[.agg (arrC N)] w fun e w' => e = .returned (.int .i64 0) ∧ Below w.heap.size w w' := by
  obtain ⟨a, qa⟩ : ∃ u : Nat, u = valN N := ⟨_, rfl⟩
  rw [← qa] at h
  have Ha := Lib.hid qa; clear qa
  go_enter Try.func15, Try.ntmps15
  go_wp2_with (first
    | ((with_reducible refine at_dst 3 ?_); refine wpList_load_row rfl 22 _ rfl (w.heap.size) rfl 22 (arrC N) (0, 0) _ (heap_new_at _ _ _ rfl) under32 rfl (info32_of (arrC N) (arrC_size _)) ?_))
  refine (element_to N a Ha _).mono ?_
  rintro e w1 ⟨rfl, hC1⟩
  have hs1 : w.heap.size + 1 ≤ w1.heap.size := by have := hC1.size; (try simp only [alloc_size, setRow_size] at this); omega
  have h1 : w1.heap[w.heap.size]? = some (.cells (arrC N) 22 (0, 0)) := (heap_call hC1 (heap_new_at _ _ _ rfl))
  have hB1 : Hid (Below w.heap.size w w1) := Lib.hid (below_call (below_alloc (Below.refl _ w) _) hC1)
  clear hC1
  go_wp2_with fail
  refine (negative_false a h _).mono ?_
  rintro e w2 ⟨rfl, hC2⟩
  have hs2 : w1.heap.size ≤ w2.heap.size := by have := hC2.size; (try simp only [alloc_size, setRow_size] at this); omega
  have h1 : w2.heap[w.heap.size]? = some (.cells (arrC N) 22 (0, 0)) := (heap_call hC2 h1)
  have hB2 : Hid (Below w.heap.size w w2) := Lib.hid (below_call hB1.out hC2)
  clear hC2
  go_wp2
  go_ret
  exact ⟨rfl, hB2.out⟩

end Go.Proofs.Ytfkodiefldljgaa
