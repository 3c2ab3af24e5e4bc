/- The reference's FieldMult32. -/
import Derived.Test.YtfkodiefldljgaaSB
namespace Go.Proofs.Ytfkodiefldljgaa
open Go.RowKit

theorem times_to (a b m r : Nat) (hr : Hid (r = a * b % m)) (ha : a < m) (hb : b < 2 ^ 256) (hm : m < 57896044618658097711785492504343953926634992332820282019728792003956564819968) (w : World) :
    Calls Try.prog 40 #[.agg (numC a), .agg (numC b), .agg (numC m)] w fun e w' => e = .returned (.agg (numC r)) ∧ Below w.heap.size w w' := by
  rw [hr.out]; exact times_any a b m ha hb hm w

set_option maxHeartbeats 1000000 in
theorem specMult32_to (N y R : Nat) (hy : y < 4294967296) (hR : Hid (R = valN N * y % pF)) (w : World) :
    Calls Try.prog 24 #[.agg (arrC N), .int .u32 (y : Int)] w fun e w' => e = .returned (.agg (arrC R)) ∧ Below w.heap.size w w' := by
  obtain ⟨a, qa⟩ : ∃ u : Nat, u = valN N := ⟨_, rfl⟩
  have Ha := Lib.hid qa; clear qa
  have la : a < pF := by rw [Ha.out]; exact valN_lt' _
  have HR : Hid (R = a * y % pF) := Lib.hid (by rw [Ha.out]; exact hR.out)
  clear hR
  go_enter Try.func24, Try.ntmps24
  go_wp2_with (first
    | ((with_reducible refine at_dst 5 ?_); refine wpList_load_row rfl 22 _ rfl (w.heap.size) rfl 22 (arrC N) (0, 0) _ (heap_old _ (heap_new_at _ _ _ rfl)) under32 rfl (info32_of (arrC N) (arrC_size _)) ?_))
  refine (element_to N a Ha _).mono ?_
  rintro e w1 ⟨rfl, hC1⟩
  have hs1 : w.heap.size + 1 + 1 ≤ w1.heap.size := by have := hC1.size; (try simp only [alloc_size, setRow_size] at this); omega
  replace h2 : w1.heap[w.heap.size]? = some (.cells (arrC N) 22 (0, 0)) := (heap_call hC1 (heap_old _ (heap_new_at _ _ _ rfl)))
  replace h4 : w1.heap[w.heap.size + 1]? = some (.cells (zL) 22 (0, 0)) := (heap_call hC1 (heap_new_at _ _ _ (by simp only [alloc_size, setRow_size])))
  have hBw1 : Hid (Below w.heap.size w w1) := Lib.hid (below_call (below_alloc (below_alloc (Below.refl _ w) _) _) hC1)
  clear hC1
  go_wp2_with fail
  refine (small_any y (by omega) _).mono ?_
  rintro e w2 ⟨rfl, hC2⟩
  have hs2 : w1.heap.size ≤ w2.heap.size := by have := hC2.size; (try simp only [alloc_size, setRow_size] at this); omega
  replace h2 : w2.heap[w.heap.size]? = some (.cells (arrC N) 22 (0, 0)) := (heap_call hC2 h2)
  replace h4 : w2.heap[w.heap.size + 1]? = some (.cells (zL) 22 (0, 0)) := (heap_call hC2 h4)
  have hBw2 : Hid (Below w.heap.size w w2) := Lib.hid (below_call hBw1.out hC2)
  clear hC2
  go_wp2_with fail
  refine (prime_any _).mono ?_
  rintro e w3 ⟨rfl, hC3⟩
  have hs3 : w2.heap.size ≤ w3.heap.size := by have := hC3.size; (try simp only [alloc_size, setRow_size] at this); omega
  replace h2 : w3.heap[w.heap.size]? = some (.cells (arrC N) 22 (0, 0)) := (heap_call hC3 h2)
  replace h4 : w3.heap[w.heap.size + 1]? = some (.cells (zL) 22 (0, 0)) := (heap_call hC3 h4)
  have hBw3 : Hid (Below w.heap.size w w3) := Lib.hid (below_call hBw2.out hC3)
  clear hC3
  go_wp2_with fail
  refine (times_to a y pF R HR la (by omega) (by unfold pF; omega) _).mono ?_
  rintro e w4 ⟨rfl, hC4⟩
  have hs4 : w3.heap.size ≤ w4.heap.size := by have := hC4.size; (try simp only [alloc_size, setRow_size] at this); omega
  replace h2 : w4.heap[w.heap.size]? = some (.cells (arrC N) 22 (0, 0)) := (heap_call hC4 h2)
  replace h4 : w4.heap[w.heap.size + 1]? = some (.cells (zL) 22 (0, 0)) := (heap_call hC4 h4)
  have hBw4 : Hid (Below w.heap.size w w4) := Lib.hid (below_call hBw3.out hC4)
  clear hC4
  go_wp2_with fail
  refine (octets_any R _).mono ?_
  rintro e w5 ⟨rfl, hC5⟩
  have hs5 : w4.heap.size ≤ w5.heap.size := by have := hC5.size; (try simp only [alloc_size, setRow_size] at this); omega
  replace h2 : w5.heap[w.heap.size]? = some (.cells (arrC N) 22 (0, 0)) := (heap_call hC5 h2)
  replace h4 : w5.heap[w.heap.size + 1]? = some (.cells (zL) 22 (0, 0)) := (heap_call hC5 h4)
  have hBw5 : Hid (Below w.heap.size w w5) := Lib.hid (below_call hBw4.out hC5)
  clear hC5
  go_wp2_with (first
    | ((with_reducible refine at_store 4 ?_); refine wpList_store_row rfl 22 _ _ rfl (w.heap.size + 1) (arrC R) rfl rfl 22 (zL) h4 (info32_of (arrC R) (arrC_size _)) (zL_size.trans (arrC_size _).symm) (arrC_one _) ?_))
  refine bodyPost_ret (results_cell_row rfl _ _ (w.heap.size + 1) 22 (arrC R) (0, 0) _ rfl (setRow_heap _ _ _ _ _ _ h4) under32 rfl (info32_of (arrC R) (arrC_size _))) rfl ⟨rfl, (below_setRow hBw5.out (by omega) _)⟩

end Go.Proofs.Ytfkodiefldljgaa
