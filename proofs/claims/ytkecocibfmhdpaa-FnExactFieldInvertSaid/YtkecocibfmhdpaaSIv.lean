/- The reference's inverse. -/
import Derived.Test.YtkecocibfmhdpaaSPw
import Derived.Test.YtkecocibfmhdpaaSB
import Derived.Test.YtkecocibfmhdpaaXP
namespace Go.Proofs.Ytkecocibfmhdpaa
open Go.RowKit

theorem rest_to (a b d k : Nat) (ha : a < 18446744073709551616 ^ 4 ∧ b < 18446744073709551616 ^ 4) (h : difN a b = d ∧ (if a < b then 1 else 0 : Nat) = k) (w : World) : Calls Try.prog 49 #[.agg (numC a), .agg (numC b)] w fun e w' => e = .returned (.tuple #[.agg (numC d), .int .u64 (k : Int)]) ∧ Below w.heap.size w w' := by
  rw [← h.1, ← h.2]; exact rest_any a b ha.1 ha.2 w

set_option maxHeartbeats 1000000 in
theorem inverse_to (a R : Nat) (ha : a < pF) (hR : Hid (R = xp a 57896044618658097711785492504343953926634992332820282019728792003956564819947)) (w : World) :
    Calls Try.prog 36 #[.agg (numC a)] w fun e w' => e = .returned (.agg (numC R)) ∧ Below w.heap.size w w' := by
  have HR : Hid (R = pm a 57896044618658097711785492504343953926634992332820282019728792003956564819947 pF) := Lib.hid hR.out
  clear hR
  go_enter Try.func36, Try.ntmps36
  go_wp2_with fail
  refine (prime_any _).mono ?_
  rintro e w1 ⟨rfl, hC1⟩
  have hs1 : w.heap.size + 1 + 1 ≤ w1.heap.size := by have := hC1.size; (try simp only [alloc_size, setRow_size] at this); omega
  replace h1 : w1.heap[w.heap.size]? = some (.cells (numC a) 51 (0, 0)) := (heap_call hC1 (heap_old _ (heap_new_at _ _ _ rfl)))
  replace h2 : w1.heap[w.heap.size + 1]? = some (.cells (z4) 51 (0, 0)) := (heap_call hC1 (heap_new_at _ _ _ (by simp only [alloc_size, setRow_size])))
  have hBw1 : Hid (Below w.heap.size w w1) := Lib.hid (below_call (below_alloc (below_alloc (Below.refl _ w) _) _) hC1)
  clear hC1
  go_wp2_with fail
  refine (small_any 2 (by omega) _).mono ?_
  rintro e w2 ⟨rfl, hC2⟩
  have hs2 : w1.heap.size ≤ w2.heap.size := by have := hC2.size; (try simp only [alloc_size, setRow_size] at this); omega
  replace h1 : w2.heap[w.heap.size]? = some (.cells (numC a) 51 (0, 0)) := (heap_call hC2 h1)
  replace h2 : w2.heap[w.heap.size + 1]? = some (.cells (z4) 51 (0, 0)) := (heap_call hC2 h2)
  have hBw2 : Hid (Below w.heap.size w w2) := Lib.hid (below_call hBw1.out hC2)
  clear hC2
  go_wp2_with fail
  refine (rest_to pF 2 57896044618658097711785492504343953926634992332820282019728792003956564819947 0 (by decide +kernel) (by decide +kernel) _).mono ?_
  rintro e w3 ⟨rfl, hC3⟩
  have hs3 : w2.heap.size ≤ w3.heap.size := by have := hC3.size; (try simp only [alloc_size, setRow_size] at this); omega
  replace h1 : w3.heap[w.heap.size]? = some (.cells (numC a) 51 (0, 0)) := (heap_call hC3 h1)
  replace h2 : w3.heap[w.heap.size + 1]? = some (.cells (z4) 51 (0, 0)) := (heap_call hC3 h2)
  have hBw3 : Hid (Below w.heap.size w w3) := Lib.hid (below_call hBw2.out hC3)
  clear hC3
  go_wp2_with (first
    | ((with_reducible refine at_store 3 ?_); refine wpList_store_row rfl 51 _ _ rfl (w3.heap.size) (numC 57896044618658097711785492504343953926634992332820282019728792003956564819947) rfl rfl 51 (z4) (heap_new_at _ _ _ rfl) (infoNum_of (numC 57896044618658097711785492504343953926634992332820282019728792003956564819947) (numC_size _)) (z4_size.trans (numC_size _).symm) (numC_one _) ?_))
  refine wp_named ?_
  intro w4 ew4
  have hs4 : w3.heap.size + 1 ≤ w4.heap.size := by rw [ew4]; (try simp only [alloc_size, setRow_size]); omega
  replace h1 : w4.heap[w.heap.size]? = some (.cells (numC a) 51 (0, 0)) := by rw [ew4]; exact (heap_row _ (by omega) (heap_old _ h1))
  replace h2 : w4.heap[w.heap.size + 1]? = some (.cells (z4) 51 (0, 0)) := by rw [ew4]; exact (heap_row _ (by omega) (heap_old _ h2))
  replace h3 : w4.heap[w3.heap.size]? = some (.cells (numC 57896044618658097711785492504343953926634992332820282019728792003956564819947) 51 (0, 0)) := by rw [ew4]; exact (setRow_heap _ _ _ _ _ _ (heap_new_at _ _ _ rfl))
  have hBw4 : Hid (Below w.heap.size w w4) := Lib.hid (by rw [ew4]; exact (below_setRow (below_alloc hBw3.out _) (by omega) _))
  clear ew4
  refine wp_region_noPanic ?_
  refine wp_region_held_drew (S := Keep (w.heap.size + 1) w4) (by kernel_rfl) (Keep.start _ _) ?_
  intro hS
  obtain ⟨w5, ed⟩ : ∃ u : World, u = w4.drew := ⟨_, rfl⟩
  rw [← ed] at hS ⊢
  have xh1 : w5.heap[w.heap.size]? = some (.cells (numC a) 51 (0, 0)) := by rw [ed]; exact h1
  have xh2 : w5.heap[w.heap.size + 1]? = some (.cells (z4) 51 (0, 0)) := by rw [ed]; exact h2
  have xh3 : w5.heap[w3.heap.size]? = some (.cells (numC 57896044618658097711785492504343953926634992332820282019728792003956564819947) 51 (0, 0)) := by rw [ed]; exact h3
  clear ed
  have hSz := hS.size
  clear xh1
  clear xh3
  refine takeAt (i := 0) (v := .agg (numC a)) rfl (some 11) rfl (by kernel_rfl) (by kernel_rfl) (by kernel_rfl) (fun _ _ _ h => h) (take_row rfl _ _ rfl (w.heap.size) rfl _ _ _ h1 (by omega) underNum rfl (infoNum_of (numC a) (numC_size _))) hS ?_
  simp only [Act.put, List.setIfInBounds_toArray, List.set_cons_zero, List.set_cons_succ]
  refine takeAt (i := 1) (v := .agg (numC 57896044618658097711785492504343953926634992332820282019728792003956564819947)) rfl (some 12) rfl (by kernel_rfl) (by kernel_rfl) (by kernel_rfl) (fun _ _ _ h => h) (take_row rfl _ _ rfl (w3.heap.size) rfl _ _ _ h3 (by omega) underNum rfl (infoNum_of (numC 57896044618658097711785492504343953926634992332820282019728792003956564819947) (numC_size _))) hS ?_
  simp only [Act.put, List.setIfInBounds_toArray, List.set_cons_zero, List.set_cons_succ]
  refine wpAnyH_ready (rs := [2]) (by kernel_rfl) (by simp) ?_
  refine (AllReadyH.cons rfl ?_ AllReadyH.nil)
  intro K hK
  refine ready_call rfl (some 13) rfl 34 #[] (by go_simp) ?_
  refine (prime_any _).mono ?_
  rintro e w6 ⟨rfl, hC⟩
  refine ⟨_, rfl, ?_⟩
  simp only [Act.put, List.setIfInBounds_toArray, List.set_cons_zero, List.set_cons_succ]
  have xh2 : w6.heap[w.heap.size + 1]? = some (.cells (z4) 51 (0, 0)) := (heap_call hC xh2)
  have hS := hS.call hC
  have hz6 := hC.size
  clear hC
  refine hK.out _ _ hS ?_
  clear hK K
  intro _
  have hSz := hS.size
  refine wpAnyH_ready (rs := [3]) (by kernel_rfl) (by simp) ?_
  refine (AllReadyH.cons rfl ?_ AllReadyH.nil)
  intro K hK
  refine ready_call rfl (some 14) rfl 32 #[.agg (numC a), .agg (numC 57896044618658097711785492504343953926634992332820282019728792003956564819947), .agg (numC pF)] (by go_simp) ?_
  refine (power_to a 57896044618658097711785492504343953926634992332820282019728792003956564819947 pF R HR ha (by decide +kernel) (by unfold pF; omega) (by decide +kernel) _).mono ?_
  rintro e w7 ⟨rfl, hC⟩
  refine ⟨_, rfl, ?_⟩
  simp only [Act.put, List.setIfInBounds_toArray, List.set_cons_zero, List.set_cons_succ]
  have xh2 : w7.heap[w.heap.size + 1]? = some (.cells (z4) 51 (0, 0)) := (heap_call hC xh2)
  have hS := hS.call hC
  have hz7 := hC.size
  clear hC
  refine hK.out _ _ hS ?_
  clear hK K
  intro _
  have hSz := hS.size
  refine wpAnyH_ready (rs := [4]) (by kernel_rfl) (by simp) ?_
  refine (AllReadyH.cons rfl ?_ AllReadyH.nil)
  intro K hK
  rw [if_pos (by rfl)]
  refine wp_store_row 51 _ _ rfl (w.heap.size + 1) (numC R) rfl rfl 51 (z4) xh2 (infoNum_of (numC R) (numC_size _)) (z4_size.trans (numC_size _).symm) (numC_one _) ?_
  refine put_at (none) rfl ?_
  simp only [Act.put, List.setIfInBounds_toArray, List.set_cons_zero, List.set_cons_succ]
  have xh2 : (w7.setRow (w.heap.size + 1) (numC R)).heap[w.heap.size + 1]? = some (.cells (numC R) 51 (0, 0)) := (setRow_heap _ _ _ _ _ _ xh2)
  have hS := hS.store (numC R)
  generalize w7.setRow (w.heap.size + 1) (numC R) = w8 at *
  refine hK.out _ _ hS ?_
  clear hK K
  intro _
  have hSz := hS.size
  refine wpAnyH_done (by kernel_rfl) ?_ _
  refine NoPanic.normal ?_
  have hsz := hS.size
  have h1 : w8.heap[w.heap.size]? = some (.cells (numC a) 51 (0, 0)) := hS.old h1 (by omega)
  have h3 : w8.heap[w3.heap.size]? = some (.cells (numC 57896044618658097711785492504343953926634992332820282019728792003956564819947) 51 (0, 0)) := hS.old h3 (by omega)
  have h2 := xh2
  have hBw8 : Hid (Below w.heap.size w w8) := Lib.hid (hBw4.out.trans (hS.below (by omega) hBw4.out.size))
  clear hS
  go_wp2
  refine bodyPost_ret (results_cell_row rfl _ _ (w.heap.size + 1) 51 (numC R) (0, 0) _ rfl h2 underNum rfl (infoNum_of (numC R) (numC_size _))) rfl ⟨rfl, hBw8.out⟩

end Go.Proofs.Ytkecocibfmhdpaa
