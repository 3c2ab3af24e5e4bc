/- The reference's FieldSwap. -/
import Derived.Test.YtfkodiefldljgaaSB
import Derived.Test.YtfkodiefldljgaaK1
namespace Go.Proofs.Ytfkodiefldljgaa
open Go.RowKit

set_option maxHeartbeats 1000000 in
theorem specSwap_0 (N M : Nat) (w : World) :
    Calls Try.prog 22 #[.agg (arrC N), .agg (arrC M), .int .i64 0] w fun e w' => e = .returned (.tuple #[.agg (arrC (valN N)), .agg (arrC (valN M))]) ∧ Below w.heap.size w w' := by
  obtain ⟨a, qa⟩ : ∃ u : Nat, u = valN N := ⟨_, rfl⟩
  have Ha := Lib.hid qa; clear qa
  obtain ⟨b, qb⟩ : ∃ u : Nat, u = valN M := ⟨_, rfl⟩
  have Hb := Lib.hid qb; clear qb
  go_enter Try.func22, Try.ntmps22
  go_wp2_with fail
  refine wp_named ?_
  intro w1 ew1
  have hs1 : w.heap.size + 1 + 1 + 1 + 1 ≤ w1.heap.size := by rw [ew1]; (try simp only [alloc_size, setRow_size]); omega
  replace h3 : w1.heap[w.heap.size]? = some (.cells (arrC N) 22 (0, 0)) := by rw [ew1]; exact (heap_old _ (heap_old _ (heap_old _ (heap_new_at _ _ _ rfl))))
  replace h4 : w1.heap[w.heap.size + 1]? = some (.cells (arrC M) 22 (0, 0)) := by rw [ew1]; exact (heap_old _ (heap_old _ (heap_new_at _ _ _ (by simp only [alloc_size, setRow_size]))))
  replace h6 : w1.heap[w.heap.size + 1 + 1]? = some (.cells (zL) 22 (0, 0)) := by rw [ew1]; exact (heap_old _ (heap_new_at _ _ _ (by simp only [alloc_size, setRow_size])))
  replace h7 : w1.heap[w.heap.size + 1 + 1 + 1]? = some (.cells (zL) 22 (0, 0)) := by rw [ew1]; exact (heap_new_at _ _ _ (by simp only [alloc_size, setRow_size]))
  have hBw1 : Hid (Below w.heap.size w w1) := Lib.hid (by rw [ew1]; exact (below_alloc (below_alloc (below_alloc (below_alloc (Below.refl _ w) _) _) _) _))
  clear ew1
  refine wp_region_noPanic ?_
  refine wp_region_held_drew (S := Keep2 (w.heap.size + 1 + 1) (w.heap.size + 1 + 1 + 1) w1) (by kernel_rfl) (Keep2.start _ _ _) ?_
  intro hS
  obtain ⟨w2, ed⟩ : ∃ u : World, u = w1.drew := ⟨_, rfl⟩
  rw [← ed] at hS ⊢
  have xh3 : w2.heap[w.heap.size]? = some (.cells (arrC N) 22 (0, 0)) := by rw [ed]; exact h3
  have xh4 : w2.heap[w.heap.size + 1]? = some (.cells (arrC M) 22 (0, 0)) := by rw [ed]; exact h4
  have xh6 : w2.heap[w.heap.size + 1 + 1]? = some (.cells (zL) 22 (0, 0)) := by rw [ed]; exact h6
  have xh7 : w2.heap[w.heap.size + 1 + 1 + 1]? = some (.cells (zL) 22 (0, 0)) := by rw [ed]; exact h7
  clear ed
  have hSz := hS.size
  clear xh3
  clear xh4
  refine takeAt (i := 0) (v := .agg (arrC N)) rfl (some 11) rfl (by kernel_rfl) (by kernel_rfl) (by kernel_rfl) (fun _ _ _ h => h) (take_row2 rfl _ _ rfl (w.heap.size) rfl _ _ _ h3 (by omega) (by omega) under32 rfl (info32_of (arrC N) (arrC_size _))) hS ?_
  simp only [Act.put, List.setIfInBounds_toArray, List.set_cons_zero, List.set_cons_succ]
  refine takeAt (i := 3) (v := .agg (arrC M)) rfl (some 14) rfl (by kernel_rfl) (by kernel_rfl) (by kernel_rfl) (fun _ _ _ h => h) (take_row2 rfl _ _ rfl (w.heap.size + 1) rfl _ _ _ h4 (by omega) (by omega) under32 rfl (info32_of (arrC M) (arrC_size _))) hS ?_
  simp only [Act.put, List.setIfInBounds_toArray, List.set_cons_zero, List.set_cons_succ]
  refine wpAnyH_ready (rs := [1]) (by kernel_rfl) (by simp) ?_
  refine (AllReadyH.cons rfl ?_ AllReadyH.nil)
  intro K hK
  refine ready_call rfl (some 12) rfl 31 #[.agg (arrC N)] (by go_simp) ?_
  refine (element_to N a Ha _).mono ?_
  rintro e w3 ⟨rfl, hC⟩
  refine ⟨_, rfl, ?_⟩
  simp only [Act.put, List.setIfInBounds_toArray, List.set_cons_zero, List.set_cons_succ]
  have xh6 : w3.heap[w.heap.size + 1 + 1]? = some (.cells (zL) 22 (0, 0)) := (heap_call hC xh6)
  have xh7 : w3.heap[w.heap.size + 1 + 1 + 1]? = some (.cells (zL) 22 (0, 0)) := (heap_call hC xh7)
  have hS := hS.call hC
  have hz3 := hC.size
  clear hC
  refine hK.out _ _ hS ?_
  clear hK K
  intro _
  have hSz := hS.size
  refine wpAnyH_ready (rs := [2]) (by kernel_rfl) (by simp) ?_
  refine (AllReadyH.cons rfl ?_ AllReadyH.nil)
  intro K hK
  refine ready_call rfl (some 13) rfl 35 #[.agg (numC a)] (by go_simp) ?_
  refine (octets_any a _).mono ?_
  rintro e w4 ⟨rfl, hC⟩
  refine ⟨_, rfl, ?_⟩
  simp only [Act.put, List.setIfInBounds_toArray, List.set_cons_zero, List.set_cons_succ]
  have xh6 : w4.heap[w.heap.size + 1 + 1]? = some (.cells (zL) 22 (0, 0)) := (heap_call hC xh6)
  have xh7 : w4.heap[w.heap.size + 1 + 1 + 1]? = some (.cells (zL) 22 (0, 0)) := (heap_call hC xh7)
  have hS := hS.call hC
  have hz4 := hC.size
  clear hC
  refine hK.out _ _ hS ?_
  clear hK K
  intro _
  have hSz := hS.size
  refine wpAnyH_ready (rs := [4]) (by kernel_rfl) (by simp) ?_
  refine (AllReadyH.cons rfl ?_ AllReadyH.nil)
  intro K hK
  refine ready_call rfl (some 15) rfl 31 #[.agg (arrC M)] (by go_simp) ?_
  refine (element_to M b Hb _).mono ?_
  rintro e w5 ⟨rfl, hC⟩
  refine ⟨_, rfl, ?_⟩
  simp only [Act.put, List.setIfInBounds_toArray, List.set_cons_zero, List.set_cons_succ]
  have xh6 : w5.heap[w.heap.size + 1 + 1]? = some (.cells (zL) 22 (0, 0)) := (heap_call hC xh6)
  have xh7 : w5.heap[w.heap.size + 1 + 1 + 1]? = some (.cells (zL) 22 (0, 0)) := (heap_call hC xh7)
  have hS := hS.call hC
  have hz5 := hC.size
  clear hC
  refine hK.out _ _ hS ?_
  clear hK K
  intro _
  have hSz := hS.size
  refine wpAnyH_ready (rs := [5]) (by kernel_rfl) (by simp) ?_
  refine (AllReadyH.cons rfl ?_ AllReadyH.nil)
  intro K hK
  refine ready_call rfl (some 16) rfl 35 #[.agg (numC b)] (by go_simp) ?_
  refine (octets_any b _).mono ?_
  rintro e w6 ⟨rfl, hC⟩
  refine ⟨_, rfl, ?_⟩
  simp only [Act.put, List.setIfInBounds_toArray, List.set_cons_zero, List.set_cons_succ]
  have xh6 : w6.heap[w.heap.size + 1 + 1]? = some (.cells (zL) 22 (0, 0)) := (heap_call hC xh6)
  have xh7 : w6.heap[w.heap.size + 1 + 1 + 1]? = some (.cells (zL) 22 (0, 0)) := (heap_call hC xh7)
  have hS := hS.call hC
  have hz6 := hC.size
  clear hC
  refine hK.out _ _ hS ?_
  clear hK K
  intro _
  have hSz := hS.size
  refine wpAnyH_ready (rs := [6]) (by kernel_rfl) (by simp) ?_
  refine (AllReadyH.cons rfl ?_ AllReadyH.nil)
  intro K hK
  rw [if_pos (by rfl)]
  refine wp_store_row 22 _ _ rfl (w.heap.size + 1 + 1) (arrC a) rfl rfl 22 (zL) xh6 (info32_of (arrC a) (arrC_size _)) (zL_size.trans (arrC_size _).symm) (arrC_one _) ?_
  refine put_at (none) rfl ?_
  simp only [Act.put, List.setIfInBounds_toArray, List.set_cons_zero, List.set_cons_succ]
  have xh6 : (w6.setRow (w.heap.size + 1 + 1) (arrC a)).heap[w.heap.size + 1 + 1]? = some (.cells (arrC a) 22 (0, 0)) := (setRow_heap _ _ _ _ _ _ xh6)
  have xh7 : (w6.setRow (w.heap.size + 1 + 1) (arrC a)).heap[w.heap.size + 1 + 1 + 1]? = some (.cells (zL) 22 (0, 0)) := (heap_row _ (by omega) xh7)
  have hS := hS.store (arrC a)
  generalize w6.setRow (w.heap.size + 1 + 1) (arrC a) = w7 at *
  refine hK.out _ _ hS ?_
  clear hK K
  intro _
  have hSz := hS.size
  refine wpAnyH_ready (rs := [7]) (by kernel_rfl) (by simp) ?_
  refine (AllReadyH.cons rfl ?_ AllReadyH.nil)
  intro K hK
  rw [if_pos (by rfl)]
  refine wp_store_row 22 _ _ rfl (w.heap.size + 1 + 1 + 1) (arrC b) rfl rfl 22 (zL) xh7 (info32_of (arrC b) (arrC_size _)) (zL_size.trans (arrC_size _).symm) (arrC_one _) ?_
  refine put_at (none) rfl ?_
  simp only [Act.put, List.setIfInBounds_toArray, List.set_cons_zero, List.set_cons_succ]
  have xh6 : (w7.setRow (w.heap.size + 1 + 1 + 1) (arrC b)).heap[w.heap.size + 1 + 1]? = some (.cells (arrC a) 22 (0, 0)) := (heap_row _ (by omega) xh6)
  have xh7 : (w7.setRow (w.heap.size + 1 + 1 + 1) (arrC b)).heap[w.heap.size + 1 + 1 + 1]? = some (.cells (arrC b) 22 (0, 0)) := (setRow_heap _ _ _ _ _ _ xh7)
  have hS := hS.store' (arrC b)
  generalize w7.setRow (w.heap.size + 1 + 1 + 1) (arrC b) = w8 at *
  refine hK.out _ _ hS ?_
  clear hK K
  intro _
  have hSz := hS.size
  refine wpAnyH_done (by kernel_rfl) ?_ _
  refine NoPanic.normal ?_
  have hsz := hS.size
  have h3 : w8.heap[w.heap.size]? = some (.cells (arrC N) 22 (0, 0)) := hS.old h3 (by omega) (by omega)
  have h4 : w8.heap[w.heap.size + 1]? = some (.cells (arrC M) 22 (0, 0)) := hS.old h4 (by omega) (by omega)
  have h6 := xh6
  have h7 := xh7
  have hBw8 : Hid (Below w.heap.size w w8) := Lib.hid (hBw1.out.trans (hS.below (by omega) (by omega) hBw1.out.size))
  clear hS
  go_wp2
  refine bodyPost_ret (results_row2 rfl _ _ (w.heap.size + 1 + 1) 22 (arrC a) (0, 0) (w.heap.size + 1 + 1 + 1) 22 (arrC b) (0, 0) _ rfl rfl h6 h7 under32 rfl (info32_of (arrC a) (arrC_size _)) (info32_of (arrC b) (arrC_size _))) rfl ⟨by rw [Ha.out, Hb.out], hBw8.out⟩

set_option maxHeartbeats 1000000 in
theorem specSwap_1 (N M : Nat) (w : World) :
    Calls Try.prog 22 #[.agg (arrC N), .agg (arrC M), .int .i64 1] w fun e w' => e = .returned (.tuple #[.agg (arrC (valN M)), .agg (arrC (valN N))]) ∧ Below w.heap.size w w' := by
  obtain ⟨a, qa⟩ : ∃ u : Nat, u = valN N := ⟨_, rfl⟩
  have Ha := Lib.hid qa; clear qa
  obtain ⟨b, qb⟩ : ∃ u : Nat, u = valN M := ⟨_, rfl⟩
  have Hb := Lib.hid qb; clear qb
  go_enter Try.func22, Try.ntmps22
  go_wp2_with fail
  refine wp_named ?_
  intro w1 ew1
  have hs1 : w.heap.size + 1 + 1 + 1 + 1 ≤ w1.heap.size := by rw [ew1]; (try simp only [alloc_size, setRow_size]); omega
  replace h3 : w1.heap[w.heap.size]? = some (.cells (arrC N) 22 (0, 0)) := by rw [ew1]; exact (heap_old _ (heap_old _ (heap_old _ (heap_new_at _ _ _ rfl))))
  replace h4 : w1.heap[w.heap.size + 1]? = some (.cells (arrC M) 22 (0, 0)) := by rw [ew1]; exact (heap_old _ (heap_old _ (heap_new_at _ _ _ (by simp only [alloc_size, setRow_size]))))
  replace h6 : w1.heap[w.heap.size + 1 + 1]? = some (.cells (zL) 22 (0, 0)) := by rw [ew1]; exact (heap_old _ (heap_new_at _ _ _ (by simp only [alloc_size, setRow_size])))
  replace h7 : w1.heap[w.heap.size + 1 + 1 + 1]? = some (.cells (zL) 22 (0, 0)) := by rw [ew1]; exact (heap_new_at _ _ _ (by simp only [alloc_size, setRow_size]))
  have hBw1 : Hid (Below w.heap.size w w1) := Lib.hid (by rw [ew1]; exact (below_alloc (below_alloc (below_alloc (below_alloc (Below.refl _ w) _) _) _) _))
  clear ew1
  refine wp_region_noPanic ?_
  refine wp_region_held_drew (S := Keep2 (w.heap.size + 1 + 1) (w.heap.size + 1 + 1 + 1) w1) (by kernel_rfl) (Keep2.start _ _ _) ?_
  intro hS
  obtain ⟨w2, ed⟩ : ∃ u : World, u = w1.drew := ⟨_, rfl⟩
  rw [← ed] at hS ⊢
  have xh3 : w2.heap[w.heap.size]? = some (.cells (arrC N) 22 (0, 0)) := by rw [ed]; exact h3
  have xh4 : w2.heap[w.heap.size + 1]? = some (.cells (arrC M) 22 (0, 0)) := by rw [ed]; exact h4
  have xh6 : w2.heap[w.heap.size + 1 + 1]? = some (.cells (zL) 22 (0, 0)) := by rw [ed]; exact h6
  have xh7 : w2.heap[w.heap.size + 1 + 1 + 1]? = some (.cells (zL) 22 (0, 0)) := by rw [ed]; exact h7
  clear ed
  have hSz := hS.size
  clear xh3
  clear xh4
  refine takeAt (i := 0) (v := .agg (arrC M)) rfl (some 19) rfl (by kernel_rfl) (by kernel_rfl) (by kernel_rfl) (fun _ _ _ h => h) (take_row2 rfl _ _ rfl (w.heap.size + 1) rfl _ _ _ h4 (by omega) (by omega) under32 rfl (info32_of (arrC M) (arrC_size _))) hS ?_
  simp only [Act.put, List.setIfInBounds_toArray, List.set_cons_zero, List.set_cons_succ]
  refine takeAt (i := 3) (v := .agg (arrC N)) rfl (some 22) rfl (by kernel_rfl) (by kernel_rfl) (by kernel_rfl) (fun _ _ _ h => h) (take_row2 rfl _ _ rfl (w.heap.size) rfl _ _ _ h3 (by omega) (by omega) under32 rfl (info32_of (arrC N) (arrC_size _))) hS ?_
  simp only [Act.put, List.setIfInBounds_toArray, List.set_cons_zero, List.set_cons_succ]
  refine wpAnyH_ready (rs := [1]) (by kernel_rfl) (by simp) ?_
  refine (AllReadyH.cons rfl ?_ AllReadyH.nil)
  intro K hK
  refine ready_call rfl (some 20) rfl 31 #[.agg (arrC M)] (by go_simp) ?_
  refine (element_to M b Hb _).mono ?_
  rintro e w3 ⟨rfl, hC⟩
  refine ⟨_, rfl, ?_⟩
  simp only [Act.put, List.setIfInBounds_toArray, List.set_cons_zero, List.set_cons_succ]
  have xh6 : w3.heap[w.heap.size + 1 + 1]? = some (.cells (zL) 22 (0, 0)) := (heap_call hC xh6)
  have xh7 : w3.heap[w.heap.size + 1 + 1 + 1]? = some (.cells (zL) 22 (0, 0)) := (heap_call hC xh7)
  have hS := hS.call hC
  have hz3 := hC.size
  clear hC
  refine hK.out _ _ hS ?_
  clear hK K
  intro _
  have hSz := hS.size
  refine wpAnyH_ready (rs := [2]) (by kernel_rfl) (by simp) ?_
  refine (AllReadyH.cons rfl ?_ AllReadyH.nil)
  intro K hK
  refine ready_call rfl (some 21) rfl 35 #[.agg (numC b)] (by go_simp) ?_
  refine (octets_any b _).mono ?_
  rintro e w4 ⟨rfl, hC⟩
  refine ⟨_, rfl, ?_⟩
  simp only [Act.put, List.setIfInBounds_toArray, List.set_cons_zero, List.set_cons_succ]
  have xh6 : w4.heap[w.heap.size + 1 + 1]? = some (.cells (zL) 22 (0, 0)) := (heap_call hC xh6)
  have xh7 : w4.heap[w.heap.size + 1 + 1 + 1]? = some (.cells (zL) 22 (0, 0)) := (heap_call hC xh7)
  have hS := hS.call hC
  have hz4 := hC.size
  clear hC
  refine hK.out _ _ hS ?_
  clear hK K
  intro _
  have hSz := hS.size
  refine wpAnyH_ready (rs := [4]) (by kernel_rfl) (by simp) ?_
  refine (AllReadyH.cons rfl ?_ AllReadyH.nil)
  intro K hK
  refine ready_call rfl (some 23) rfl 31 #[.agg (arrC N)] (by go_simp) ?_
  refine (element_to N a Ha _).mono ?_
  rintro e w5 ⟨rfl, hC⟩
  refine ⟨_, rfl, ?_⟩
  simp only [Act.put, List.setIfInBounds_toArray, List.set_cons_zero, List.set_cons_succ]
  have xh6 : w5.heap[w.heap.size + 1 + 1]? = some (.cells (zL) 22 (0, 0)) := (heap_call hC xh6)
  have xh7 : w5.heap[w.heap.size + 1 + 1 + 1]? = some (.cells (zL) 22 (0, 0)) := (heap_call hC xh7)
  have hS := hS.call hC
  have hz5 := hC.size
  clear hC
  refine hK.out _ _ hS ?_
  clear hK K
  intro _
  have hSz := hS.size
  refine wpAnyH_ready (rs := [5]) (by kernel_rfl) (by simp) ?_
  refine (AllReadyH.cons rfl ?_ AllReadyH.nil)
  intro K hK
  refine ready_call rfl (some 24) rfl 35 #[.agg (numC a)] (by go_simp) ?_
  refine (octets_any a _).mono ?_
  rintro e w6 ⟨rfl, hC⟩
  refine ⟨_, rfl, ?_⟩
  simp only [Act.put, List.setIfInBounds_toArray, List.set_cons_zero, List.set_cons_succ]
  have xh6 : w6.heap[w.heap.size + 1 + 1]? = some (.cells (zL) 22 (0, 0)) := (heap_call hC xh6)
  have xh7 : w6.heap[w.heap.size + 1 + 1 + 1]? = some (.cells (zL) 22 (0, 0)) := (heap_call hC xh7)
  have hS := hS.call hC
  have hz6 := hC.size
  clear hC
  refine hK.out _ _ hS ?_
  clear hK K
  intro _
  have hSz := hS.size
  refine wpAnyH_ready (rs := [6]) (by kernel_rfl) (by simp) ?_
  refine (AllReadyH.cons rfl ?_ AllReadyH.nil)
  intro K hK
  rw [if_pos (by rfl)]
  refine wp_store_row 22 _ _ rfl (w.heap.size + 1 + 1) (arrC b) rfl rfl 22 (zL) xh6 (info32_of (arrC b) (arrC_size _)) (zL_size.trans (arrC_size _).symm) (arrC_one _) ?_
  refine put_at (none) rfl ?_
  simp only [Act.put, List.setIfInBounds_toArray, List.set_cons_zero, List.set_cons_succ]
  have xh6 : (w6.setRow (w.heap.size + 1 + 1) (arrC b)).heap[w.heap.size + 1 + 1]? = some (.cells (arrC b) 22 (0, 0)) := (setRow_heap _ _ _ _ _ _ xh6)
  have xh7 : (w6.setRow (w.heap.size + 1 + 1) (arrC b)).heap[w.heap.size + 1 + 1 + 1]? = some (.cells (zL) 22 (0, 0)) := (heap_row _ (by omega) xh7)
  have hS := hS.store (arrC b)
  generalize w6.setRow (w.heap.size + 1 + 1) (arrC b) = w7 at *
  refine hK.out _ _ hS ?_
  clear hK K
  intro _
  have hSz := hS.size
  refine wpAnyH_ready (rs := [7]) (by kernel_rfl) (by simp) ?_
  refine (AllReadyH.cons rfl ?_ AllReadyH.nil)
  intro K hK
  rw [if_pos (by rfl)]
  refine wp_store_row 22 _ _ rfl (w.heap.size + 1 + 1 + 1) (arrC a) rfl rfl 22 (zL) xh7 (info32_of (arrC a) (arrC_size _)) (zL_size.trans (arrC_size _).symm) (arrC_one _) ?_
  refine put_at (none) rfl ?_
  simp only [Act.put, List.setIfInBounds_toArray, List.set_cons_zero, List.set_cons_succ]
  have xh6 : (w7.setRow (w.heap.size + 1 + 1 + 1) (arrC a)).heap[w.heap.size + 1 + 1]? = some (.cells (arrC b) 22 (0, 0)) := (heap_row _ (by omega) xh6)
  have xh7 : (w7.setRow (w.heap.size + 1 + 1 + 1) (arrC a)).heap[w.heap.size + 1 + 1 + 1]? = some (.cells (arrC a) 22 (0, 0)) := (setRow_heap _ _ _ _ _ _ xh7)
  have hS := hS.store' (arrC a)
  generalize w7.setRow (w.heap.size + 1 + 1 + 1) (arrC a) = w8 at *
  refine hK.out _ _ hS ?_
  clear hK K
  intro _
  have hSz := hS.size
  refine wpAnyH_done (by kernel_rfl) ?_ _
  refine NoPanic.normal ?_
  have hsz := hS.size
  have h3 : w8.heap[w.heap.size]? = some (.cells (arrC N) 22 (0, 0)) := hS.old h3 (by omega) (by omega)
  have h4 : w8.heap[w.heap.size + 1]? = some (.cells (arrC M) 22 (0, 0)) := hS.old h4 (by omega) (by omega)
  have h6 := xh6
  have h7 := xh7
  have hBw8 : Hid (Below w.heap.size w w8) := Lib.hid (hBw1.out.trans (hS.below (by omega) (by omega) hBw1.out.size))
  clear hS
  go_wp2
  refine bodyPost_ret (results_row2 rfl _ _ (w.heap.size + 1 + 1) 22 (arrC b) (0, 0) (w.heap.size + 1 + 1 + 1) 22 (arrC a) (0, 0) _ rfl rfl h6 h7 under32 rfl (info32_of (arrC b) (arrC_size _)) (info32_of (arrC a) (arrC_size _))) rfl ⟨by rw [Ha.out, Hb.out], hBw8.out⟩

set_option maxHeartbeats 1000000 in
theorem specSwap_n (N M : Nat) (c : Int) (h0 : (c == 0) = false) (h1 : (c == 1) = false) (w : World) :
    Calls Try.prog 22 #[.agg (arrC N), .agg (arrC M), .int .i64 c] w fun e w' => e = .returned (.tuple #[.agg zL, .agg zL]) ∧ Below w.heap.size w w' := by
  go_enter Try.func22, Try.ntmps22
  go_wp2_with (first
    | ((with_reducible refine at_store 6 ?_); refine wpList_store_row rfl 22 _ _ rfl (w.heap.size + 1 + 1) (zL) rfl rfl 22 (zL) (heap_old _ (heap_new_at _ _ _ (by simp only [alloc_size, setRow_size]))) (info32_of (zL) zL_size) (zL_size.trans zL_size.symm) zL_one ?_)
    | ((with_reducible refine at_store 7 ?_); refine wpList_store_row rfl 22 _ _ rfl (w.heap.size + 1 + 1 + 1) (zL) rfl rfl 22 (zL) (heap_row _ (by omega) (heap_new_at _ _ _ (by simp only [alloc_size, setRow_size]))) (info32_of (zL) zL_size) (zL_size.trans zL_size.symm) zL_one ?_))
  refine bodyPost_ret (results_row2 rfl _ _ (w.heap.size + 1 + 1) 22 (zL) (0, 0) (w.heap.size + 1 + 1 + 1) 22 (zL) (0, 0) _ rfl rfl (heap_row _ (by omega) (setRow_heap _ _ _ _ _ _ (heap_old _ (heap_new_at _ _ _ (by simp only [alloc_size, setRow_size]))))) (setRow_heap _ _ _ _ _ _ (heap_row _ (by omega) (heap_new_at _ _ _ (by simp only [alloc_size, setRow_size])))) under32 rfl (info32_of (zL) zL_size) (info32_of (zL) zL_size)) rfl ⟨rfl, (below_setRow (below_setRow (below_alloc (below_alloc (below_alloc (below_alloc (Below.refl _ w) _) _) _) _) (by omega) _) (by omega) _)⟩

end Go.Proofs.Ytfkodiefldljgaa
