/- The reference's opposite, FieldNegate, FieldZero, FieldOne. -/
import Derived.Test.YtfkodiefldljgaaDoorSB
namespace Go.Proofs.YtfkodiefldljgaaDoor
open Go.RowKit

set_option maxHeartbeats 1000000 in
theorem opposite_to (a R : Nat) (ha : a < pF) (hR : Hid (R = (pF - a) % pF)) (w : World) :
    Calls Tryd.prog 29 #[.agg (numC a)] w fun e w' => e = .returned (.agg (numC R)) ∧ Below w.heap.size w w' := by
  have HR : Hid (R = (0 + (pF - a)) % pF) := Lib.hid (by rw [Nat.zero_add]; exact hR.out)
  clear hR
  go_enter Tryd.func29, Tryd.ntmps29
  go_wp2_with fail
  refine wp_named ?_
  intro w1 ew1
  have hs1 : w.heap.size + 1 + 1 ≤ w1.heap.size := by rw [ew1]; (try simp only [alloc_size, setRow_size]); omega
  have h1 : w1.heap[w.heap.size]? = some (.cells (numC a) 37 (0, 0)) := by rw [ew1]; exact (heap_old _ (heap_new_at _ _ _ rfl))
  have h2 : w1.heap[w.heap.size + 1]? = some (.cells (z4) 37 (0, 0)) := by rw [ew1]; exact (heap_new_at _ _ _ (by simp only [alloc_size, setRow_size]))
  have hBw1 : Hid (Below w.heap.size w w1) := Lib.hid (by rw [ew1]; exact (below_alloc (below_alloc (Below.refl _ w) _) _))
  clear ew1
  refine wp_region_noPanic ?_
  refine wp_region_held_drew (S := Keep (w.heap.size + 1) w1) (by kernel_rfl) (Keep.start _ _) ?_
  intro hS
  obtain ⟨w2, ed⟩ : ∃ u : World, u = w1.drew := ⟨_, rfl⟩
  rw [← ed] at hS ⊢
  have xh1 : w2.heap[w.heap.size]? = some (.cells (numC a) 37 (0, 0)) := by rw [ed]; exact h1
  have xh2 : w2.heap[w.heap.size + 1]? = some (.cells (z4) 37 (0, 0)) := by rw [ed]; exact h2
  clear ed
  have hSz := hS.size
  clear xh1
  refine takeAt (i := 0) (v := .agg (numC 0)) rfl (some 3) rfl (by kernel_rfl) (by kernel_rfl) (by kernel_rfl) (fun _ _ _ h => h) (take_run rfl (fun _ _ => by go_simp; rfl)) hS ?_
  simp only [Act.put, List.setIfInBounds_toArray, List.set_cons_zero, List.set_cons_succ]
  refine takeAt (i := 1) (v := .agg (numC a)) rfl (some 4) rfl (by kernel_rfl) (by kernel_rfl) (by kernel_rfl) (fun _ _ _ h => h) (take_row rfl _ _ rfl (w.heap.size) rfl _ _ _ h1 (by omega) underNum rfl (infoNum_of (numC a) (numC_size _))) hS ?_
  simp only [Act.put, List.setIfInBounds_toArray, List.set_cons_zero, List.set_cons_succ]
  refine wpAnyH_ready (rs := [2]) (by kernel_rfl) (by simp) ?_
  refine (AllReadyH.cons rfl ?_ AllReadyH.nil)
  intro K hK
  refine ready_call rfl (some 5) rfl 37 #[] (by go_simp) ?_
  refine (prime_any _).mono ?_
  rintro e w3 ⟨rfl, hC⟩
  refine ⟨_, rfl, ?_⟩
  simp only [Act.put, List.setIfInBounds_toArray, List.set_cons_zero, List.set_cons_succ]
  have xh2 : w3.heap[w.heap.size + 1]? = some (.cells (z4) 37 (0, 0)) := (heap_call hC xh2)
  have hS := hS.call hC
  have hz3 := hC.size
  clear hC
  refine hK.out _ _ hS ?_
  clear hK K
  intro _
  have hSz := hS.size
  refine wpAnyH_ready (rs := [3]) (by kernel_rfl) (by simp) ?_
  refine (AllReadyH.cons rfl ?_ AllReadyH.nil)
  intro K hK
  refine ready_call rfl (some 6) rfl 36 #[.agg (numC 0), .agg (numC a), .agg (numC pF)] (by go_simp) ?_
  refine (minus_to 0 a pF R HR (by unfold pF; omega) ha (by unfold pF; omega) _).mono ?_
  rintro e w4 ⟨rfl, hC⟩
  refine ⟨_, rfl, ?_⟩
  simp only [Act.put, List.setIfInBounds_toArray, List.set_cons_zero, List.set_cons_succ]
  have xh2 : w4.heap[w.heap.size + 1]? = some (.cells (z4) 37 (0, 0)) := (heap_call hC xh2)
  have hS := hS.call hC
  have hz4 := hC.size
  clear hC
  refine hK.out _ _ hS ?_
  clear hK K
  intro _
  have hSz := hS.size
  refine wpAnyH_ready (rs := [4]) (by kernel_rfl) (by simp) ?_
  refine (AllReadyH.cons rfl ?_ AllReadyH.nil)
  intro K hK
  rw [if_pos (by rfl)]
  refine wp_store_row 37 _ _ rfl (w.heap.size + 1) (numC R) rfl rfl 37 (z4) xh2 (infoNum_of (numC R) (numC_size _)) (z4_size.trans (numC_size _).symm) (numC_one _) ?_
  refine put_at (none) rfl ?_
  simp only [Act.put, List.setIfInBounds_toArray, List.set_cons_zero, List.set_cons_succ]
  have xh2 : (w4.setRow (w.heap.size + 1) (numC R)).heap[w.heap.size + 1]? = some (.cells (numC R) 37 (0, 0)) := (setRow_heap _ _ _ _ _ _ xh2)
  have hS := hS.store (numC R)
  generalize w4.setRow (w.heap.size + 1) (numC R) = w5 at *
  refine hK.out _ _ hS ?_
  clear hK K
  intro _
  have hSz := hS.size
  refine wpAnyH_done (by kernel_rfl) ?_ _
  refine NoPanic.normal ?_
  have hsz := hS.size
  have h1 : w5.heap[w.heap.size]? = some (.cells (numC a) 37 (0, 0)) := hS.old h1 (by omega)
  have h2 := xh2
  have hBw5 : Hid (Below w.heap.size w w5) := Lib.hid (hBw1.out.trans (hS.below (by omega) hBw1.out.size))
  clear hS
  go_wp2
  refine bodyPost_ret (results_cell_row rfl _ _ (w.heap.size + 1) 37 (numC R) (0, 0) _ rfl h2 underNum rfl (infoNum_of (numC R) (numC_size _))) rfl ⟨rfl, hBw5.out⟩

set_option maxHeartbeats 1000000 in
theorem specNegate_any (N R : Nat) (hR : Hid (R = (pF - valN N) % pF)) (w : World) :
    Calls Tryd.prog 18 #[.agg (arrC N)] w fun e w' => e = .returned (.agg (arrC R)) ∧ Below w.heap.size w w' := by
  obtain ⟨a, qa⟩ : ∃ u : Nat, u = valN N := ⟨_, rfl⟩
  have Ha := Lib.hid qa; clear qa
  have la : a < pF := by rw [Ha.out]; exact valN_lt' _
  have HR : Hid (R = (pF - a) % pF) := Lib.hid (by rw [Ha.out]; exact hR.out)
  clear hR
  go_enter Tryd.func18, Tryd.ntmps18
  go_wp2_with (first
    | ((with_reducible refine at_dst 3 ?_); refine wpList_load_row rfl 22 _ rfl (w.heap.size) rfl 22 (arrC N) (0, 0) _ (heap_old _ (heap_new_at _ _ _ rfl)) under32 rfl (info32_of (arrC N) (arrC_size _)) ?_))
  refine (element_to N a Ha _).mono ?_
  rintro e w1 ⟨rfl, hC1⟩
  have hs1 : w.heap.size + 1 + 1 ≤ w1.heap.size := by have := hC1.size; (try simp only [alloc_size, setRow_size] at this); omega
  have h1 : w1.heap[w.heap.size]? = some (.cells (arrC N) 22 (0, 0)) := (heap_call hC1 (heap_old _ (heap_new_at _ _ _ rfl)))
  have h2 : w1.heap[w.heap.size + 1]? = some (.cells (zL) 22 (0, 0)) := (heap_call hC1 (heap_new_at _ _ _ (by simp only [alloc_size, setRow_size])))
  have hBw1 : Hid (Below w.heap.size w w1) := Lib.hid (below_call (below_alloc (below_alloc (Below.refl _ w) _) _) hC1)
  clear hC1
  go_wp2_with fail
  refine (opposite_to a R la HR _).mono ?_
  rintro e w2 ⟨rfl, hC2⟩
  have hs2 : w1.heap.size ≤ w2.heap.size := by have := hC2.size; (try simp only [alloc_size, setRow_size] at this); omega
  have h1 : w2.heap[w.heap.size]? = some (.cells (arrC N) 22 (0, 0)) := (heap_call hC2 h1)
  have h2 : w2.heap[w.heap.size + 1]? = some (.cells (zL) 22 (0, 0)) := (heap_call hC2 h2)
  have hBw2 : Hid (Below w.heap.size w w2) := Lib.hid (below_call hBw1.out hC2)
  clear hC2
  go_wp2_with fail
  refine (octets_any R _).mono ?_
  rintro e w3 ⟨rfl, hC3⟩
  have hs3 : w2.heap.size ≤ w3.heap.size := by have := hC3.size; (try simp only [alloc_size, setRow_size] at this); omega
  have h1 : w3.heap[w.heap.size]? = some (.cells (arrC N) 22 (0, 0)) := (heap_call hC3 h1)
  have h2 : w3.heap[w.heap.size + 1]? = some (.cells (zL) 22 (0, 0)) := (heap_call hC3 h2)
  have hBw3 : Hid (Below w.heap.size w w3) := Lib.hid (below_call hBw2.out hC3)
  clear hC3
  go_wp2_with (first
    | ((with_reducible refine at_store 2 ?_); refine wpList_store_row rfl 22 _ _ rfl (w.heap.size + 1) (arrC R) rfl rfl 22 (zL) h2 (info32_of (arrC R) (arrC_size _)) (zL_size.trans (arrC_size _).symm) (arrC_one _) ?_))
  refine bodyPost_ret (results_cell_row rfl _ _ (w.heap.size + 1) 22 (arrC R) (0, 0) _ rfl (setRow_heap _ _ _ _ _ _ h2) under32 rfl (info32_of (arrC R) (arrC_size _))) rfl ⟨rfl, (below_setRow hBw3.out (by omega) _)⟩

set_option maxHeartbeats 1000000 in
theorem specOne_any (N : Nat) (w : World) :
    Calls Tryd.prog 10 #[.agg (arrC N)] w fun e w' => e = .returned (.agg (arrC 1)) ∧ Below w.heap.size w w' := by
  go_enter Tryd.func10, Tryd.ntmps10
  go_wp2_with fail
  refine (small_any 1 (by omega) _).mono ?_
  rintro e w1 ⟨rfl, hC1⟩
  have hs1 : w.heap.size + 1 + 1 ≤ w1.heap.size := by have := hC1.size; (try simp only [alloc_size, setRow_size] at this); omega
  have h1 : w1.heap[w.heap.size]? = some (.cells (arrC N) 22 (0, 0)) := (heap_call hC1 (heap_old _ (heap_new_at _ _ _ rfl)))
  have h2 : w1.heap[w.heap.size + 1]? = some (.cells (zL) 22 (0, 0)) := (heap_call hC1 (heap_new_at _ _ _ (by simp only [alloc_size, setRow_size])))
  have hBw1 : Hid (Below w.heap.size w w1) := Lib.hid (below_call (below_alloc (below_alloc (Below.refl _ w) _) _) hC1)
  clear hC1
  go_wp2_with fail
  refine (octets_any 1 _).mono ?_
  rintro e w2 ⟨rfl, hC2⟩
  have hs2 : w1.heap.size ≤ w2.heap.size := by have := hC2.size; (try simp only [alloc_size, setRow_size] at this); omega
  have h1 : w2.heap[w.heap.size]? = some (.cells (arrC N) 22 (0, 0)) := (heap_call hC2 h1)
  have h2 : w2.heap[w.heap.size + 1]? = some (.cells (zL) 22 (0, 0)) := (heap_call hC2 h2)
  have hBw2 : Hid (Below w.heap.size w w2) := Lib.hid (below_call hBw1.out hC2)
  clear hC2
  go_wp2_with (first
    | ((with_reducible refine at_store 2 ?_); refine wpList_store_row rfl 22 _ _ rfl (w.heap.size + 1) (arrC 1) rfl rfl 22 (zL) h2 (info32_of (arrC 1) (arrC_size _)) (zL_size.trans (arrC_size _).symm) (arrC_one _) ?_))
  refine bodyPost_ret (results_cell_row rfl _ _ (w.heap.size + 1) 22 (arrC 1) (0, 0) _ rfl (setRow_heap _ _ _ _ _ _ h2) under32 rfl (info32_of (arrC 1) (arrC_size _))) rfl ⟨rfl, (below_setRow hBw2.out (by omega) _)⟩

set_option maxHeartbeats 1000000 in
theorem specZero_any (N : Nat) (w : World) :
    Calls Tryd.prog 8 #[.agg (arrC N)] w fun e w' => e = .returned (.agg (arrC 0)) ∧ Below w.heap.size w w' := by
  go_enter Tryd.func8, Tryd.ntmps8
  go_wp2_with (first
    | ((with_reducible refine at_store 2 ?_); refine wpList_store_row rfl 22 _ _ rfl (w.heap.size + 1) (zL) rfl rfl 22 (zL) (heap_new_at _ _ _ (by simp only [alloc_size, setRow_size])) (info32_of (zL) zL_size) (zL_size.trans zL_size.symm) zL_one ?_))
  refine bodyPost_ret (results_cell_row rfl _ _ (w.heap.size + 1) 22 zL (0, 0) _ rfl (setRow_heap _ _ _ _ _ _ (heap_new_at _ _ _ (by simp only [alloc_size, setRow_size]))) under32 rfl info32) rfl ⟨?_, (below_setRow (below_alloc (below_alloc (Below.refl _ w) _) _) (by omega) _)⟩
  rw [zL_arrC]

end Go.Proofs.YtfkodiefldljgaaDoor
