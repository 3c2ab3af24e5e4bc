/- The thin package's FieldSwap. -/
import Derived.Test.YtfkodiefldljgaaUSW
import Derived.Test.YtfkodiefldljgaaK1
namespace Go.Proofs.Ytfkodiefldljgaa
open Go.RowKit

set_option maxHeartbeats 1000000 in
theorem FieldSwap_0 (N M : Nat) (w : World) :
    Calls Try.prog 21 #[.agg (arrC N), .agg (arrC M), .int .i64 0] w fun e w' => e = .returned (.tuple #[.agg (arrC (valN N)), .agg (arrC (valN M))]) ∧ Below w.heap.size w w' := by
  go_enter Try.func21, Try.ntmps21
  go_wp2_with fail
  refine wp_named ?_
  intro w1 ew1
  have hs1 : w.heap.size + 1 + 1 + 1 + 1 ≤ w1.heap.size := by rw [ew1]; (try simp only [alloc_size, setRow_size]); omega
  replace h3 : w1.heap[w.heap.size]? = some (.cells (arrC N) 22 (0, 0)) := by rw [ew1]; exact (heap_old _ (heap_old _ (heap_old _ (heap_new_at _ _ _ rfl))))
  replace h4 : w1.heap[w.heap.size + 1]? = some (.cells (arrC M) 22 (0, 0)) := by rw [ew1]; exact (heap_old _ (heap_old _ (heap_new_at _ _ _ (by simp only [alloc_size, setRow_size]))))
  replace h6 : w1.heap[w.heap.size + 1 + 1]? = some (.cells (zL) 22 (0, 0)) := by rw [ew1]; exact (heap_old _ (heap_new_at _ _ _ (by simp only [alloc_size, setRow_size])))
  replace h7 : w1.heap[w.heap.size + 1 + 1 + 1]? = some (.cells (zL) 22 (0, 0)) := by rw [ew1]; exact (heap_new_at _ _ _ (by simp only [alloc_size, setRow_size]))
  have hBw1 : Hid (Below w.heap.size w w1) := Lib.hid (by rw [ew1]; exact (below_alloc (below_alloc (below_alloc (below_alloc (Below.refl _ w) _) _) _) _))
  clear ew1
  refine wp_region_noPanic ?_
  refine wp_region_held_drew (S := Keep (w1.heap.size) w1) (by kernel_rfl) (Keep.start _ _) ?_
  intro hS
  obtain ⟨w2, ed⟩ : ∃ u : World, u = w1.drew := ⟨_, rfl⟩
  rw [← ed] at hS ⊢
  have xh3 : w2.heap[w.heap.size]? = some (.cells (arrC N) 22 (0, 0)) := by rw [ed]; exact h3
  have xh4 : w2.heap[w.heap.size + 1]? = some (.cells (arrC M) 22 (0, 0)) := by rw [ed]; exact h4
  have xh6 : w2.heap[w.heap.size + 1 + 1]? = some (.cells (zL) 22 (0, 0)) := by rw [ed]; exact h6
  have xh7 : w2.heap[w.heap.size + 1 + 1 + 1]? = some (.cells (zL) 22 (0, 0)) := by rw [ed]; exact h7
  clear ed
  have hSz := hS.size
  clear xh3
  clear xh4
  clear xh6
  clear xh7
  refine takeAt (i := 0) (v := .agg (arrC N)) rfl (some 18) rfl (by kernel_rfl) (by kernel_rfl) (by kernel_rfl) (fun _ _ _ h => h) (take_row rfl _ _ rfl (w.heap.size) rfl _ _ _ h3 (Nat.ne_of_lt (heap_lt h3)) under32 rfl (info32_of (arrC N) (arrC_size _))) hS ?_
  simp only [Act.put, List.setIfInBounds_toArray, List.set_cons_zero, List.set_cons_succ]
  refine takeAt (i := 2) (v := .agg (arrC M)) rfl (some 20) rfl (by kernel_rfl) (by kernel_rfl) (by kernel_rfl) (fun _ _ _ h => h) (take_row rfl _ _ rfl (w.heap.size + 1) rfl _ _ _ h4 (Nat.ne_of_lt (heap_lt h4)) under32 rfl (info32_of (arrC M) (arrC_size _))) hS ?_
  simp only [Act.put, List.setIfInBounds_toArray, List.set_cons_zero, List.set_cons_succ]
  refine wpAnyH_ready (rs := [1]) (by kernel_rfl) (by simp) ?_
  refine (AllReadyH.cons rfl ?_ AllReadyH.nil)
  intro K hK
  refine ready_call rfl (some 19) rfl 28 #[.agg (arrC N)] (by go_simp) ?_
  refine (elementOf_fe N _).mono ?_
  rintro e w3 ⟨b1, rfl, hlb1, hC, xhf1⟩
  refine ⟨_, rfl, ?_⟩
  simp only [Act.put, List.setIfInBounds_toArray, List.set_cons_zero, List.set_cons_succ]
  have hS := hS.call hC
  have hz3 := hC.size
  clear hC
  have hlb1 : w2.heap.size ≤ b1 := by (try simp only [alloc_size, setRow_size] at hlb1); omega
  have hub1 := xhf1.lt
  refine hK.out _ _ hS ?_
  clear hK K
  intro _
  have hSz := hS.size
  refine wpAnyH_ready (rs := [3]) (by kernel_rfl) (by simp) ?_
  refine (AllReadyH.cons rfl ?_ AllReadyH.nil)
  intro K hK
  refine ready_call rfl (some 21) rfl 28 #[.agg (arrC M)] (by go_simp) ?_
  refine (elementOf_fe M _).mono ?_
  rintro e w4 ⟨b2, rfl, hlb2, hC, xhf2⟩
  refine ⟨_, rfl, ?_⟩
  simp only [Act.put, List.setIfInBounds_toArray, List.set_cons_zero, List.set_cons_succ]
  have xhf1 : Fe w4 (b1) (0) ((valN N)) := (Fe.below_all xhf1 hC)
  have hS := hS.call hC
  have hz4 := hC.size
  clear hC
  have hlb2 : w3.heap.size ≤ b2 := by (try simp only [alloc_size, setRow_size] at hlb2); omega
  have hub2 := xhf2.lt
  refine hK.out _ _ hS ?_
  clear hK K
  intro _
  have hSz := hS.size
  refine takeAt (i := 4) (v := .pointer (some ⟨b1, 0, none⟩)) rfl (some 8) rfl (by kernel_rfl) (by kernel_rfl) (by kernel_rfl) (fun _ _ _ h => h) (take_run rfl (fun _ _ => by go_simp)) hS ?_
  simp only [Act.put, List.setIfInBounds_toArray, List.set_cons_zero, List.set_cons_succ]
  refine takeAt (i := 5) (v := .pointer (some ⟨b2, 0, none⟩)) rfl (some 9) rfl (by kernel_rfl) (by kernel_rfl) (by kernel_rfl) (fun _ _ _ h => h) (take_run rfl (fun _ _ => by go_simp)) hS ?_
  simp only [Act.put, List.setIfInBounds_toArray, List.set_cons_zero, List.set_cons_succ]
  refine wpAnyH_done (by kernel_rfl) ?_ _
  refine NoPanic.normal ?_
  have hsz := hS.size
  have h3 : w4.heap[w.heap.size]? = some (.cells (arrC N) 22 (0, 0)) := hS.old h3 (Nat.ne_of_lt (heap_lt h3))
  have h4 : w4.heap[w.heap.size + 1]? = some (.cells (arrC M) 22 (0, 0)) := hS.old h4 (Nat.ne_of_lt (heap_lt h4))
  have h6 : w4.heap[w.heap.size + 1 + 1]? = some (.cells (zL) 22 (0, 0)) := hS.old h6 (Nat.ne_of_lt (heap_lt h6))
  have h7 : w4.heap[w.heap.size + 1 + 1 + 1]? = some (.cells (zL) 22 (0, 0)) := hS.old h7 (Nat.ne_of_lt (heap_lt h7))
  have hf1 := xhf1
  have hf2 := xhf2
  have hBw4 : Hid (Below w.heap.size w w4) := Lib.hid (hBw1.out.trans (hS.below (by omega) hBw1.out.size))
  clear hS
  go_wp2_with fail
  refine (swap_fe0 b1 0 b2 0 _ _ (by omega) _ hf1 hf2).mono ?_
  rintro e w6 ⟨rfl, y1, y2, hT⟩
  have hs6 : w4.heap.size ≤ w6.heap.size := by have := hT.size; (try simp only [alloc_size, setRow_size] at this); omega
  replace hf1 := y1
  replace hf2 := y2
  replace h3 : w6.heap[w.heap.size]? = some (.cells (arrC N) 22 (0, 0)) := Two.other hT h3 (by omega) (by omega)
  replace h4 : w6.heap[w.heap.size + 1]? = some (.cells (arrC M) 22 (0, 0)) := Two.other hT h4 (by omega) (by omega)
  replace h6 : w6.heap[w.heap.size + 1 + 1]? = some (.cells (zL) 22 (0, 0)) := Two.other hT h6 (by omega) (by omega)
  replace h7 : w6.heap[w.heap.size + 1 + 1 + 1]? = some (.cells (zL) 22 (0, 0)) := Two.other hT h7 (by omega) (by omega)
  have hBw6 : Hid (Below w.heap.size w w6) := Lib.hid (hBw4.out.trans (hT.below (by omega) (by omega)))
  clear hT
  go_wp2_with fail
  refine (elementBytes_fe b1 0 _ _ hf1).mono ?_
  rintro e w7 ⟨rfl, hC7⟩
  have hs7 : w6.heap.size ≤ w7.heap.size := by have := hC7.size; (try simp only [alloc_size, setRow_size] at this); omega
  replace hf1 : Fe w7 (b1) (0) ((valN N)) := (Fe.below_all hf1 hC7)
  replace hf2 : Fe w7 (b2) (0) ((valN M)) := (Fe.below_all hf2 hC7)
  replace h3 : w7.heap[w.heap.size]? = some (.cells (arrC N) 22 (0, 0)) := (heap_call hC7 h3)
  replace h4 : w7.heap[w.heap.size + 1]? = some (.cells (arrC M) 22 (0, 0)) := (heap_call hC7 h4)
  replace h6 : w7.heap[w.heap.size + 1 + 1]? = some (.cells (zL) 22 (0, 0)) := (heap_call hC7 h6)
  replace h7 : w7.heap[w.heap.size + 1 + 1 + 1]? = some (.cells (zL) 22 (0, 0)) := (heap_call hC7 h7)
  have hBw7 : Hid (Below w.heap.size w w7) := Lib.hid (below_call hBw6.out hC7)
  clear hC7
  go_wp2_with fail
  refine (elementBytes_fe b2 0 _ _ hf2).mono ?_
  rintro e w8 ⟨rfl, hC8⟩
  have hs8 : w7.heap.size ≤ w8.heap.size := by have := hC8.size; (try simp only [alloc_size, setRow_size] at this); omega
  replace hf1 : Fe w8 (b1) (0) ((valN N)) := (Fe.below_all hf1 hC8)
  replace hf2 : Fe w8 (b2) (0) ((valN M)) := (Fe.below_all hf2 hC8)
  replace h3 : w8.heap[w.heap.size]? = some (.cells (arrC N) 22 (0, 0)) := (heap_call hC8 h3)
  replace h4 : w8.heap[w.heap.size + 1]? = some (.cells (arrC M) 22 (0, 0)) := (heap_call hC8 h4)
  replace h6 : w8.heap[w.heap.size + 1 + 1]? = some (.cells (zL) 22 (0, 0)) := (heap_call hC8 h6)
  replace h7 : w8.heap[w.heap.size + 1 + 1 + 1]? = some (.cells (zL) 22 (0, 0)) := (heap_call hC8 h7)
  have hBw8 : Hid (Below w.heap.size w w8) := Lib.hid (below_call hBw7.out hC8)
  clear hC8
  go_wp2_with (first
    | ((with_reducible refine at_store 6 ?_); refine wpList_store_row rfl 22 _ _ rfl (w.heap.size + 1 + 1) (arrC (valN N)) rfl rfl 22 (zL) h6 (info32_of (arrC (valN N)) (arrC_size _)) (zL_size.trans (arrC_size _).symm) (arrC_one _) ?_)
    | ((with_reducible refine at_store 7 ?_); refine wpList_store_row rfl 22 _ _ rfl (w.heap.size + 1 + 1 + 1) (arrC (valN M)) rfl rfl 22 (zL) (heap_row _ (by omega) h7) (info32_of (arrC (valN M)) (arrC_size _)) (zL_size.trans (arrC_size _).symm) (arrC_one _) ?_))
  refine bodyPost_ret (results_row2 rfl _ _ (w.heap.size + 1 + 1) 22 (arrC (valN N)) (0, 0) (w.heap.size + 1 + 1 + 1) 22 (arrC (valN M)) (0, 0) _ rfl rfl (heap_row _ (by omega) (setRow_heap _ _ _ _ _ _ h6)) (setRow_heap _ _ _ _ _ _ (heap_row _ (by omega) h7)) under32 rfl (info32_of (arrC (valN N)) (arrC_size _)) (info32_of (arrC (valN M)) (arrC_size _))) rfl ⟨rfl, (below_setRow (below_setRow hBw8.out (by omega) _) (by omega) _)⟩

set_option maxHeartbeats 1000000 in
theorem FieldSwap_1 (N M : Nat) (w : World) :
    Calls Try.prog 21 #[.agg (arrC N), .agg (arrC M), .int .i64 1] w fun e w' => e = .returned (.tuple #[.agg (arrC (valN M)), .agg (arrC (valN N))]) ∧ Below w.heap.size w w' := by
  go_enter Try.func21, Try.ntmps21
  go_wp2_with fail
  refine wp_named ?_
  intro w1 ew1
  have hs1 : w.heap.size + 1 + 1 + 1 + 1 ≤ w1.heap.size := by rw [ew1]; (try simp only [alloc_size, setRow_size]); omega
  replace h3 : w1.heap[w.heap.size]? = some (.cells (arrC N) 22 (0, 0)) := by rw [ew1]; exact (heap_old _ (heap_old _ (heap_old _ (heap_new_at _ _ _ rfl))))
  replace h4 : w1.heap[w.heap.size + 1]? = some (.cells (arrC M) 22 (0, 0)) := by rw [ew1]; exact (heap_old _ (heap_old _ (heap_new_at _ _ _ (by simp only [alloc_size, setRow_size]))))
  replace h6 : w1.heap[w.heap.size + 1 + 1]? = some (.cells (zL) 22 (0, 0)) := by rw [ew1]; exact (heap_old _ (heap_new_at _ _ _ (by simp only [alloc_size, setRow_size])))
  replace h7 : w1.heap[w.heap.size + 1 + 1 + 1]? = some (.cells (zL) 22 (0, 0)) := by rw [ew1]; exact (heap_new_at _ _ _ (by simp only [alloc_size, setRow_size]))
  have hBw1 : Hid (Below w.heap.size w w1) := Lib.hid (by rw [ew1]; exact (below_alloc (below_alloc (below_alloc (below_alloc (Below.refl _ w) _) _) _) _))
  clear ew1
  refine wp_region_noPanic ?_
  refine wp_region_held_drew (S := Keep (w1.heap.size) w1) (by kernel_rfl) (Keep.start _ _) ?_
  intro hS
  obtain ⟨w2, ed⟩ : ∃ u : World, u = w1.drew := ⟨_, rfl⟩
  rw [← ed] at hS ⊢
  have xh3 : w2.heap[w.heap.size]? = some (.cells (arrC N) 22 (0, 0)) := by rw [ed]; exact h3
  have xh4 : w2.heap[w.heap.size + 1]? = some (.cells (arrC M) 22 (0, 0)) := by rw [ed]; exact h4
  have xh6 : w2.heap[w.heap.size + 1 + 1]? = some (.cells (zL) 22 (0, 0)) := by rw [ed]; exact h6
  have xh7 : w2.heap[w.heap.size + 1 + 1 + 1]? = some (.cells (zL) 22 (0, 0)) := by rw [ed]; exact h7
  clear ed
  have hSz := hS.size
  clear xh3
  clear xh4
  clear xh6
  clear xh7
  refine takeAt (i := 0) (v := .agg (arrC N)) rfl (some 18) rfl (by kernel_rfl) (by kernel_rfl) (by kernel_rfl) (fun _ _ _ h => h) (take_row rfl _ _ rfl (w.heap.size) rfl _ _ _ h3 (Nat.ne_of_lt (heap_lt h3)) under32 rfl (info32_of (arrC N) (arrC_size _))) hS ?_
  simp only [Act.put, List.setIfInBounds_toArray, List.set_cons_zero, List.set_cons_succ]
  refine takeAt (i := 2) (v := .agg (arrC M)) rfl (some 20) rfl (by kernel_rfl) (by kernel_rfl) (by kernel_rfl) (fun _ _ _ h => h) (take_row rfl _ _ rfl (w.heap.size + 1) rfl _ _ _ h4 (Nat.ne_of_lt (heap_lt h4)) under32 rfl (info32_of (arrC M) (arrC_size _))) hS ?_
  simp only [Act.put, List.setIfInBounds_toArray, List.set_cons_zero, List.set_cons_succ]
  refine wpAnyH_ready (rs := [1]) (by kernel_rfl) (by simp) ?_
  refine (AllReadyH.cons rfl ?_ AllReadyH.nil)
  intro K hK
  refine ready_call rfl (some 19) rfl 28 #[.agg (arrC N)] (by go_simp) ?_
  refine (elementOf_fe N _).mono ?_
  rintro e w3 ⟨b1, rfl, hlb1, hC, xhf1⟩
  refine ⟨_, rfl, ?_⟩
  simp only [Act.put, List.setIfInBounds_toArray, List.set_cons_zero, List.set_cons_succ]
  have hS := hS.call hC
  have hz3 := hC.size
  clear hC
  have hlb1 : w2.heap.size ≤ b1 := by (try simp only [alloc_size, setRow_size] at hlb1); omega
  have hub1 := xhf1.lt
  refine hK.out _ _ hS ?_
  clear hK K
  intro _
  have hSz := hS.size
  refine wpAnyH_ready (rs := [3]) (by kernel_rfl) (by simp) ?_
  refine (AllReadyH.cons rfl ?_ AllReadyH.nil)
  intro K hK
  refine ready_call rfl (some 21) rfl 28 #[.agg (arrC M)] (by go_simp) ?_
  refine (elementOf_fe M _).mono ?_
  rintro e w4 ⟨b2, rfl, hlb2, hC, xhf2⟩
  refine ⟨_, rfl, ?_⟩
  simp only [Act.put, List.setIfInBounds_toArray, List.set_cons_zero, List.set_cons_succ]
  have xhf1 : Fe w4 (b1) (0) ((valN N)) := (Fe.below_all xhf1 hC)
  have hS := hS.call hC
  have hz4 := hC.size
  clear hC
  have hlb2 : w3.heap.size ≤ b2 := by (try simp only [alloc_size, setRow_size] at hlb2); omega
  have hub2 := xhf2.lt
  refine hK.out _ _ hS ?_
  clear hK K
  intro _
  have hSz := hS.size
  refine takeAt (i := 4) (v := .pointer (some ⟨b1, 0, none⟩)) rfl (some 8) rfl (by kernel_rfl) (by kernel_rfl) (by kernel_rfl) (fun _ _ _ h => h) (take_run rfl (fun _ _ => by go_simp)) hS ?_
  simp only [Act.put, List.setIfInBounds_toArray, List.set_cons_zero, List.set_cons_succ]
  refine takeAt (i := 5) (v := .pointer (some ⟨b2, 0, none⟩)) rfl (some 9) rfl (by kernel_rfl) (by kernel_rfl) (by kernel_rfl) (fun _ _ _ h => h) (take_run rfl (fun _ _ => by go_simp)) hS ?_
  simp only [Act.put, List.setIfInBounds_toArray, List.set_cons_zero, List.set_cons_succ]
  refine wpAnyH_done (by kernel_rfl) ?_ _
  refine NoPanic.normal ?_
  have hsz := hS.size
  have h3 : w4.heap[w.heap.size]? = some (.cells (arrC N) 22 (0, 0)) := hS.old h3 (Nat.ne_of_lt (heap_lt h3))
  have h4 : w4.heap[w.heap.size + 1]? = some (.cells (arrC M) 22 (0, 0)) := hS.old h4 (Nat.ne_of_lt (heap_lt h4))
  have h6 : w4.heap[w.heap.size + 1 + 1]? = some (.cells (zL) 22 (0, 0)) := hS.old h6 (Nat.ne_of_lt (heap_lt h6))
  have h7 : w4.heap[w.heap.size + 1 + 1 + 1]? = some (.cells (zL) 22 (0, 0)) := hS.old h7 (Nat.ne_of_lt (heap_lt h7))
  have hf1 := xhf1
  have hf2 := xhf2
  have hBw4 : Hid (Below w.heap.size w w4) := Lib.hid (hBw1.out.trans (hS.below (by omega) hBw1.out.size))
  clear hS
  go_wp2_with fail
  refine (swap_fe1 b1 0 b2 0 _ _ (by omega) _ hf1 hf2).mono ?_
  rintro e w6 ⟨rfl, y1, y2, hT⟩
  have hs6 : w4.heap.size ≤ w6.heap.size := by have := hT.size; (try simp only [alloc_size, setRow_size] at this); omega
  replace hf1 := y1
  replace hf2 := y2
  replace h3 : w6.heap[w.heap.size]? = some (.cells (arrC N) 22 (0, 0)) := Two.other hT h3 (by omega) (by omega)
  replace h4 : w6.heap[w.heap.size + 1]? = some (.cells (arrC M) 22 (0, 0)) := Two.other hT h4 (by omega) (by omega)
  replace h6 : w6.heap[w.heap.size + 1 + 1]? = some (.cells (zL) 22 (0, 0)) := Two.other hT h6 (by omega) (by omega)
  replace h7 : w6.heap[w.heap.size + 1 + 1 + 1]? = some (.cells (zL) 22 (0, 0)) := Two.other hT h7 (by omega) (by omega)
  have hBw6 : Hid (Below w.heap.size w w6) := Lib.hid (hBw4.out.trans (hT.below (by omega) (by omega)))
  clear hT
  go_wp2_with fail
  refine (elementBytes_fe b1 0 _ _ hf1).mono ?_
  rintro e w7 ⟨rfl, hC7⟩
  have hs7 : w6.heap.size ≤ w7.heap.size := by have := hC7.size; (try simp only [alloc_size, setRow_size] at this); omega
  replace hf1 : Fe w7 (b1) (0) ((valN M)) := (Fe.below_all hf1 hC7)
  replace hf2 : Fe w7 (b2) (0) ((valN N)) := (Fe.below_all hf2 hC7)
  replace h3 : w7.heap[w.heap.size]? = some (.cells (arrC N) 22 (0, 0)) := (heap_call hC7 h3)
  replace h4 : w7.heap[w.heap.size + 1]? = some (.cells (arrC M) 22 (0, 0)) := (heap_call hC7 h4)
  replace h6 : w7.heap[w.heap.size + 1 + 1]? = some (.cells (zL) 22 (0, 0)) := (heap_call hC7 h6)
  replace h7 : w7.heap[w.heap.size + 1 + 1 + 1]? = some (.cells (zL) 22 (0, 0)) := (heap_call hC7 h7)
  have hBw7 : Hid (Below w.heap.size w w7) := Lib.hid (below_call hBw6.out hC7)
  clear hC7
  go_wp2_with fail
  refine (elementBytes_fe b2 0 _ _ hf2).mono ?_
  rintro e w8 ⟨rfl, hC8⟩
  have hs8 : w7.heap.size ≤ w8.heap.size := by have := hC8.size; (try simp only [alloc_size, setRow_size] at this); omega
  replace hf1 : Fe w8 (b1) (0) ((valN M)) := (Fe.below_all hf1 hC8)
  replace hf2 : Fe w8 (b2) (0) ((valN N)) := (Fe.below_all hf2 hC8)
  replace h3 : w8.heap[w.heap.size]? = some (.cells (arrC N) 22 (0, 0)) := (heap_call hC8 h3)
  replace h4 : w8.heap[w.heap.size + 1]? = some (.cells (arrC M) 22 (0, 0)) := (heap_call hC8 h4)
  replace h6 : w8.heap[w.heap.size + 1 + 1]? = some (.cells (zL) 22 (0, 0)) := (heap_call hC8 h6)
  replace h7 : w8.heap[w.heap.size + 1 + 1 + 1]? = some (.cells (zL) 22 (0, 0)) := (heap_call hC8 h7)
  have hBw8 : Hid (Below w.heap.size w w8) := Lib.hid (below_call hBw7.out hC8)
  clear hC8
  go_wp2_with (first
    | ((with_reducible refine at_store 6 ?_); refine wpList_store_row rfl 22 _ _ rfl (w.heap.size + 1 + 1) (arrC (valN M)) rfl rfl 22 (zL) h6 (info32_of (arrC (valN M)) (arrC_size _)) (zL_size.trans (arrC_size _).symm) (arrC_one _) ?_)
    | ((with_reducible refine at_store 7 ?_); refine wpList_store_row rfl 22 _ _ rfl (w.heap.size + 1 + 1 + 1) (arrC (valN N)) rfl rfl 22 (zL) (heap_row _ (by omega) h7) (info32_of (arrC (valN N)) (arrC_size _)) (zL_size.trans (arrC_size _).symm) (arrC_one _) ?_))
  refine bodyPost_ret (results_row2 rfl _ _ (w.heap.size + 1 + 1) 22 (arrC (valN M)) (0, 0) (w.heap.size + 1 + 1 + 1) 22 (arrC (valN N)) (0, 0) _ rfl rfl (heap_row _ (by omega) (setRow_heap _ _ _ _ _ _ h6)) (setRow_heap _ _ _ _ _ _ (heap_row _ (by omega) h7)) under32 rfl (info32_of (arrC (valN M)) (arrC_size _)) (info32_of (arrC (valN N)) (arrC_size _))) rfl ⟨rfl, (below_setRow (below_setRow hBw8.out (by omega) _) (by omega) _)⟩

set_option maxHeartbeats 1000000 in
theorem FieldSwap_n (N M : Nat) (c : Int) (h0 : (c != 0) = true) (h1 : (c != 1) = true) (w : World) :
    Calls Try.prog 21 #[.agg (arrC N), .agg (arrC M), .int .i64 c] w fun e w' => e = .returned (.tuple #[.agg zL, .agg zL]) ∧ Below w.heap.size w w' := by
  go_enter Try.func21, Try.ntmps21
  go_wp2_with (first
    | ((with_reducible refine at_store 6 ?_); refine wpList_store_row rfl 22 _ _ rfl (w.heap.size + 1 + 1) (zL) rfl rfl 22 (zL) (heap_old _ (heap_new_at _ _ _ (by simp only [alloc_size, setRow_size]))) (info32_of (zL) zL_size) (zL_size.trans zL_size.symm) zL_one ?_)
    | ((with_reducible refine at_store 7 ?_); refine wpList_store_row rfl 22 _ _ rfl (w.heap.size + 1 + 1 + 1) (zL) rfl rfl 22 (zL) (heap_row _ (by omega) (heap_new_at _ _ _ (by simp only [alloc_size, setRow_size]))) (info32_of (zL) zL_size) (zL_size.trans zL_size.symm) zL_one ?_))
  refine bodyPost_ret (results_row2 rfl _ _ (w.heap.size + 1 + 1) 22 (zL) (0, 0) (w.heap.size + 1 + 1 + 1) 22 (zL) (0, 0) _ rfl rfl (heap_row _ (by omega) (setRow_heap _ _ _ _ _ _ (heap_old _ (heap_new_at _ _ _ (by simp only [alloc_size, setRow_size]))))) (setRow_heap _ _ _ _ _ _ (heap_row _ (by omega) (heap_new_at _ _ _ (by simp only [alloc_size, setRow_size])))) under32 rfl (info32_of (zL) zL_size) (info32_of (zL) zL_size)) rfl ⟨rfl, (below_setRow (below_setRow (below_alloc (below_alloc (below_alloc (below_alloc (Below.refl _ w) _) _) _) _) (by omega) _) (by omega) _)⟩

end Go.Proofs.Ytfkodiefldljgaa
