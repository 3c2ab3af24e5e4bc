/- The thin package's FieldSetBytes (of 32 bytes) and FieldEqual. -/
import Derived.Test.YtkecocibfmhdpaaK0
import Derived.Test.YtkecocibfmhdpaaF8
import Derived.Test.YtkecocibfmhdpaaF9
set_option linter.unusedSimpArgs false
set_option linter.unusedVariables false
namespace Go.Proofs.Ytkecocibfmhdpaa
open Go.RowKit

set_option maxHeartbeats 1000000 in
theorem FieldSetBytes_any (N M b cap : Nat) (hcap : 32 ≤ cap) (w : World) (hx : Row w b 0 32 (byV M)) :
    Calls Try.prog 10 #[.agg (arrC N), .slice (some ⟨b, 0, none⟩) 32 cap] w fun e w' => e = .returned (.tuple #[.agg (arrC (valN M)), .bool true]) ∧ Below w.heap.size w w' := by
  have hbl := hx.lt
  go_enter Try.func10, Try.ntmps10
  go_wp2_with (first
    | ((with_reducible refine at_dst 9 ?_); refine wpList_load_row rfl 22 _ rfl (w.heap.size) rfl 22 (arrC N) (0, 0) _ (heap_old _ (heap_new_at _ _ _ rfl)) under32 rfl (info32_of (arrC N) (arrC_size _)) ?_))
  refine (elementOf_fe N _).mono ?_
  rintro e w1 ⟨b1, rfl, hlb1, hC1, hf1⟩
  have hs1 : w.heap.size + 1 + 1 ≤ w1.heap.size := by have := hC1.size; (try simp only [alloc_size, setRow_size] at this); omega
  replace hx : Row w1 (b) (0) 32 (byV M) := (Row.below_all (Row.alloc (Row.alloc hx _) _) hC1)
  replace h2 : w1.heap[w.heap.size]? = some (.cells (arrC N) 22 (0, 0)) := (heap_call hC1 (heap_old _ (heap_new_at _ _ _ rfl)))
  replace h4 : w1.heap[w.heap.size + 1]? = some (.cells (zL) 22 (0, 0)) := (heap_call hC1 (heap_new_at _ _ _ (by simp only [alloc_size, setRow_size])))
  have hBw1 : Hid (Below w.heap.size w w1) := Lib.hid (below_call (below_alloc (below_alloc (Below.refl _ w) _) _) hC1)
  clear hC1
  have hlb1 : w.heap.size + 1 + 1 ≤ b1 := by (try simp only [alloc_size, setRow_size] at hlb1); omega
  go_wp2_with fail
  refine (setBytes_fe b1 0 b 0 M cap _ _ hf1 hx hcap (by omega)).mono ?_
  rintro e w2 ⟨rfl, hC2⟩
  have hs2 : w1.heap.size ≤ w2.heap.size := by have := hC2.size; (try simp only [alloc_size, setRow_size] at this); omega
  replace hx : Row w2 (b) (0) 32 (byV M) := (Sets.rows hC2 hx (by omega))
  replace h2 : w2.heap[w.heap.size]? = some (.cells (arrC N) 22 (0, 0)) := ((Sets.block hC2 _ (heap_lt h2) (by omega)).trans h2)
  replace h4 : w2.heap[w.heap.size + 1]? = some (.cells (zL) 22 (0, 0)) := ((Sets.block hC2 _ (heap_lt h4) (by omega)).trans h4)
  replace hf1 : Fe w2 (b1) (0) ((valN M)) := (Sets.fe' hC2 hf1)
  have hBw2 : Hid (Below w.heap.size w w2) := Lib.hid (hBw1.out.trans (hC2.below (by omega) hBw1.out.size))
  clear hC2
  go_wp2_with fail
  refine wp_named ?_
  intro w3 ew3
  have hs3 : w2.heap.size ≤ w3.heap.size := by rw [ew3]; (try simp only [alloc_size, setRow_size]); omega
  replace hx : Row w3 (b) (0) 32 (byV M) := by rw [ew3]; exact hx
  replace h2 : w3.heap[w.heap.size]? = some (.cells (arrC N) 22 (0, 0)) := by rw [ew3]; exact h2
  replace h4 : w3.heap[w.heap.size + 1]? = some (.cells (zL) 22 (0, 0)) := by rw [ew3]; exact h4
  replace hf1 : Fe w3 (b1) (0) ((valN M)) := by rw [ew3]; exact hf1
  have hBw3 : Hid (Below w.heap.size w w3) := Lib.hid (by rw [ew3]; exact hBw2.out)
  clear ew3
  refine wp_region_noPanic ?_
  refine wp_region_held_drew (S := Keep (w.heap.size + 1) w3) (by kernel_rfl) (Keep.start _ _) ?_
  intro hS
  obtain ⟨w4, ed⟩ : ∃ u : World, u = w3.drew := ⟨_, rfl⟩
  rw [← ed] at hS ⊢
  have xhx : Row w4 (b) (0) 32 (byV M) := by rw [ed]; exact hx
  have xh2 : w4.heap[w.heap.size]? = some (.cells (arrC N) 22 (0, 0)) := by rw [ed]; exact h2
  have xh4 : w4.heap[w.heap.size + 1]? = some (.cells (zL) 22 (0, 0)) := by rw [ed]; exact h4
  have xhf1 : Fe w4 (b1) (0) ((valN M)) := by rw [ed]; exact hf1
  clear ed
  have hSz := hS.size
  clear xh2
  refine takeAt (i := 0) (v := .pointer (some ⟨b1, 0, none⟩)) rfl (some 17) rfl (by kernel_rfl) (by kernel_rfl) (by kernel_rfl) (fun _ _ _ h => h) (take_run rfl (fun _ _ => by go_simp)) hS ?_
  simp only [Act.put, List.setIfInBounds_toArray, List.set_cons_zero, List.set_cons_succ]
  refine takeAt (i := 2) (v := .nilIface) rfl (some 19) rfl (by kernel_rfl) (by kernel_rfl) (by kernel_rfl) (fun _ _ _ h => h) (take_run rfl (fun _ _ => by go_simp)) hS ?_
  simp only [Act.put, List.setIfInBounds_toArray, List.set_cons_zero, List.set_cons_succ]
  refine takeAt (i := 3) (v := .bool true) rfl (some 20) rfl (by kernel_rfl) (by kernel_rfl) (by kernel_rfl) (fun _ _ _ h => h) (take_run rfl (fun _ _ => by go_simp)) hS ?_
  simp only [Act.put, List.setIfInBounds_toArray, List.set_cons_zero, List.set_cons_succ]
  refine wpAnyH_ready (rs := [1]) (by kernel_rfl) (by simp) ?_
  refine (AllReadyH.cons rfl ?_ AllReadyH.nil)
  intro K hK
  refine ready_call rfl (some 18) rfl 25 #[.pointer (some ⟨b1, 0, none⟩)] (by go_simp) ?_
  refine (elementBytes_fe b1 0 _ _ xhf1).mono ?_
  rintro e w5 ⟨rfl, hC⟩
  refine ⟨_, rfl, ?_⟩
  simp only [Act.put, List.setIfInBounds_toArray, List.set_cons_zero, List.set_cons_succ]
  have xhx : Row w5 (b) (0) 32 (byV M) := (Row.below_all xhx hC)
  have xh4 : w5.heap[w.heap.size + 1]? = some (.cells (zL) 22 (0, 0)) := (heap_call hC xh4)
  have xhf1 : Fe w5 (b1) (0) ((valN M)) := (Fe.below_all xhf1 hC)
  have hS := hS.call hC
  have hz5 := hC.size
  clear hC
  refine hK.out _ _ hS ?_
  clear hK K
  intro _
  have hSz := hS.size
  refine wpAnyH_ready (rs := [4]) (by kernel_rfl) (by simp) ?_
  refine (AllReadyH.cons rfl ?_ AllReadyH.nil)
  intro K hK
  rw [if_pos (by rfl)]
  refine wp_store_row 22 _ _ rfl (w.heap.size + 1) (arrC (valN M)) rfl rfl 22 (zL) xh4 (info32_of (arrC (valN M)) (arrC_size _)) (zL_size.trans (arrC_size _).symm) (arrC_one _) ?_
  refine put_at (none) rfl ?_
  simp only [Act.put, List.setIfInBounds_toArray, List.set_cons_zero, List.set_cons_succ]
  have xhx : Row (w5.setRow (w.heap.size + 1) (arrC (valN M))) (b) (0) 32 (byV M) := (Row.keep xhx (setRow_other _ _ _ _ (by omega)))
  have xh4 : (w5.setRow (w.heap.size + 1) (arrC (valN M))).heap[w.heap.size + 1]? = some (.cells (arrC (valN M)) 22 (0, 0)) := (setRow_heap _ _ _ _ _ _ xh4)
  have xhf1 : Fe (w5.setRow (w.heap.size + 1) (arrC (valN M))) (b1) (0) ((valN M)) := (Fe.keep xhf1 (setRow_other _ _ _ _ (by omega)))
  have hS := hS.store (arrC (valN M))
  generalize w5.setRow (w.heap.size + 1) (arrC (valN M)) = w6 at *
  refine hK.out _ _ hS ?_
  clear hK K
  intro _
  have hSz := hS.size
  refine takeAt (i := 5) (v := .bool true) rfl (some 5) rfl (by kernel_rfl) (by kernel_rfl) (by kernel_rfl) (fun _ _ _ h => h) (take_run rfl (fun _ _ => by go_simp)) hS ?_
  simp only [Act.put, List.setIfInBounds_toArray, List.set_cons_zero, List.set_cons_succ]
  refine wpAnyH_done (by kernel_rfl) ?_ _
  refine NoPanic.normal ?_
  have hsz := hS.size
  have h2 : w6.heap[w.heap.size]? = some (.cells (arrC N) 22 (0, 0)) := hS.old h2 (by omega)
  have hx := xhx
  have h4 := xh4
  have hf1 := xhf1
  have hBw6 : Hid (Below w.heap.size w w6) := Lib.hid (hBw3.out.trans (hS.below (by omega) hBw3.out.size))
  clear hS
  go_wp2
  refine bodyPost_ret (results_row_tmp rfl _ _ (w.heap.size + 1) 22 (arrC (valN M)) (0, 0) _ rfl h4 under32 rfl (info32_of (arrC (valN M)) (arrC_size _))) rfl ⟨rfl, hBw6.out⟩


end Go.Proofs.Ytkecocibfmhdpaa
