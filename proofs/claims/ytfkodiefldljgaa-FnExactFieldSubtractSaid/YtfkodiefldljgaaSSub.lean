/- spec.FieldSubtract -/
import Derived.Test.YtfkodiefldljgaaSB
namespace Go.Proofs.Ytfkodiefldljgaa
open Go.RowKit

set_option maxHeartbeats 1000000 in
theorem specSub_raw (N M R : Nat) (hR : Hid (R = (valN N + (pF - valN M)) % pF)) (w : World) :
    Calls Try.prog 20 #[.agg (arrC N), .agg (arrC M)] w fun e w' => e = .returned (.agg (arrC R)) ∧ Below w.heap.size w w' := by
  obtain ⟨a, qa⟩ : ∃ u : Nat, u = valN N := ⟨_, rfl⟩
  have Ha := Lib.hid qa; clear qa
  obtain ⟨b, qb⟩ : ∃ u : Nat, u = valN M := ⟨_, rfl⟩
  have Hb := Lib.hid qb; clear qb
  have la : a < pF := by rw [Ha.out]; exact valN_lt' _
  have lb : b < pF := by rw [Hb.out]; exact valN_lt' _
  have HR : Hid (R = (a + (pF - b)) % pF) := Lib.hid (by rw [Ha.out, Hb.out]; exact hR.out)
  clear hR
  go_enter Try.func20, Try.ntmps20
  go_wp2_with fail
  refine wp_named ?_
  intro w1 ew1
  have hs1 : w.heap.size + 1 + 1 + 1 ≤ w1.heap.size := by rw [ew1]; (try simp only [alloc_size, setRow_size]); omega
  have h2 : w1.heap[w.heap.size]? = some (.cells (arrC N) 22 (0, 0)) := by rw [ew1]; exact (heap_old _ (heap_old _ (heap_new_at _ _ _ rfl)))
  have h3 : w1.heap[w.heap.size + 1]? = some (.cells (arrC M) 22 (0, 0)) := by rw [ew1]; exact (heap_old _ (heap_new_at _ _ _ (by simp only [alloc_size, setRow_size])))
  have h4 : w1.heap[w.heap.size + 1 + 1]? = some (.cells (zL) 22 (0, 0)) := by rw [ew1]; exact (heap_new_at _ _ _ (by simp only [alloc_size, setRow_size]))
  have hB1 : Hid (Below w.heap.size w w1) := Lib.hid (by rw [ew1]; exact (below_alloc (below_alloc (below_alloc (Below.refl _ w) _) _) _))
  clear ew1
  refine wp_region_noPanic ?_
  refine wp_region_held_drew (S := Keep (w.heap.size + 1 + 1) w1) (by kernel_rfl) (Keep.start _ _) ?_
  intro hS
  obtain ⟨w2, ed⟩ : ∃ u : World, u = w1.drew := ⟨_, rfl⟩
  rw [← ed] at hS ⊢
  have hT : w2.heap[w.heap.size + 1 + 1]? = some (.cells (zL) 22 (0, 0)) := by rw [ed]; exact h4
  clear ed
  refine wpAnyH_take (i := 0) (v := .agg (arrC N)) rfl (by kernel_rfl) (by kernel_rfl) (by kernel_rfl) (fun _ _ _ h => h) (take_row rfl _ _ rfl (w.heap.size) rfl _ _ _ h2 (by omega) under32 rfl (info32_of (arrC N) (arrC_size _))) hS ?_
  simp only [Act.put, List.setIfInBounds_toArray, List.set_cons_zero, List.set_cons_succ]
  refine wpAnyH_take (i := 2) (v := .agg (arrC M)) rfl (by kernel_rfl) (by kernel_rfl) (by kernel_rfl) (fun _ _ _ h => h) (take_row rfl _ _ rfl (w.heap.size + 1) rfl _ _ _ h3 (by omega) under32 rfl (info32_of (arrC M) (arrC_size _))) hS ?_
  simp only [Act.put, List.setIfInBounds_toArray, List.set_cons_zero, List.set_cons_succ]
  refine wpAnyH_ready (rs := [1]) (by kernel_rfl) (by simp) ?_
  refine (AllReadyH.cons rfl ?_ AllReadyH.nil)
  intro K hK
  go_simp
  refine (element_to N a Ha _).mono ?_
  rintro e w3 ⟨rfl, hC⟩
  have hT := heap_call hC hT
  have hS := hS.call hC
  clear hC
  refine hK.out _ _ hS ?_
  clear hK K
  intro _
  refine wpAnyH_ready (rs := [3]) (by kernel_rfl) (by simp) ?_
  refine (AllReadyH.cons rfl ?_ AllReadyH.nil)
  intro K hK
  go_simp
  refine (element_to M b Hb _).mono ?_
  rintro e w4 ⟨rfl, hC⟩
  have hT := heap_call hC hT
  have hS := hS.call hC
  clear hC
  refine hK.out _ _ hS ?_
  clear hK K
  intro _
  refine wpAnyH_ready (rs := [4]) (by kernel_rfl) (by simp) ?_
  refine (AllReadyH.cons rfl ?_ AllReadyH.nil)
  intro K hK
  go_simp
  refine (prime_any _).mono ?_
  rintro e w5 ⟨rfl, hC⟩
  have hT := heap_call hC hT
  have hS := hS.call hC
  clear hC
  refine hK.out _ _ hS ?_
  clear hK K
  intro _
  refine wpAnyH_ready (rs := [5]) (by kernel_rfl) (by simp) ?_
  refine (AllReadyH.cons rfl ?_ AllReadyH.nil)
  intro K hK
  go_simp
  refine (minus_to a b pF R HR la lb (by unfold pF; omega) _).mono ?_
  rintro e w6 ⟨rfl, hC⟩
  have hT := heap_call hC hT
  have hS := hS.call hC
  clear hC
  refine hK.out _ _ hS ?_
  clear hK K
  intro _
  refine wpAnyH_ready (rs := [6]) (by kernel_rfl) (by simp) ?_
  refine (AllReadyH.cons rfl ?_ AllReadyH.nil)
  intro K hK
  go_simp
  refine (octets_any R _).mono ?_
  rintro e w7 ⟨rfl, hC⟩
  have hT := heap_call hC hT
  have hS := hS.call hC
  clear hC
  refine hK.out _ _ hS ?_
  clear hK K
  intro _
  refine wpAnyH_ready (rs := [7]) (by kernel_rfl) (by simp) ?_
  refine (AllReadyH.cons rfl ?_ AllReadyH.nil)
  intro K hK
  rw [if_pos (by rfl)]
  refine wp_store_row 22 _ _ rfl (w.heap.size + 1 + 1) (arrC R) rfl rfl 22 (zL) hT (info32_of (arrC R) (arrC_size _)) (zL_size.trans (arrC_size _).symm) (arrC_one _) ?_
  simp only [Act.put, List.setIfInBounds_toArray, List.set_cons_zero, List.set_cons_succ]
  have hS := hS.store (arrC R)
  have hT : (w7.setRow (w.heap.size + 1 + 1) (arrC R)).heap[w.heap.size + 1 + 1]? = some (.cells (arrC R) 22 (0, 0)) := setRow_heap _ _ _ _ _ _ hT
  generalize w7.setRow (w.heap.size + 1 + 1) (arrC R) = w8 at *
  refine hK.out _ _ hS ?_
  clear hK K
  intro _
  refine wpAnyH_done (by kernel_rfl) ?_ _
  refine NoPanic.normal ?_
  have h2 : w8.heap[w.heap.size]? = some (.cells (arrC N) 22 (0, 0)) := hS.old h2 (by omega)
  have h3 : w8.heap[w.heap.size + 1]? = some (.cells (arrC M) 22 (0, 0)) := hS.old h3 (by omega)
  have h4 := hT
  have hsz9 := hS.size
  have hB9 : Hid (Below w.heap.size w w8) := Lib.hid (hB1.out.trans (hS.below (by omega) hB1.out.size))
  clear hS
  go_wp2
  refine bodyPost_ret (results_cell_row rfl _ _ (w.heap.size + 1 + 1) 22 (arrC R) (0, 0) _ rfl h4 under32 rfl (info32_of (arrC R) (arrC_size _))) rfl ⟨rfl, hB9.out⟩

theorem specSub_any (N M : Nat) (w : World) : Calls Try.prog 20 #[arrV N, arrV M] w fun e w' => e = .returned (arrV ((valN N + (pF - valN M)) % pF)) ∧ Below w.heap.size w w' := specSub_raw N M _ rfl w

end Go.Proofs.Ytfkodiefldljgaa
