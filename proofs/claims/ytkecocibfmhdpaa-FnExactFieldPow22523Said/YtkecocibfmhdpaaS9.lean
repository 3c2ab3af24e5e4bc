/- The reference's element. -/
import Derived.Test.YtkecocibfmhdpaaS8
set_option linter.unusedSimpArgs false
set_option linter.unusedVariables false
namespace Go.Proofs.Ytkecocibfmhdpaa
open Go.RowKit

theorem and127 (B : Nat) (hB : B < 256) : bits .and .u8 (B : Int) 127 = ((B % 128 : Nat) : Int) := by
  refine (bits_and_u8_nat B 127 hB (by omega)).trans ?_
  rw [show B &&& 127 = B % 128 from Nat.and_two_pow_sub_one_eq_mod B 7]

theorem low255 (N i : Nat) (hi : i < 32) : byV (N % 57896044618658097711785492504343953926634992332820282019728792003956564819968) i = if i = 31 then .int .u8 ((byteN N 31 % 128 : Nat) : Int) else byV N i := by
  unfold byV
  have h : ∀ j, j < 31 → byteN (N % 57896044618658097711785492504343953926634992332820282019728792003956564819968) j = byteN N j := by
    intro j hj
    have e : N % 57896044618658097711785492504343953926634992332820282019728792003956564819968 % 256 ^ 31 = N % 256 ^ 31 := by omega
    rw [← byteN_mod _ 31 j hj, e, byteN_mod _ 31 j hj]
  by_cases e : i = 31
  · subst e
    rw [if_pos rfl]
    congr 2
    unfold byteN
    omega
  · rw [if_neg e, h i (by omega)]

theorem reduced_to (N n m b off cap r : Nat) (hr : Hid (r = N % m)) (hN : N < 2 ^ (8 * n)) (hn : n ≤ 140737488351232) (hm1 : 1 < m) (hm : m < 57896044618658097711785492504343953926634992332820282019728792003956564819968) (w : World) (hR : Row w b off n (byV N)) :
    Calls Try.prog 48 #[.slice (some ⟨b, off, none⟩) n cap, .agg (numC m)] w fun e w' => e = .returned (.agg (numC r)) ∧ Below w.heap.size w w' := by
  rw [hr.out]; exact reduced_any N n m b off cap hN hn hm1 hm w hR
set_option maxHeartbeats 1000000 in
theorem element_any (N : Nat) (w : World) : Calls Try.prog 33 #[.agg (arrC N)] w fun e w' => e = .returned (.agg (numC (valN N))) ∧ Below w.heap.size w w' := by
  obtain ⟨R, qR⟩ : ∃ u : Nat, u = valN N := ⟨_, rfl⟩
  rw [← qR]
  have HR := Lib.hid qR; clear qR
  have r0 := (Row.ofArr (heap_new w (.cells (arrC N) 22))).alloc (.cells #[.int .u64 0, .int .u64 0, .int .u64 0, .int .u64 0] 51)
  have hw := Lib.hid (Wr.start r0)
  have c31 := r0.cell (i := 31) (by omega)
  have f31 := r0.frozen (i := 31) (by omega)
  rw [Nat.zero_add] at c31 f31
  unfold byV at c31
  have hb := byteN_lt N 31
  have h127 := and127 _ hb
  have hl := Lib.hid (low255 N)
  generalize byteN N 31 = B at *
  generalize hq : B % 128 = D at *
  have Hr := Lib.hid r0
  clear r0 hq
  go_enter Try.func33, Try.ntmps33
  go_wp2
  refine wp_named ?_
  intro w1 hw1
  obtain ⟨M, qM⟩ : ∃ u : Nat, u = N % 57896044618658097711785492504343953926634992332820282019728792003956564819968 := ⟨_, rfl⟩
  have hM : M < 2 ^ (8 * 32) := by omega
  have HRM : Hid (R = M % pF) := Lib.hid (by rw [HR.out, qM]; rfl)
  rw [← qM] at hl
  clear qM
  have eM : (arrC N).setIfInBounds 31 (.int .u8 (D : Int)) = arrC M := by
    refine arr_ext M _ (by simp [arrC_size]) fun i hi => ?_
    rw [Array.getElem?_setIfInBounds, hl.out i hi]
    by_cases e : i = 31
    · subst e; simp [arrC_size]
    · rw [if_neg (by omega), if_neg e]; exact arr_get N i hi
  rw [eM] at hw1
  have h1 : w1.heap[w.heap.size]? = some (.cells (arrC M) 22 (0, 0)) := by rw [hw1]; exact heap_old _ (heap_new_at _ _ _ rfl)
  have h2 : w1.heap[w.heap.size + 1]? = some (.cells z4 51 (0, 0)) := by rw [hw1]; exact heap_new_at _ _ _ (by simp only [alloc_size])
  have hs1 : w.heap.size + 2 ≤ w1.heap.size := by rw [hw1]; simp only [alloc_size]; omega
  have hB1 := Lib.hid (show Below w.heap.size w w1 by rw [hw1]; exact below_alloc (below_alloc (Below.refl _ w) _) _)
  clear hw1 hw Hr eM hl c31 f31 h127
  refine wp_region_noPanic ?_
  refine wp_region_held_drew (S := Keep (w.heap.size + 1) w1) (by kernel_rfl) (Keep.start _ _) ?_
  intro hS
  obtain ⟨w2, ed⟩ : ∃ u : World, u = w1.drew := ⟨_, rfl⟩
  rw [← ed] at hS ⊢
  have hT : w2.heap[w.heap.size + 1]? = some (.cells (z4) 51 (0, 0)) := by rw [ed]; exact h2
  clear ed
  refine wpAnyH_take (i := 0) (v := .slice (some ⟨w.heap.size, 0, none⟩) 32 32) rfl (by kernel_rfl) (by kernel_rfl) (by kernel_rfl) (fun _ _ _ h => h) (take_run rfl (fun _ _ => by go_simp)) hS ?_
  simp only [Act.put, List.setIfInBounds_toArray, List.set_cons_zero, List.set_cons_succ]
  refine wpAnyH_ready (rs := [1]) (by kernel_rfl) (by simp) ?_
  refine (AllReadyH.cons rfl ?_ AllReadyH.nil)
  intro K hK
  go_simp
  refine (prime_any _).mono ?_
  rintro e w3 ⟨rfl, hC⟩
  have hT := heap_call hC hT
  have hS := hS.call hC
  clear hC
  refine hK.out _ _ hS ?_
  clear hK K
  intro _
  refine wpAnyH_ready (rs := [2]) (by kernel_rfl) (by simp) ?_
  refine (AllReadyH.cons rfl ?_ AllReadyH.nil)
  intro K hK
  go_simp
  refine (reduced_to M 32 pF (w.heap.size) 0 32 R HRM (by omega) (by omega) (by unfold pF; omega) (by unfold pF; omega) _ (Row.ofArr (hS.old h1 (by omega)))).mono ?_
  rintro e w4 ⟨rfl, hC⟩
  have hT := heap_call hC hT
  have hS := hS.call hC
  clear hC
  refine hK.out _ _ hS ?_
  clear hK K
  intro _
  refine wpAnyH_ready (rs := [3]) (by kernel_rfl) (by simp) ?_
  refine (AllReadyH.cons rfl ?_ AllReadyH.nil)
  intro K hK
  rw [if_pos (by rfl)]
  refine wp_store_row 51 _ _ rfl (w.heap.size + 1) (numC R) rfl rfl 51 (z4) hT (infoNum_of (numC R) (numC_size _)) (z4_size.trans (numC_size _).symm) (numC_one _) ?_
  simp only [Act.put, List.setIfInBounds_toArray, List.set_cons_zero, List.set_cons_succ]
  have hS := hS.store (numC R)
  have hT : (w4.setRow (w.heap.size + 1) (numC R)).heap[w.heap.size + 1]? = some (.cells (numC R) 51 (0, 0)) := setRow_heap _ _ _ _ _ _ hT
  generalize w4.setRow (w.heap.size + 1) (numC R) = w5 at *
  refine hK.out _ _ hS ?_
  clear hK K
  intro _
  refine wpAnyH_done (by kernel_rfl) ?_ _
  refine NoPanic.normal ?_
  have h1 : w5.heap[w.heap.size]? = some (.cells (arrC M) 22 (0, 0)) := hS.old h1 (by omega)
  have h2 := hT
  have hsz6 := hS.size
  have hB6 : Hid (Below w.heap.size w w5) := Lib.hid (hB1.out.trans (hS.below (by omega) hB1.out.size))
  clear hS
  go_wp2
  refine bodyPost_ret (results_cell_row rfl _ _ (w.heap.size + 1) 51 (numC R) (0, 0) _ rfl h2 underNum rfl (infoNum_of (numC R) (numC_size _))) rfl ⟨rfl, hB6.out⟩
end Go.Proofs.Ytkecocibfmhdpaa
