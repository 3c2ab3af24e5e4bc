/- The reference's root, case B. -/
import Derived.Test.YtemgflkecflhmaaDoorKHSQ
set_option maxRecDepth 4000
set_option linter.unusedSimpArgs false
set_option linter.unusedVariables false
namespace Go.Proofs.YtemgflkecflhmaaDoor
open Go.RowKit

set_option maxHeartbeats 16000000 in
theorem root_B (q : Nat) (lq : q < pF) (h : Hid (¬ rtA q * rtA q % pF = q ∧ rtB q * rtB q % pF = q)) (R : Nat) (hR : Hid (R = absN (rtB q))) (w : World) :
    Calls Tryd.prog 62 #[.agg (numC q)] w fun e w' => e = .returned (.tuple #[.agg (numC R), .bool true]) ∧ Below w.heap.size w w' := by
  obtain ⟨A, qA⟩ : ∃ u : Nat, u = rtA q := ⟨_, rfl⟩
  have lA : A < pF := by rw [qA]; exact rtA_lt q
  have HA : Hid (A = pm q eA pF) := Lib.hid (by rw [qA]; unfold rtA pm; rw [show eA = eQ + 1 from rfl])
  obtain ⟨AA, qAA⟩ : ∃ u : Nat, u = A * A % pF := ⟨_, rfl⟩
  have HAA := Lib.hid qAA
  have lAA : AA < pF := by rw [qAA]; exact mlt _
  have nA : Hid (¬ AA = q) := Lib.hid (by rw [qAA, qA]; exact h.out.1)
  obtain ⟨J, qJ⟩ : ∃ u : Nat, u = rtJ := ⟨_, rfl⟩
  have lJ : J < pF := by rw [qJ]; exact rtJ_lt
  have HJ : Hid (J = pm tw eJ pF) := Lib.hid (by rw [qJ]; exact eJ_pow)
  obtain ⟨Bq, qB⟩ : ∃ u : Nat, u = rtB q := ⟨_, rfl⟩
  have lBq : Bq < pF := by rw [qB]; exact rtB_lt q
  have HBq : Hid (Bq = A * J % pF) := Lib.hid (by rw [qB, qA, qJ]; rfl)
  have Hq : Hid (q = Bq * Bq % pF) := Lib.hid (by rw [qB]; exact h.out.2.symm)
  have HR : Hid (R = absN Bq) := Lib.hid (by rw [qB]; exact hR.out)
  clear qAA qJ qB
  clear h qA
  go_enter Tryd.func62, Tryd.ntmps62
  go_wp2_with (first
    | ((with_reducible refine at_dst 6 ?_); refine wpList_buildTo rfl 42 _ rfl (some 6) rfl (numC (eA)) (by kernel_rfl) ?_)
    | ((with_reducible refine at_store 4 ?_); refine wpList_store_row rfl 42 _ _ rfl (w.heap.size + 1 + 1) (numC eA) rfl rfl 42 (z4) (heap_new_at _ _ _ (by simp only [alloc_size, setRow_size])) (infoNum_of (numC eA) (numC_size _)) (z4_size.trans (numC_size _).symm) (numC_one _) ?_))
  try simp only [Act.put]
  refine wp_named ?_
  intro w1 ew1
  have hs1 : w.heap.size + 1 + 1 + 1 ≤ w1.heap.size := by rw [ew1]; (try simp only [alloc_size, setRow_size]); omega
  replace h1 : w1.heap[w.heap.size]? = some (.cells (numC q) 42 (0, 0)) := by rw [ew1]; exact (heap_row _ (by omega) (heap_old _ (heap_old _ (heap_new_at _ _ _ rfl))))
  replace h2 : w1.heap[w.heap.size + 1]? = some (.cells (z4) 42 (0, 0)) := by rw [ew1]; exact (heap_row _ (by omega) (heap_old _ (heap_new_at _ _ _ (by simp only [alloc_size, setRow_size]))))
  replace h4 : w1.heap[w.heap.size + 1 + 1]? = some (.cells (numC eA) 42 (0, 0)) := by rw [ew1]; exact (setRow_heap _ _ _ _ _ _ (heap_new_at _ _ _ (by simp only [alloc_size, setRow_size])))
  have hBw1 : Hid (Below w.heap.size w w1) := Lib.hid (by rw [ew1]; exact (below_setRow (below_alloc (below_alloc (below_alloc (Below.refl _ w) _) _) _) (by omega) _))
  clear ew1
  go_cut [5] (fun s5 wx => ∃ g5 : Nat, s5 = .pointer (some ⟨g5, 0, none⟩) ∧ Hid (w1.heap.size ≤ g5) ∧ Hid (wx.heap[g5]? = some (.cells (numC A) 42 (0, 0))) ∧ Hid (wx.heap[w.heap.size]? = some (.cells (numC q) 42 (0, 0))) ∧ Hid (wx.heap[w.heap.size + 1]? = some (.cells (z4) 42 (0, 0))) ∧ Hid (wx.heap[w.heap.size + 1 + 1]? = some (.cells (numC eA) 42 (0, 0))) ∧ Hid (Below w.heap.size w wx) ∧ Hid (w1.heap.size ≤ wx.heap.size))
  case first =>
    refine wp_region_noPanic ?_
    refine wp_region_held_drew (S := Keep (w1.heap.size) w1) (by kernel_rfl) (Keep.start _ _) ?_
    intro hS
    obtain ⟨w2, ed⟩ : ∃ u : World, u = w1.drew := ⟨_, rfl⟩
    rw [← ed] at hS ⊢
    have xh1 : w2.heap[w.heap.size]? = some (.cells (numC q) 42 (0, 0)) := by rw [ed]; exact h1
    have xh2 : w2.heap[w.heap.size + 1]? = some (.cells (z4) 42 (0, 0)) := by rw [ed]; exact h2
    have xh4 : w2.heap[w.heap.size + 1 + 1]? = some (.cells (numC eA) 42 (0, 0)) := by rw [ed]; exact h4
    clear ed
    have hSz := hS.size
    clear xh1
    clear xh2
    clear xh4
    refine takeAt (i := 0) (v := .agg (numC q)) rfl (some 7) rfl (by kernel_rfl) (by kernel_rfl) (by kernel_rfl) (fun _ _ _ h => h) (take_row rfl _ _ rfl (w.heap.size) rfl _ _ _ h1 (Nat.ne_of_lt (heap_lt h1)) underNum rfl (infoNum_of (numC q) (numC_size _))) hS ?_
    simp only [Act.put, List.setIfInBounds_toArray, List.set_cons_zero, List.set_cons_succ]
    refine takeAt (i := 1) (v := .agg (numC eA)) rfl (some 8) rfl (by kernel_rfl) (by kernel_rfl) (by kernel_rfl) (fun _ _ _ h => h) (take_row rfl _ _ rfl (w.heap.size + 1 + 1) rfl _ _ _ h4 (Nat.ne_of_lt (heap_lt h4)) underNum rfl (infoNum_of (numC eA) (numC_size _))) hS ?_
    simp only [Act.put, List.setIfInBounds_toArray, List.set_cons_zero, List.set_cons_succ]
    refine wpAnyH_ready (rs := [2, 4]) (by kernel_rfl) (by simp) ?_
    refine (AllReadyH.cons rfl ?_ (AllReadyH.cons rfl ?_ AllReadyH.nil))
    · intro K hK
      refine ready_call rfl (some 9) rfl 36 #[] (by go_simp) ?_
      refine (prime_any _).mono ?_
      rintro e w3 ⟨rfl, hC⟩
      refine ⟨_, rfl, ?_⟩
      simp only [Act.put, List.setIfInBounds_toArray, List.set_cons_zero, List.set_cons_succ]
      have hS := hS.call hC
      have hz3 := hC.size
      clear hC
      refine hK.out _ _ hS ?_
      clear hK K
      intro _
      have hSz := hS.size
      refine wpAnyH_ready (rs := [3, 4]) (by kernel_rfl) (by simp) ?_
      refine (AllReadyH.cons rfl ?_ (AllReadyH.cons rfl ?_ AllReadyH.nil))
      · intro K hK
        refine ready_call rfl (some 10) rfl 44 #[.agg (numC q), .agg (numC eA), .agg (numC pF)] (by go_simp) ?_
        refine (power_to q eA pF A HA lq (by unfold eA; omega) (by unfold pF; omega) (by unfold pF; omega) _).mono ?_
        rintro e w4 ⟨rfl, hC⟩
        refine ⟨_, rfl, ?_⟩
        simp only [Act.put, List.setIfInBounds_toArray, List.set_cons_zero, List.set_cons_succ]
        have hS := hS.call hC
        have hz4 := hC.size
        clear hC
        refine hK.out _ _ hS ?_
        clear hK K
        intro _
        have hSz := hS.size
        refine wpAnyH_ready (rs := [4]) (by kernel_rfl) (by simp) ?_
        refine (AllReadyH.cons rfl ?_ AllReadyH.nil)
        intro K hK
        refine ready_run rfl (some 5) rfl (.pointer (some ⟨w4.heap.size, 0, none⟩)) (w4.alloc (.cells z4 42)) (by go_simp; try rfl) ?_
        simp only [Act.put, List.setIfInBounds_toArray, List.set_cons_zero, List.set_cons_succ]
        obtain ⟨w5, ea⟩ : ∃ u : World, u = w4.alloc (.cells z4 42) := ⟨_, rfl⟩
        rw [← ea]
        have hS := hS.alloc (.cells z4 42)
        rw [← ea] at hS
        have hz5 : w4.heap.size + 1 ≤ w5.heap.size := by rw [ea, alloc_size]; omega
        have hy5 : w1.heap.size ≤ w4.heap.size := hSz
        have xh5 : w5.heap[w4.heap.size]? = some (.cells (z4) 42 (0, 0)) := by rw [ea]; exact heap_new_at _ _ _ rfl
        clear ea
        refine hK.out _ _ hS ?_
        clear hK K
        intro _
        have hSz := hS.size
        refine wpAnyH_ready (rs := [5]) (by kernel_rfl) (by simp) ?_
        refine (AllReadyH.cons rfl ?_ AllReadyH.nil)
        intro K hK
        rw [if_pos (by rfl)]
        refine wp_store_row 42 _ _ rfl (w4.heap.size) (numC A) rfl rfl 42 (z4) xh5 (infoNum_of (numC A) (numC_size _)) (z4_size.trans (numC_size _).symm) (numC_one _) ?_
        refine put_at (none) rfl ?_
        simp only [Act.put, List.setIfInBounds_toArray, List.set_cons_zero, List.set_cons_succ]
        have xh5 : (w5.setRow (w4.heap.size) (numC A)).heap[w4.heap.size]? = some (.cells (numC A) 42 (0, 0)) := (setRow_heap _ _ _ _ _ _ xh5)
        have hS := hS.storeNew (numC A) (show w1.heap.size ≤ w4.heap.size by omega)
        generalize w5.setRow (w4.heap.size) (numC A) = w6 at *
        refine hK.out _ _ hS ?_
        clear hK K
        intro _
        have hSz := hS.size
        refine wpAnyH_done (by kernel_rfl) ?_ _
        refine NoPanic.normal ?_
        have hsz := hS.size
        have h1 : w6.heap[w.heap.size]? = some (.cells (numC q) 42 (0, 0)) := hS.old h1 (Nat.ne_of_lt (heap_lt h1))
        have h2 : w6.heap[w.heap.size + 1]? = some (.cells (z4) 42 (0, 0)) := hS.old h2 (Nat.ne_of_lt (heap_lt h2))
        have h4 : w6.heap[w.heap.size + 1 + 1]? = some (.cells (numC eA) 42 (0, 0)) := hS.old h4 (Nat.ne_of_lt (heap_lt h4))
        have h5 := xh5
        have hBw6 : Hid (Below w.heap.size w w6) := Lib.hid (hBw1.out.trans (hS.below (by omega) hBw1.out.size))
        clear hS
        go_wp2_with fail
        go_meet
        exact ⟨w4.heap.size, rfl, Lib.hid (show w1.heap.size ≤ w4.heap.size by omega), Lib.hid h5, Lib.hid h1, Lib.hid h2, Lib.hid h4, Lib.hid hBw6.out, Lib.hid (show w1.heap.size ≤ w6.heap.size by omega)⟩
      · intro K hK
        refine ready_run rfl (some 5) rfl (.pointer (some ⟨w3.heap.size, 0, none⟩)) (w3.alloc (.cells z4 42)) (by go_simp; try rfl) ?_
        simp only [Act.put, List.setIfInBounds_toArray, List.set_cons_zero, List.set_cons_succ]
        obtain ⟨w8, ea⟩ : ∃ u : World, u = w3.alloc (.cells z4 42) := ⟨_, rfl⟩
        rw [← ea]
        have hS := hS.alloc (.cells z4 42)
        rw [← ea] at hS
        have hz8 : w3.heap.size + 1 ≤ w8.heap.size := by rw [ea, alloc_size]; omega
        have hy8 : w1.heap.size ≤ w3.heap.size := hSz
        have xh5 : w8.heap[w3.heap.size]? = some (.cells (z4) 42 (0, 0)) := by rw [ea]; exact heap_new_at _ _ _ rfl
        clear ea
        refine hK.out _ _ hS ?_
        clear hK K
        intro _
        have hSz := hS.size
        refine wpAnyH_ready (rs := [3]) (by kernel_rfl) (by simp) ?_
        refine (AllReadyH.cons rfl ?_ AllReadyH.nil)
        intro K hK
        refine ready_call rfl (some 10) rfl 44 #[.agg (numC q), .agg (numC eA), .agg (numC pF)] (by go_simp) ?_
        refine (power_to q eA pF A HA lq (by unfold eA; omega) (by unfold pF; omega) (by unfold pF; omega) _).mono ?_
        rintro e w9 ⟨rfl, hC⟩
        refine ⟨_, rfl, ?_⟩
        simp only [Act.put, List.setIfInBounds_toArray, List.set_cons_zero, List.set_cons_succ]
        have xh5 : w9.heap[w3.heap.size]? = some (.cells (z4) 42 (0, 0)) := (heap_call hC xh5)
        have hS := hS.call hC
        have hz9 := hC.size
        clear hC
        refine hK.out _ _ hS ?_
        clear hK K
        intro _
        have hSz := hS.size
        refine wpAnyH_ready (rs := [5]) (by kernel_rfl) (by simp) ?_
        refine (AllReadyH.cons rfl ?_ AllReadyH.nil)
        intro K hK
        rw [if_pos (by rfl)]
        refine wp_store_row 42 _ _ rfl (w3.heap.size) (numC A) rfl rfl 42 (z4) xh5 (infoNum_of (numC A) (numC_size _)) (z4_size.trans (numC_size _).symm) (numC_one _) ?_
        refine put_at (none) rfl ?_
        simp only [Act.put, List.setIfInBounds_toArray, List.set_cons_zero, List.set_cons_succ]
        have xh5 : (w9.setRow (w3.heap.size) (numC A)).heap[w3.heap.size]? = some (.cells (numC A) 42 (0, 0)) := (setRow_heap _ _ _ _ _ _ xh5)
        have hS := hS.storeNew (numC A) (show w1.heap.size ≤ w3.heap.size by omega)
        generalize w9.setRow (w3.heap.size) (numC A) = w10 at *
        refine hK.out _ _ hS ?_
        clear hK K
        intro _
        have hSz := hS.size
        refine wpAnyH_done (by kernel_rfl) ?_ _
        refine NoPanic.normal ?_
        have hsz := hS.size
        have h1 : w10.heap[w.heap.size]? = some (.cells (numC q) 42 (0, 0)) := hS.old h1 (Nat.ne_of_lt (heap_lt h1))
        have h2 : w10.heap[w.heap.size + 1]? = some (.cells (z4) 42 (0, 0)) := hS.old h2 (Nat.ne_of_lt (heap_lt h2))
        have h4 : w10.heap[w.heap.size + 1 + 1]? = some (.cells (numC eA) 42 (0, 0)) := hS.old h4 (Nat.ne_of_lt (heap_lt h4))
        have h5 := xh5
        have hBw10 : Hid (Below w.heap.size w w10) := Lib.hid (hBw1.out.trans (hS.below (by omega) hBw1.out.size))
        clear hS
        go_wp2_with fail
        go_meet
        exact ⟨w3.heap.size, rfl, Lib.hid (show w1.heap.size ≤ w3.heap.size by omega), Lib.hid h5, Lib.hid h1, Lib.hid h2, Lib.hid h4, Lib.hid hBw10.out, Lib.hid (show w1.heap.size ≤ w10.heap.size by omega)⟩
    · intro K hK
      refine ready_run rfl (some 5) rfl (.pointer (some ⟨w2.heap.size, 0, none⟩)) (w2.alloc (.cells z4 42)) (by go_simp; try rfl) ?_
      simp only [Act.put, List.setIfInBounds_toArray, List.set_cons_zero, List.set_cons_succ]
      obtain ⟨w12, ea⟩ : ∃ u : World, u = w2.alloc (.cells z4 42) := ⟨_, rfl⟩
      rw [← ea]
      have hS := hS.alloc (.cells z4 42)
      rw [← ea] at hS
      have hz12 : w2.heap.size + 1 ≤ w12.heap.size := by rw [ea, alloc_size]; omega
      have hy12 : w1.heap.size ≤ w2.heap.size := hSz
      have xh5 : w12.heap[w2.heap.size]? = some (.cells (z4) 42 (0, 0)) := by rw [ea]; exact heap_new_at _ _ _ rfl
      clear ea
      refine hK.out _ _ hS ?_
      clear hK K
      intro _
      have hSz := hS.size
      refine wpAnyH_ready (rs := [2]) (by kernel_rfl) (by simp) ?_
      refine (AllReadyH.cons rfl ?_ AllReadyH.nil)
      intro K hK
      refine ready_call rfl (some 9) rfl 36 #[] (by go_simp) ?_
      refine (prime_any _).mono ?_
      rintro e w13 ⟨rfl, hC⟩
      refine ⟨_, rfl, ?_⟩
      simp only [Act.put, List.setIfInBounds_toArray, List.set_cons_zero, List.set_cons_succ]
      have xh5 : w13.heap[w2.heap.size]? = some (.cells (z4) 42 (0, 0)) := (heap_call hC xh5)
      have hS := hS.call hC
      have hz13 := hC.size
      clear hC
      refine hK.out _ _ hS ?_
      clear hK K
      intro _
      have hSz := hS.size
      refine wpAnyH_ready (rs := [3]) (by kernel_rfl) (by simp) ?_
      refine (AllReadyH.cons rfl ?_ AllReadyH.nil)
      intro K hK
      refine ready_call rfl (some 10) rfl 44 #[.agg (numC q), .agg (numC eA), .agg (numC pF)] (by go_simp) ?_
      refine (power_to q eA pF A HA lq (by unfold eA; omega) (by unfold pF; omega) (by unfold pF; omega) _).mono ?_
      rintro e w14 ⟨rfl, hC⟩
      refine ⟨_, rfl, ?_⟩
      simp only [Act.put, List.setIfInBounds_toArray, List.set_cons_zero, List.set_cons_succ]
      have xh5 : w14.heap[w2.heap.size]? = some (.cells (z4) 42 (0, 0)) := (heap_call hC xh5)
      have hS := hS.call hC
      have hz14 := hC.size
      clear hC
      refine hK.out _ _ hS ?_
      clear hK K
      intro _
      have hSz := hS.size
      refine wpAnyH_ready (rs := [5]) (by kernel_rfl) (by simp) ?_
      refine (AllReadyH.cons rfl ?_ AllReadyH.nil)
      intro K hK
      rw [if_pos (by rfl)]
      refine wp_store_row 42 _ _ rfl (w2.heap.size) (numC A) rfl rfl 42 (z4) xh5 (infoNum_of (numC A) (numC_size _)) (z4_size.trans (numC_size _).symm) (numC_one _) ?_
      refine put_at (none) rfl ?_
      simp only [Act.put, List.setIfInBounds_toArray, List.set_cons_zero, List.set_cons_succ]
      have xh5 : (w14.setRow (w2.heap.size) (numC A)).heap[w2.heap.size]? = some (.cells (numC A) 42 (0, 0)) := (setRow_heap _ _ _ _ _ _ xh5)
      have hS := hS.storeNew (numC A) (show w1.heap.size ≤ w2.heap.size by omega)
      generalize w14.setRow (w2.heap.size) (numC A) = w15 at *
      refine hK.out _ _ hS ?_
      clear hK K
      intro _
      have hSz := hS.size
      refine wpAnyH_done (by kernel_rfl) ?_ _
      refine NoPanic.normal ?_
      have hsz := hS.size
      have h1 : w15.heap[w.heap.size]? = some (.cells (numC q) 42 (0, 0)) := hS.old h1 (Nat.ne_of_lt (heap_lt h1))
      have h2 : w15.heap[w.heap.size + 1]? = some (.cells (z4) 42 (0, 0)) := hS.old h2 (Nat.ne_of_lt (heap_lt h2))
      have h4 : w15.heap[w.heap.size + 1 + 1]? = some (.cells (numC eA) 42 (0, 0)) := hS.old h4 (Nat.ne_of_lt (heap_lt h4))
      have h5 := xh5
      have hBw15 : Hid (Below w.heap.size w w15) := Lib.hid (hBw1.out.trans (hS.below (by omega) hBw1.out.size))
      clear hS
      go_wp2_with fail
      go_meet
      exact ⟨w2.heap.size, rfl, Lib.hid (show w1.heap.size ≤ w2.heap.size by omega), Lib.hid h5, Lib.hid h1, Lib.hid h2, Lib.hid h4, Lib.hid hBw15.out, Lib.hid (show w1.heap.size ≤ w15.heap.size by omega)⟩
  case rest =>
    obtain ⟨g5, rfl, Hg5, Hh5, Hh1, Hh2, Hh4, hBw17, Hsz17⟩ := hcut
    obtain ⟨w17, rfl⟩ : ∃ u : World, u = wc := ⟨_, rfl⟩
    have hgl5 := Hg5.out
    have h5 := Hh5.out
    have hgu5 := heap_lt h5
    have h1 := Hh1.out
    have h2 := Hh2.out
    have h4 := Hh4.out
    have hsz17 := Hsz17.out
    go_wp2_with fail
    try simp only [Act.put]
    refine wp_named ?_
    intro w18 ew18
    have hs18 : w17.heap.size ≤ w18.heap.size := by rw [ew18]; (try simp only [alloc_size, setRow_size]); omega
    replace h1 : w18.heap[w.heap.size]? = some (.cells (numC q) 42 (0, 0)) := by rw [ew18]; exact h1
    replace h2 : w18.heap[w.heap.size + 1]? = some (.cells (z4) 42 (0, 0)) := by rw [ew18]; exact h2
    replace h4 : w18.heap[w.heap.size + 1 + 1]? = some (.cells (numC eA) 42 (0, 0)) := by rw [ew18]; exact h4
    replace h5 : w18.heap[g5]? = some (.cells (numC A) 42 (0, 0)) := by rw [ew18]; exact h5
    have hBw18 : Hid (Below w.heap.size w w18) := Lib.hid (by rw [ew18]; exact hBw17.out)
    clear ew18
    go_cut [16] (fun s16 wx => s16 = .bool false ∧ Hid (wx.heap[w.heap.size]? = some (.cells (numC q) 42 (0, 0))) ∧ Hid (wx.heap[w.heap.size + 1]? = some (.cells (z4) 42 (0, 0))) ∧ Hid (wx.heap[w.heap.size + 1 + 1]? = some (.cells (numC eA) 42 (0, 0))) ∧ Hid (wx.heap[g5]? = some (.cells (numC A) 42 (0, 0))) ∧ Hid (Below w.heap.size w wx) ∧ Hid (w18.heap.size ≤ wx.heap.size))
    case first =>
      refine wp_region_noPanic ?_
      refine wp_region_held_drew (S := Keep (w18.heap.size) w18) (by kernel_rfl) (Keep.start _ _) ?_
      intro hS
      obtain ⟨w19, ed⟩ : ∃ u : World, u = w18.drew := ⟨_, rfl⟩
      rw [← ed] at hS ⊢
      have xh1 : w19.heap[w.heap.size]? = some (.cells (numC q) 42 (0, 0)) := by rw [ed]; exact h1
      have xh2 : w19.heap[w.heap.size + 1]? = some (.cells (z4) 42 (0, 0)) := by rw [ed]; exact h2
      have xh4 : w19.heap[w.heap.size + 1 + 1]? = some (.cells (numC eA) 42 (0, 0)) := by rw [ed]; exact h4
      have xh5 : w19.heap[g5]? = some (.cells (numC A) 42 (0, 0)) := by rw [ed]; exact h5
      clear ed
      have hSz := hS.size
      clear xh1
      clear xh2
      clear xh4
      clear xh5
      refine takeAt (i := 0) (v := .agg (numC A)) rfl (some 11) rfl (by kernel_rfl) (by kernel_rfl) (by kernel_rfl) (fun _ _ _ h => h) (take_row rfl _ _ rfl (g5) rfl _ _ _ h5 (Nat.ne_of_lt (heap_lt h5)) underNum rfl (infoNum_of (numC A) (numC_size _))) hS ?_
      simp only [Act.put, List.setIfInBounds_toArray, List.set_cons_zero, List.set_cons_succ]
      refine takeAt (i := 1) (v := .agg (numC A)) rfl (some 12) rfl (by kernel_rfl) (by kernel_rfl) (by kernel_rfl) (fun _ _ _ h => h) (take_row rfl _ _ rfl (g5) rfl _ _ _ h5 (Nat.ne_of_lt (heap_lt h5)) underNum rfl (infoNum_of (numC A) (numC_size _))) hS ?_
      simp only [Act.put, List.setIfInBounds_toArray, List.set_cons_zero, List.set_cons_succ]
      refine takeAt (i := 4) (v := .agg (numC q)) rfl (some 15) rfl (by kernel_rfl) (by kernel_rfl) (by kernel_rfl) (fun _ _ _ h => h) (take_row rfl _ _ rfl (w.heap.size) rfl _ _ _ h1 (Nat.ne_of_lt (heap_lt h1)) underNum rfl (infoNum_of (numC q) (numC_size _))) hS ?_
      simp only [Act.put, List.setIfInBounds_toArray, List.set_cons_zero, List.set_cons_succ]
      refine wpAnyH_ready (rs := [2]) (by kernel_rfl) (by simp) ?_
      refine (AllReadyH.cons rfl ?_ AllReadyH.nil)
      intro K hK
      refine ready_call rfl (some 13) rfl 36 #[] (by go_simp) ?_
      refine (prime_any _).mono ?_
      rintro e w20 ⟨rfl, hC⟩
      refine ⟨_, rfl, ?_⟩
      simp only [Act.put, List.setIfInBounds_toArray, List.set_cons_zero, List.set_cons_succ]
      have hS := hS.call hC
      have hz20 := hC.size
      clear hC
      refine hK.out _ _ hS ?_
      clear hK K
      intro _
      have hSz := hS.size
      refine wpAnyH_ready (rs := [3]) (by kernel_rfl) (by simp) ?_
      refine (AllReadyH.cons rfl ?_ AllReadyH.nil)
      intro K hK
      refine ready_call rfl (some 14) rfl 39 #[.agg (numC A), .agg (numC A), .agg (numC pF)] (by go_simp) ?_
      refine (times_to A A pF AA HAA lA (Nat.lt_trans lA (by unfold pF; omega)) (by unfold pF; omega) _).mono ?_
      rintro e w21 ⟨rfl, hC⟩
      refine ⟨_, rfl, ?_⟩
      simp only [Act.put, List.setIfInBounds_toArray, List.set_cons_zero, List.set_cons_succ]
      have hS := hS.call hC
      have hz21 := hC.size
      clear hC
      refine hK.out _ _ hS ?_
      clear hK K
      intro _
      have hSz := hS.size
      refine takeAt (i := 5) (v := .bool false) rfl (some 16) rfl (by kernel_rfl) (by kernel_rfl) (by kernel_rfl) (fun _ _ _ h => h) (take_run rfl (fun _ _ => by go_simp; rw [run_eq_num _ _ (Nat.lt_trans lAA (by unfold pF; omega)) (Nat.lt_trans lq (by unfold pF; omega))]; simp [nA.out])) hS ?_
      simp only [Act.put, List.setIfInBounds_toArray, List.set_cons_zero, List.set_cons_succ]
      refine wpAnyH_done (by kernel_rfl) ?_ _
      refine NoPanic.normal ?_
      have hsz := hS.size
      have h1 : w21.heap[w.heap.size]? = some (.cells (numC q) 42 (0, 0)) := hS.old h1 (Nat.ne_of_lt (heap_lt h1))
      have h2 : w21.heap[w.heap.size + 1]? = some (.cells (z4) 42 (0, 0)) := hS.old h2 (Nat.ne_of_lt (heap_lt h2))
      have h4 : w21.heap[w.heap.size + 1 + 1]? = some (.cells (numC eA) 42 (0, 0)) := hS.old h4 (Nat.ne_of_lt (heap_lt h4))
      have h5 : w21.heap[g5]? = some (.cells (numC A) 42 (0, 0)) := hS.old h5 (Nat.ne_of_lt (heap_lt h5))
      have hBw21 : Hid (Below w.heap.size w w21) := Lib.hid (hBw18.out.trans (hS.below (by omega) hBw18.out.size))
      clear hS
      go_wp2_with fail
      go_meet
      exact ⟨rfl, Lib.hid h1, Lib.hid h2, Lib.hid h4, Lib.hid h5, Lib.hid hBw21.out, Lib.hid (show w18.heap.size ≤ w21.heap.size by omega)⟩
    case rest =>
      obtain ⟨rfl, Hh1, Hh2, Hh4, Hh5, hBw23, Hsz23⟩ := hcut
      obtain ⟨w23, rfl⟩ : ∃ u : World, u = wc := ⟨_, rfl⟩
      have h1 := Hh1.out
      have h2 := Hh2.out
      have h4 := Hh4.out
      have h5 := Hh5.out
      have hsz23 := Hsz23.out
      go_wp2_with fail
      try simp only [Act.put]
      refine wp_named ?_
      intro w24 ew24
      have hs24 : w23.heap.size ≤ w24.heap.size := by rw [ew24]; (try simp only [alloc_size, setRow_size]); omega
      replace h1 : w24.heap[w.heap.size]? = some (.cells (numC q) 42 (0, 0)) := by rw [ew24]; exact h1
      replace h2 : w24.heap[w.heap.size + 1]? = some (.cells (z4) 42 (0, 0)) := by rw [ew24]; exact h2
      replace h4 : w24.heap[w.heap.size + 1 + 1]? = some (.cells (numC eA) 42 (0, 0)) := by rw [ew24]; exact h4
      replace h5 : w24.heap[g5]? = some (.cells (numC A) 42 (0, 0)) := by rw [ew24]; exact h5
      have hBw24 : Hid (Below w.heap.size w w24) := Lib.hid (by rw [ew24]; exact hBw23.out)
      clear ew24
      go_cut [25] (fun s25 wx => s25 = .agg (numC Bq) ∧ Hid (wx.heap[w.heap.size]? = some (.cells (numC q) 42 (0, 0))) ∧ Hid (wx.heap[w.heap.size + 1]? = some (.cells (z4) 42 (0, 0))) ∧ Hid (wx.heap[w.heap.size + 1 + 1]? = some (.cells (numC eA) 42 (0, 0))) ∧ Hid (wx.heap[g5]? = some (.cells (numC Bq) 42 (0, 0))) ∧ Hid (Below w.heap.size w wx) ∧ Hid (w24.heap.size ≤ wx.heap.size))
      case first =>
        refine wp_region_noPanic ?_
        refine wp_region_held_drew (S := Keep (g5) w24) (by kernel_rfl) (Keep.start _ _) ?_
        intro hS
        obtain ⟨w25, ed⟩ : ∃ u : World, u = w24.drew := ⟨_, rfl⟩
        rw [← ed] at hS ⊢
        have xh1 : w25.heap[w.heap.size]? = some (.cells (numC q) 42 (0, 0)) := by rw [ed]; exact h1
        have xh2 : w25.heap[w.heap.size + 1]? = some (.cells (z4) 42 (0, 0)) := by rw [ed]; exact h2
        have xh4 : w25.heap[w.heap.size + 1 + 1]? = some (.cells (numC eA) 42 (0, 0)) := by rw [ed]; exact h4
        have xh5 : w25.heap[g5]? = some (.cells (numC A) 42 (0, 0)) := by rw [ed]; exact h5
        clear ed
        have hSz := hS.size
        clear xh1
        clear xh2
        clear xh4
        refine takeAt (i := 2) (v := .agg (numC eJ)) rfl (some 21) rfl (by kernel_rfl) (by kernel_rfl) (by kernel_rfl) (fun _ _ _ h => h) (take_built rfl 42 _ rfl (numC (eJ)) (by kernel_rfl)) hS ?_
        simp only [Act.put, List.setIfInBounds_toArray, List.set_cons_zero, List.set_cons_succ]
        refine wpAnyH_ready (rs := [0, 1]) (by kernel_rfl) (by simp) ?_
        refine (AllReadyH.cons rfl ?_ (AllReadyH.cons rfl ?_ AllReadyH.nil))
        · intro K hK
          rw [if_pos (by rfl)]
          refine wp_load_row 42 _ rfl (g5) rfl _ (numC A) _ _ xh5 underNum rfl (infoNum_of (numC A) (numC_size _)) ?_
          refine put_at (some 19) rfl ?_
          simp only [Act.put, List.setIfInBounds_toArray, List.set_cons_zero, List.set_cons_succ]
          refine hK.out _ _ hS ?_
          clear hK K
          intro _
          have hSz := hS.size
          refine wpAnyH_ready (rs := [1]) (by kernel_rfl) (by simp) ?_
          refine (AllReadyH.cons rfl ?_ AllReadyH.nil)
          intro K hK
          refine ready_call rfl (some 20) rfl 41 #[.int .u64 2] (by go_simp) ?_
          refine (small_any 2 (by omega) _).mono ?_
          rintro e w26 ⟨rfl, hC⟩
          refine ⟨_, rfl, ?_⟩
          simp only [Act.put, List.setIfInBounds_toArray, List.set_cons_zero, List.set_cons_succ]
          have xh5 : w26.heap[g5]? = some (.cells (numC A) 42 (0, 0)) := (heap_call hC xh5)
          have hS := hS.call hC
          have hz26 := hC.size
          clear hC
          refine hK.out _ _ hS ?_
          clear hK K
          intro _
          have hSz := hS.size
          refine wpAnyH_ready (rs := [3]) (by kernel_rfl) (by simp) ?_
          refine (AllReadyH.cons rfl ?_ AllReadyH.nil)
          intro K hK
          refine ready_call rfl (some 22) rfl 36 #[] (by go_simp) ?_
          refine (prime_any _).mono ?_
          rintro e w27 ⟨rfl, hC⟩
          refine ⟨_, rfl, ?_⟩
          simp only [Act.put, List.setIfInBounds_toArray, List.set_cons_zero, List.set_cons_succ]
          have xh5 : w27.heap[g5]? = some (.cells (numC A) 42 (0, 0)) := (heap_call hC xh5)
          have hS := hS.call hC
          have hz27 := hC.size
          clear hC
          refine hK.out _ _ hS ?_
          clear hK K
          intro _
          have hSz := hS.size
          refine wpAnyH_ready (rs := [4]) (by kernel_rfl) (by simp) ?_
          refine (AllReadyH.cons rfl ?_ AllReadyH.nil)
          intro K hK
          refine ready_call rfl (some 23) rfl 44 #[.agg (numC 2), .agg (numC eJ), .agg (numC pF)] (by go_simp) ?_
          refine (power_to tw eJ pF J HJ (by unfold tw pF; omega) (by unfold eJ; omega) (by unfold pF; omega) (by unfold pF; omega) _).mono ?_
          rintro e w28 ⟨rfl, hC⟩
          refine ⟨_, rfl, ?_⟩
          simp only [Act.put, List.setIfInBounds_toArray, List.set_cons_zero, List.set_cons_succ]
          have xh5 : w28.heap[g5]? = some (.cells (numC A) 42 (0, 0)) := (heap_call hC xh5)
          have hS := hS.call hC
          have hz28 := hC.size
          clear hC
          refine hK.out _ _ hS ?_
          clear hK K
          intro _
          have hSz := hS.size
          refine wpAnyH_ready (rs := [5]) (by kernel_rfl) (by simp) ?_
          refine (AllReadyH.cons rfl ?_ AllReadyH.nil)
          intro K hK
          refine ready_call rfl (some 24) rfl 36 #[] (by go_simp) ?_
          refine (prime_any _).mono ?_
          rintro e w29 ⟨rfl, hC⟩
          refine ⟨_, rfl, ?_⟩
          simp only [Act.put, List.setIfInBounds_toArray, List.set_cons_zero, List.set_cons_succ]
          have xh5 : w29.heap[g5]? = some (.cells (numC A) 42 (0, 0)) := (heap_call hC xh5)
          have hS := hS.call hC
          have hz29 := hC.size
          clear hC
          refine hK.out _ _ hS ?_
          clear hK K
          intro _
          have hSz := hS.size
          refine wpAnyH_ready (rs := [6]) (by kernel_rfl) (by simp) ?_
          refine (AllReadyH.cons rfl ?_ AllReadyH.nil)
          intro K hK
          refine ready_call rfl (some 25) rfl 39 #[.agg (numC A), .agg (numC J), .agg (numC pF)] (by go_simp) ?_
          refine (times_to A J pF Bq HBq lA (Nat.lt_trans lJ (by unfold pF; omega)) (by unfold pF; omega) _).mono ?_
          rintro e w30 ⟨rfl, hC⟩
          refine ⟨_, rfl, ?_⟩
          simp only [Act.put, List.setIfInBounds_toArray, List.set_cons_zero, List.set_cons_succ]
          have xh5 : w30.heap[g5]? = some (.cells (numC A) 42 (0, 0)) := (heap_call hC xh5)
          have hS := hS.call hC
          have hz30 := hC.size
          clear hC
          refine hK.out _ _ hS ?_
          clear hK K
          intro _
          have hSz := hS.size
          refine wpAnyH_ready (rs := [7]) (by kernel_rfl) (by simp) ?_
          refine (AllReadyH.cons rfl ?_ AllReadyH.nil)
          intro K hK
          rw [if_pos (by rfl)]
          refine wp_store_row 42 _ _ rfl (g5) (numC Bq) rfl rfl 42 (numC A) xh5 (infoNum_of (numC Bq) (numC_size _)) ((numC_size _).trans (numC_size _).symm) (numC_one _) ?_
          refine put_at (none) rfl ?_
          simp only [Act.put, List.setIfInBounds_toArray, List.set_cons_zero, List.set_cons_succ]
          have xh5 : (w30.setRow (g5) (numC Bq)).heap[g5]? = some (.cells (numC Bq) 42 (0, 0)) := (setRow_heap _ _ _ _ _ _ xh5)
          have hS := hS.store (numC Bq)
          generalize w30.setRow (g5) (numC Bq) = w31 at *
          refine hK.out _ _ hS ?_
          clear hK K
          intro _
          have hSz := hS.size
          refine wpAnyH_done (by kernel_rfl) ?_ _
          refine NoPanic.normal ?_
          have hsz := hS.size
          have h1 : w31.heap[w.heap.size]? = some (.cells (numC q) 42 (0, 0)) := hS.old h1 (by omega)
          have h2 : w31.heap[w.heap.size + 1]? = some (.cells (z4) 42 (0, 0)) := hS.old h2 (by omega)
          have h4 : w31.heap[w.heap.size + 1 + 1]? = some (.cells (numC eA) 42 (0, 0)) := hS.old h4 (by omega)
          have h5 := xh5
          have hBw31 : Hid (Below w.heap.size w w31) := Lib.hid (hBw24.out.trans (hS.below (by omega) hBw24.out.size))
          clear hS
          go_wp2_with fail
          go_meet
          exact ⟨rfl, Lib.hid h1, Lib.hid h2, Lib.hid h4, Lib.hid h5, Lib.hid hBw31.out, Lib.hid (show w24.heap.size ≤ w31.heap.size by omega)⟩
        · intro K hK
          refine ready_call rfl (some 20) rfl 41 #[.int .u64 2] (by go_simp) ?_
          refine (small_any 2 (by omega) _).mono ?_
          rintro e w33 ⟨rfl, hC⟩
          refine ⟨_, rfl, ?_⟩
          simp only [Act.put, List.setIfInBounds_toArray, List.set_cons_zero, List.set_cons_succ]
          have xh5 : w33.heap[g5]? = some (.cells (numC A) 42 (0, 0)) := (heap_call hC xh5)
          have hS := hS.call hC
          have hz33 := hC.size
          clear hC
          refine hK.out _ _ hS ?_
          clear hK K
          intro _
          have hSz := hS.size
          refine wpAnyH_ready (rs := [0, 3]) (by kernel_rfl) (by simp) ?_
          refine (AllReadyH.cons rfl ?_ (AllReadyH.cons rfl ?_ AllReadyH.nil))
          · intro K hK
            rw [if_pos (by rfl)]
            refine wp_load_row 42 _ rfl (g5) rfl _ (numC A) _ _ xh5 underNum rfl (infoNum_of (numC A) (numC_size _)) ?_
            refine put_at (some 19) rfl ?_
            simp only [Act.put, List.setIfInBounds_toArray, List.set_cons_zero, List.set_cons_succ]
            refine hK.out _ _ hS ?_
            clear hK K
            intro _
            have hSz := hS.size
            refine wpAnyH_ready (rs := [3]) (by kernel_rfl) (by simp) ?_
            refine (AllReadyH.cons rfl ?_ AllReadyH.nil)
            intro K hK
            refine ready_call rfl (some 22) rfl 36 #[] (by go_simp) ?_
            refine (prime_any _).mono ?_
            rintro e w34 ⟨rfl, hC⟩
            refine ⟨_, rfl, ?_⟩
            simp only [Act.put, List.setIfInBounds_toArray, List.set_cons_zero, List.set_cons_succ]
            have xh5 : w34.heap[g5]? = some (.cells (numC A) 42 (0, 0)) := (heap_call hC xh5)
            have hS := hS.call hC
            have hz34 := hC.size
            clear hC
            refine hK.out _ _ hS ?_
            clear hK K
            intro _
            have hSz := hS.size
            refine wpAnyH_ready (rs := [4]) (by kernel_rfl) (by simp) ?_
            refine (AllReadyH.cons rfl ?_ AllReadyH.nil)
            intro K hK
            refine ready_call rfl (some 23) rfl 44 #[.agg (numC 2), .agg (numC eJ), .agg (numC pF)] (by go_simp) ?_
            refine (power_to tw eJ pF J HJ (by unfold tw pF; omega) (by unfold eJ; omega) (by unfold pF; omega) (by unfold pF; omega) _).mono ?_
            rintro e w35 ⟨rfl, hC⟩
            refine ⟨_, rfl, ?_⟩
            simp only [Act.put, List.setIfInBounds_toArray, List.set_cons_zero, List.set_cons_succ]
            have xh5 : w35.heap[g5]? = some (.cells (numC A) 42 (0, 0)) := (heap_call hC xh5)
            have hS := hS.call hC
            have hz35 := hC.size
            clear hC
            refine hK.out _ _ hS ?_
            clear hK K
            intro _
            have hSz := hS.size
            refine wpAnyH_ready (rs := [5]) (by kernel_rfl) (by simp) ?_
            refine (AllReadyH.cons rfl ?_ AllReadyH.nil)
            intro K hK
            refine ready_call rfl (some 24) rfl 36 #[] (by go_simp) ?_
            refine (prime_any _).mono ?_
            rintro e w36 ⟨rfl, hC⟩
            refine ⟨_, rfl, ?_⟩
            simp only [Act.put, List.setIfInBounds_toArray, List.set_cons_zero, List.set_cons_succ]
            have xh5 : w36.heap[g5]? = some (.cells (numC A) 42 (0, 0)) := (heap_call hC xh5)
            have hS := hS.call hC
            have hz36 := hC.size
            clear hC
            refine hK.out _ _ hS ?_
            clear hK K
            intro _
            have hSz := hS.size
            refine wpAnyH_ready (rs := [6]) (by kernel_rfl) (by simp) ?_
            refine (AllReadyH.cons rfl ?_ AllReadyH.nil)
            intro K hK
            refine ready_call rfl (some 25) rfl 39 #[.agg (numC A), .agg (numC J), .agg (numC pF)] (by go_simp) ?_
            refine (times_to A J pF Bq HBq lA (Nat.lt_trans lJ (by unfold pF; omega)) (by unfold pF; omega) _).mono ?_
            rintro e w37 ⟨rfl, hC⟩
            refine ⟨_, rfl, ?_⟩
            simp only [Act.put, List.setIfInBounds_toArray, List.set_cons_zero, List.set_cons_succ]
            have xh5 : w37.heap[g5]? = some (.cells (numC A) 42 (0, 0)) := (heap_call hC xh5)
            have hS := hS.call hC
            have hz37 := hC.size
            clear hC
            refine hK.out _ _ hS ?_
            clear hK K
            intro _
            have hSz := hS.size
            refine wpAnyH_ready (rs := [7]) (by kernel_rfl) (by simp) ?_
            refine (AllReadyH.cons rfl ?_ AllReadyH.nil)
            intro K hK
            rw [if_pos (by rfl)]
            refine wp_store_row 42 _ _ rfl (g5) (numC Bq) rfl rfl 42 (numC A) xh5 (infoNum_of (numC Bq) (numC_size _)) ((numC_size _).trans (numC_size _).symm) (numC_one _) ?_
            refine put_at (none) rfl ?_
            simp only [Act.put, List.setIfInBounds_toArray, List.set_cons_zero, List.set_cons_succ]
            have xh5 : (w37.setRow (g5) (numC Bq)).heap[g5]? = some (.cells (numC Bq) 42 (0, 0)) := (setRow_heap _ _ _ _ _ _ xh5)
            have hS := hS.store (numC Bq)
            generalize w37.setRow (g5) (numC Bq) = w38 at *
            refine hK.out _ _ hS ?_
            clear hK K
            intro _
            have hSz := hS.size
            refine wpAnyH_done (by kernel_rfl) ?_ _
            refine NoPanic.normal ?_
            have hsz := hS.size
            have h1 : w38.heap[w.heap.size]? = some (.cells (numC q) 42 (0, 0)) := hS.old h1 (by omega)
            have h2 : w38.heap[w.heap.size + 1]? = some (.cells (z4) 42 (0, 0)) := hS.old h2 (by omega)
            have h4 : w38.heap[w.heap.size + 1 + 1]? = some (.cells (numC eA) 42 (0, 0)) := hS.old h4 (by omega)
            have h5 := xh5
            have hBw38 : Hid (Below w.heap.size w w38) := Lib.hid (hBw24.out.trans (hS.below (by omega) hBw24.out.size))
            clear hS
            go_wp2_with fail
            go_meet
            exact ⟨rfl, Lib.hid h1, Lib.hid h2, Lib.hid h4, Lib.hid h5, Lib.hid hBw38.out, Lib.hid (show w24.heap.size ≤ w38.heap.size by omega)⟩
          · intro K hK
            refine ready_call rfl (some 22) rfl 36 #[] (by go_simp) ?_
            refine (prime_any _).mono ?_
            rintro e w40 ⟨rfl, hC⟩
            refine ⟨_, rfl, ?_⟩
            simp only [Act.put, List.setIfInBounds_toArray, List.set_cons_zero, List.set_cons_succ]
            have xh5 : w40.heap[g5]? = some (.cells (numC A) 42 (0, 0)) := (heap_call hC xh5)
            have hS := hS.call hC
            have hz40 := hC.size
            clear hC
            refine hK.out _ _ hS ?_
            clear hK K
            intro _
            have hSz := hS.size
            refine wpAnyH_ready (rs := [0, 4]) (by kernel_rfl) (by simp) ?_
            refine (AllReadyH.cons rfl ?_ (AllReadyH.cons rfl ?_ AllReadyH.nil))
            · intro K hK
              rw [if_pos (by rfl)]
              refine wp_load_row 42 _ rfl (g5) rfl _ (numC A) _ _ xh5 underNum rfl (infoNum_of (numC A) (numC_size _)) ?_
              refine put_at (some 19) rfl ?_
              simp only [Act.put, List.setIfInBounds_toArray, List.set_cons_zero, List.set_cons_succ]
              refine hK.out _ _ hS ?_
              clear hK K
              intro _
              have hSz := hS.size
              refine wpAnyH_ready (rs := [4]) (by kernel_rfl) (by simp) ?_
              refine (AllReadyH.cons rfl ?_ AllReadyH.nil)
              intro K hK
              refine ready_call rfl (some 23) rfl 44 #[.agg (numC 2), .agg (numC eJ), .agg (numC pF)] (by go_simp) ?_
              refine (power_to tw eJ pF J HJ (by unfold tw pF; omega) (by unfold eJ; omega) (by unfold pF; omega) (by unfold pF; omega) _).mono ?_
              rintro e w41 ⟨rfl, hC⟩
              refine ⟨_, rfl, ?_⟩
              simp only [Act.put, List.setIfInBounds_toArray, List.set_cons_zero, List.set_cons_succ]
              have xh5 : w41.heap[g5]? = some (.cells (numC A) 42 (0, 0)) := (heap_call hC xh5)
              have hS := hS.call hC
              have hz41 := hC.size
              clear hC
              refine hK.out _ _ hS ?_
              clear hK K
              intro _
              have hSz := hS.size
              refine wpAnyH_ready (rs := [5]) (by kernel_rfl) (by simp) ?_
              refine (AllReadyH.cons rfl ?_ AllReadyH.nil)
              intro K hK
              refine ready_call rfl (some 24) rfl 36 #[] (by go_simp) ?_
              refine (prime_any _).mono ?_
              rintro e w42 ⟨rfl, hC⟩
              refine ⟨_, rfl, ?_⟩
              simp only [Act.put, List.setIfInBounds_toArray, List.set_cons_zero, List.set_cons_succ]
              have xh5 : w42.heap[g5]? = some (.cells (numC A) 42 (0, 0)) := (heap_call hC xh5)
              have hS := hS.call hC
              have hz42 := hC.size
              clear hC
              refine hK.out _ _ hS ?_
              clear hK K
              intro _
              have hSz := hS.size
              refine wpAnyH_ready (rs := [6]) (by kernel_rfl) (by simp) ?_
              refine (AllReadyH.cons rfl ?_ AllReadyH.nil)
              intro K hK
              refine ready_call rfl (some 25) rfl 39 #[.agg (numC A), .agg (numC J), .agg (numC pF)] (by go_simp) ?_
              refine (times_to A J pF Bq HBq lA (Nat.lt_trans lJ (by unfold pF; omega)) (by unfold pF; omega) _).mono ?_
              rintro e w43 ⟨rfl, hC⟩
              refine ⟨_, rfl, ?_⟩
              simp only [Act.put, List.setIfInBounds_toArray, List.set_cons_zero, List.set_cons_succ]
              have xh5 : w43.heap[g5]? = some (.cells (numC A) 42 (0, 0)) := (heap_call hC xh5)
              have hS := hS.call hC
              have hz43 := hC.size
              clear hC
              refine hK.out _ _ hS ?_
              clear hK K
              intro _
              have hSz := hS.size
              refine wpAnyH_ready (rs := [7]) (by kernel_rfl) (by simp) ?_
              refine (AllReadyH.cons rfl ?_ AllReadyH.nil)
              intro K hK
              rw [if_pos (by rfl)]
              refine wp_store_row 42 _ _ rfl (g5) (numC Bq) rfl rfl 42 (numC A) xh5 (infoNum_of (numC Bq) (numC_size _)) ((numC_size _).trans (numC_size _).symm) (numC_one _) ?_
              refine put_at (none) rfl ?_
              simp only [Act.put, List.setIfInBounds_toArray, List.set_cons_zero, List.set_cons_succ]
              have xh5 : (w43.setRow (g5) (numC Bq)).heap[g5]? = some (.cells (numC Bq) 42 (0, 0)) := (setRow_heap _ _ _ _ _ _ xh5)
              have hS := hS.store (numC Bq)
              generalize w43.setRow (g5) (numC Bq) = w44 at *
              refine hK.out _ _ hS ?_
              clear hK K
              intro _
              have hSz := hS.size
              refine wpAnyH_done (by kernel_rfl) ?_ _
              refine NoPanic.normal ?_
              have hsz := hS.size
              have h1 : w44.heap[w.heap.size]? = some (.cells (numC q) 42 (0, 0)) := hS.old h1 (by omega)
              have h2 : w44.heap[w.heap.size + 1]? = some (.cells (z4) 42 (0, 0)) := hS.old h2 (by omega)
              have h4 : w44.heap[w.heap.size + 1 + 1]? = some (.cells (numC eA) 42 (0, 0)) := hS.old h4 (by omega)
              have h5 := xh5
              have hBw44 : Hid (Below w.heap.size w w44) := Lib.hid (hBw24.out.trans (hS.below (by omega) hBw24.out.size))
              clear hS
              go_wp2_with fail
              go_meet
              exact ⟨rfl, Lib.hid h1, Lib.hid h2, Lib.hid h4, Lib.hid h5, Lib.hid hBw44.out, Lib.hid (show w24.heap.size ≤ w44.heap.size by omega)⟩
            · intro K hK
              refine ready_call rfl (some 23) rfl 44 #[.agg (numC 2), .agg (numC eJ), .agg (numC pF)] (by go_simp) ?_
              refine (power_to tw eJ pF J HJ (by unfold tw pF; omega) (by unfold eJ; omega) (by unfold pF; omega) (by unfold pF; omega) _).mono ?_
              rintro e w46 ⟨rfl, hC⟩
              refine ⟨_, rfl, ?_⟩
              simp only [Act.put, List.setIfInBounds_toArray, List.set_cons_zero, List.set_cons_succ]
              have xh5 : w46.heap[g5]? = some (.cells (numC A) 42 (0, 0)) := (heap_call hC xh5)
              have hS := hS.call hC
              have hz46 := hC.size
              clear hC
              refine hK.out _ _ hS ?_
              clear hK K
              intro _
              have hSz := hS.size
              refine wpAnyH_ready (rs := [0, 5]) (by kernel_rfl) (by simp) ?_
              refine (AllReadyH.cons rfl ?_ (AllReadyH.cons rfl ?_ AllReadyH.nil))
              · intro K hK
                rw [if_pos (by rfl)]
                refine wp_load_row 42 _ rfl (g5) rfl _ (numC A) _ _ xh5 underNum rfl (infoNum_of (numC A) (numC_size _)) ?_
                refine put_at (some 19) rfl ?_
                simp only [Act.put, List.setIfInBounds_toArray, List.set_cons_zero, List.set_cons_succ]
                refine hK.out _ _ hS ?_
                clear hK K
                intro _
                have hSz := hS.size
                refine wpAnyH_ready (rs := [5]) (by kernel_rfl) (by simp) ?_
                refine (AllReadyH.cons rfl ?_ AllReadyH.nil)
                intro K hK
                refine ready_call rfl (some 24) rfl 36 #[] (by go_simp) ?_
                refine (prime_any _).mono ?_
                rintro e w47 ⟨rfl, hC⟩
                refine ⟨_, rfl, ?_⟩
                simp only [Act.put, List.setIfInBounds_toArray, List.set_cons_zero, List.set_cons_succ]
                have xh5 : w47.heap[g5]? = some (.cells (numC A) 42 (0, 0)) := (heap_call hC xh5)
                have hS := hS.call hC
                have hz47 := hC.size
                clear hC
                refine hK.out _ _ hS ?_
                clear hK K
                intro _
                have hSz := hS.size
                refine wpAnyH_ready (rs := [6]) (by kernel_rfl) (by simp) ?_
                refine (AllReadyH.cons rfl ?_ AllReadyH.nil)
                intro K hK
                refine ready_call rfl (some 25) rfl 39 #[.agg (numC A), .agg (numC J), .agg (numC pF)] (by go_simp) ?_
                refine (times_to A J pF Bq HBq lA (Nat.lt_trans lJ (by unfold pF; omega)) (by unfold pF; omega) _).mono ?_
                rintro e w48 ⟨rfl, hC⟩
                refine ⟨_, rfl, ?_⟩
                simp only [Act.put, List.setIfInBounds_toArray, List.set_cons_zero, List.set_cons_succ]
                have xh5 : w48.heap[g5]? = some (.cells (numC A) 42 (0, 0)) := (heap_call hC xh5)
                have hS := hS.call hC
                have hz48 := hC.size
                clear hC
                refine hK.out _ _ hS ?_
                clear hK K
                intro _
                have hSz := hS.size
                refine wpAnyH_ready (rs := [7]) (by kernel_rfl) (by simp) ?_
                refine (AllReadyH.cons rfl ?_ AllReadyH.nil)
                intro K hK
                rw [if_pos (by rfl)]
                refine wp_store_row 42 _ _ rfl (g5) (numC Bq) rfl rfl 42 (numC A) xh5 (infoNum_of (numC Bq) (numC_size _)) ((numC_size _).trans (numC_size _).symm) (numC_one _) ?_
                refine put_at (none) rfl ?_
                simp only [Act.put, List.setIfInBounds_toArray, List.set_cons_zero, List.set_cons_succ]
                have xh5 : (w48.setRow (g5) (numC Bq)).heap[g5]? = some (.cells (numC Bq) 42 (0, 0)) := (setRow_heap _ _ _ _ _ _ xh5)
                have hS := hS.store (numC Bq)
                generalize w48.setRow (g5) (numC Bq) = w49 at *
                refine hK.out _ _ hS ?_
                clear hK K
                intro _
                have hSz := hS.size
                refine wpAnyH_done (by kernel_rfl) ?_ _
                refine NoPanic.normal ?_
                have hsz := hS.size
                have h1 : w49.heap[w.heap.size]? = some (.cells (numC q) 42 (0, 0)) := hS.old h1 (by omega)
                have h2 : w49.heap[w.heap.size + 1]? = some (.cells (z4) 42 (0, 0)) := hS.old h2 (by omega)
                have h4 : w49.heap[w.heap.size + 1 + 1]? = some (.cells (numC eA) 42 (0, 0)) := hS.old h4 (by omega)
                have h5 := xh5
                have hBw49 : Hid (Below w.heap.size w w49) := Lib.hid (hBw24.out.trans (hS.below (by omega) hBw24.out.size))
                clear hS
                go_wp2_with fail
                go_meet
                exact ⟨rfl, Lib.hid h1, Lib.hid h2, Lib.hid h4, Lib.hid h5, Lib.hid hBw49.out, Lib.hid (show w24.heap.size ≤ w49.heap.size by omega)⟩
              · intro K hK
                refine ready_call rfl (some 24) rfl 36 #[] (by go_simp) ?_
                refine (prime_any _).mono ?_
                rintro e w51 ⟨rfl, hC⟩
                refine ⟨_, rfl, ?_⟩
                simp only [Act.put, List.setIfInBounds_toArray, List.set_cons_zero, List.set_cons_succ]
                have xh5 : w51.heap[g5]? = some (.cells (numC A) 42 (0, 0)) := (heap_call hC xh5)
                have hS := hS.call hC
                have hz51 := hC.size
                clear hC
                refine hK.out _ _ hS ?_
                clear hK K
                intro _
                have hSz := hS.size
                refine wpAnyH_ready (rs := [0]) (by kernel_rfl) (by simp) ?_
                refine (AllReadyH.cons rfl ?_ AllReadyH.nil)
                intro K hK
                rw [if_pos (by rfl)]
                refine wp_load_row 42 _ rfl (g5) rfl _ (numC A) _ _ xh5 underNum rfl (infoNum_of (numC A) (numC_size _)) ?_
                refine put_at (some 19) rfl ?_
                simp only [Act.put, List.setIfInBounds_toArray, List.set_cons_zero, List.set_cons_succ]
                refine hK.out _ _ hS ?_
                clear hK K
                intro _
                have hSz := hS.size
                refine wpAnyH_ready (rs := [6]) (by kernel_rfl) (by simp) ?_
                refine (AllReadyH.cons rfl ?_ AllReadyH.nil)
                intro K hK
                refine ready_call rfl (some 25) rfl 39 #[.agg (numC A), .agg (numC J), .agg (numC pF)] (by go_simp) ?_
                refine (times_to A J pF Bq HBq lA (Nat.lt_trans lJ (by unfold pF; omega)) (by unfold pF; omega) _).mono ?_
                rintro e w52 ⟨rfl, hC⟩
                refine ⟨_, rfl, ?_⟩
                simp only [Act.put, List.setIfInBounds_toArray, List.set_cons_zero, List.set_cons_succ]
                have xh5 : w52.heap[g5]? = some (.cells (numC A) 42 (0, 0)) := (heap_call hC xh5)
                have hS := hS.call hC
                have hz52 := hC.size
                clear hC
                refine hK.out _ _ hS ?_
                clear hK K
                intro _
                have hSz := hS.size
                refine wpAnyH_ready (rs := [7]) (by kernel_rfl) (by simp) ?_
                refine (AllReadyH.cons rfl ?_ AllReadyH.nil)
                intro K hK
                rw [if_pos (by rfl)]
                refine wp_store_row 42 _ _ rfl (g5) (numC Bq) rfl rfl 42 (numC A) xh5 (infoNum_of (numC Bq) (numC_size _)) ((numC_size _).trans (numC_size _).symm) (numC_one _) ?_
                refine put_at (none) rfl ?_
                simp only [Act.put, List.setIfInBounds_toArray, List.set_cons_zero, List.set_cons_succ]
                have xh5 : (w52.setRow (g5) (numC Bq)).heap[g5]? = some (.cells (numC Bq) 42 (0, 0)) := (setRow_heap _ _ _ _ _ _ xh5)
                have hS := hS.store (numC Bq)
                generalize w52.setRow (g5) (numC Bq) = w53 at *
                refine hK.out _ _ hS ?_
                clear hK K
                intro _
                have hSz := hS.size
                refine wpAnyH_done (by kernel_rfl) ?_ _
                refine NoPanic.normal ?_
                have hsz := hS.size
                have h1 : w53.heap[w.heap.size]? = some (.cells (numC q) 42 (0, 0)) := hS.old h1 (by omega)
                have h2 : w53.heap[w.heap.size + 1]? = some (.cells (z4) 42 (0, 0)) := hS.old h2 (by omega)
                have h4 : w53.heap[w.heap.size + 1 + 1]? = some (.cells (numC eA) 42 (0, 0)) := hS.old h4 (by omega)
                have h5 := xh5
                have hBw53 : Hid (Below w.heap.size w w53) := Lib.hid (hBw24.out.trans (hS.below (by omega) hBw24.out.size))
                clear hS
                go_wp2_with fail
                go_meet
                exact ⟨rfl, Lib.hid h1, Lib.hid h2, Lib.hid h4, Lib.hid h5, Lib.hid hBw53.out, Lib.hid (show w24.heap.size ≤ w53.heap.size by omega)⟩
      case rest =>
        obtain ⟨rfl, Hh1, Hh2, Hh4, Hh5, hBw55, Hsz55⟩ := hcut
        obtain ⟨w55, rfl⟩ : ∃ u : World, u = wc := ⟨_, rfl⟩
        have h1 := Hh1.out
        have h2 := Hh2.out
        have h4 := Hh4.out
        have h5 := Hh5.out
        have hsz55 := Hsz55.out
        go_wp2_with fail
        try simp only [Act.put]
        refine wp_named ?_
        intro w56 ew56
        have hs56 : w55.heap.size ≤ w56.heap.size := by rw [ew56]; (try simp only [alloc_size, setRow_size]); omega
        replace h1 : w56.heap[w.heap.size]? = some (.cells (numC q) 42 (0, 0)) := by rw [ew56]; exact h1
        replace h2 : w56.heap[w.heap.size + 1]? = some (.cells (z4) 42 (0, 0)) := by rw [ew56]; exact h2
        replace h4 : w56.heap[w.heap.size + 1 + 1]? = some (.cells (numC eA) 42 (0, 0)) := by rw [ew56]; exact h4
        replace h5 : w56.heap[g5]? = some (.cells (numC Bq) 42 (0, 0)) := by rw [ew56]; exact h5
        have hBw56 : Hid (Below w.heap.size w w56) := Lib.hid (by rw [ew56]; exact hBw55.out)
        clear ew56
        go_cut [31] (fun s31 wx => s31 = .bool true ∧ Hid (wx.heap[w.heap.size]? = some (.cells (numC q) 42 (0, 0))) ∧ Hid (wx.heap[w.heap.size + 1]? = some (.cells (z4) 42 (0, 0))) ∧ Hid (wx.heap[w.heap.size + 1 + 1]? = some (.cells (numC eA) 42 (0, 0))) ∧ Hid (wx.heap[g5]? = some (.cells (numC Bq) 42 (0, 0))) ∧ Hid (Below w.heap.size w wx) ∧ Hid (w56.heap.size ≤ wx.heap.size))
        case first =>
          refine wp_region_noPanic ?_
          refine wp_region_held_drew (S := Keep (w56.heap.size) w56) (by kernel_rfl) (Keep.start _ _) ?_
          intro hS
          obtain ⟨w57, ed⟩ : ∃ u : World, u = w56.drew := ⟨_, rfl⟩
          rw [← ed] at hS ⊢
          have xh1 : w57.heap[w.heap.size]? = some (.cells (numC q) 42 (0, 0)) := by rw [ed]; exact h1
          have xh2 : w57.heap[w.heap.size + 1]? = some (.cells (z4) 42 (0, 0)) := by rw [ed]; exact h2
          have xh4 : w57.heap[w.heap.size + 1 + 1]? = some (.cells (numC eA) 42 (0, 0)) := by rw [ed]; exact h4
          have xh5 : w57.heap[g5]? = some (.cells (numC Bq) 42 (0, 0)) := by rw [ed]; exact h5
          clear ed
          have hSz := hS.size
          clear xh1
          clear xh2
          clear xh4
          clear xh5
          refine takeAt (i := 0) (v := .agg (numC Bq)) rfl (some 26) rfl (by kernel_rfl) (by kernel_rfl) (by kernel_rfl) (fun _ _ _ h => h) (take_row rfl _ _ rfl (g5) rfl _ _ _ h5 (Nat.ne_of_lt (heap_lt h5)) underNum rfl (infoNum_of (numC Bq) (numC_size _))) hS ?_
          simp only [Act.put, List.setIfInBounds_toArray, List.set_cons_zero, List.set_cons_succ]
          refine takeAt (i := 1) (v := .agg (numC Bq)) rfl (some 27) rfl (by kernel_rfl) (by kernel_rfl) (by kernel_rfl) (fun _ _ _ h => h) (take_row rfl _ _ rfl (g5) rfl _ _ _ h5 (Nat.ne_of_lt (heap_lt h5)) underNum rfl (infoNum_of (numC Bq) (numC_size _))) hS ?_
          simp only [Act.put, List.setIfInBounds_toArray, List.set_cons_zero, List.set_cons_succ]
          refine takeAt (i := 4) (v := .agg (numC q)) rfl (some 30) rfl (by kernel_rfl) (by kernel_rfl) (by kernel_rfl) (fun _ _ _ h => h) (take_row rfl _ _ rfl (w.heap.size) rfl _ _ _ h1 (Nat.ne_of_lt (heap_lt h1)) underNum rfl (infoNum_of (numC q) (numC_size _))) hS ?_
          simp only [Act.put, List.setIfInBounds_toArray, List.set_cons_zero, List.set_cons_succ]
          refine wpAnyH_ready (rs := [2]) (by kernel_rfl) (by simp) ?_
          refine (AllReadyH.cons rfl ?_ AllReadyH.nil)
          intro K hK
          refine ready_call rfl (some 28) rfl 36 #[] (by go_simp) ?_
          refine (prime_any _).mono ?_
          rintro e w58 ⟨rfl, hC⟩
          refine ⟨_, rfl, ?_⟩
          simp only [Act.put, List.setIfInBounds_toArray, List.set_cons_zero, List.set_cons_succ]
          have hS := hS.call hC
          have hz58 := hC.size
          clear hC
          refine hK.out _ _ hS ?_
          clear hK K
          intro _
          have hSz := hS.size
          refine wpAnyH_ready (rs := [3]) (by kernel_rfl) (by simp) ?_
          refine (AllReadyH.cons rfl ?_ AllReadyH.nil)
          intro K hK
          refine ready_call rfl (some 29) rfl 39 #[.agg (numC Bq), .agg (numC Bq), .agg (numC pF)] (by go_simp) ?_
          refine (times_to Bq Bq pF q Hq lBq (Nat.lt_trans lBq (by unfold pF; omega)) (by unfold pF; omega) _).mono ?_
          rintro e w59 ⟨rfl, hC⟩
          refine ⟨_, rfl, ?_⟩
          simp only [Act.put, List.setIfInBounds_toArray, List.set_cons_zero, List.set_cons_succ]
          have hS := hS.call hC
          have hz59 := hC.size
          clear hC
          refine hK.out _ _ hS ?_
          clear hK K
          intro _
          have hSz := hS.size
          refine takeAt (i := 5) (v := .bool true) rfl (some 31) rfl (by kernel_rfl) (by kernel_rfl) (by kernel_rfl) (fun _ _ _ h => h) (take_run rfl (fun _ _ => by go_simp; rw [run_eq_num _ _ (Nat.lt_trans lq (by unfold pF; omega)) (Nat.lt_trans lq (by unfold pF; omega))]; simp)) hS ?_
          simp only [Act.put, List.setIfInBounds_toArray, List.set_cons_zero, List.set_cons_succ]
          refine wpAnyH_done (by kernel_rfl) ?_ _
          refine NoPanic.normal ?_
          have hsz := hS.size
          have h1 : w59.heap[w.heap.size]? = some (.cells (numC q) 42 (0, 0)) := hS.old h1 (Nat.ne_of_lt (heap_lt h1))
          have h2 : w59.heap[w.heap.size + 1]? = some (.cells (z4) 42 (0, 0)) := hS.old h2 (Nat.ne_of_lt (heap_lt h2))
          have h4 : w59.heap[w.heap.size + 1 + 1]? = some (.cells (numC eA) 42 (0, 0)) := hS.old h4 (Nat.ne_of_lt (heap_lt h4))
          have h5 : w59.heap[g5]? = some (.cells (numC Bq) 42 (0, 0)) := hS.old h5 (Nat.ne_of_lt (heap_lt h5))
          have hBw59 : Hid (Below w.heap.size w w59) := Lib.hid (hBw56.out.trans (hS.below (by omega) hBw56.out.size))
          clear hS
          go_wp2_with fail
          go_meet
          exact ⟨rfl, Lib.hid h1, Lib.hid h2, Lib.hid h4, Lib.hid h5, Lib.hid hBw59.out, Lib.hid (show w56.heap.size ≤ w59.heap.size by omega)⟩
        case rest =>
          obtain ⟨rfl, Hh1, Hh2, Hh4, Hh5, hBw61, Hsz61⟩ := hcut
          obtain ⟨w61, rfl⟩ : ∃ u : World, u = wc := ⟨_, rfl⟩
          have h1 := Hh1.out
          have h2 := Hh2.out
          have h4 := Hh4.out
          have h5 := Hh5.out
          have hsz61 := Hsz61.out
          go_wp2_with (first
            | ((with_reducible refine at_dst 32 ?_); refine wpList_load_row rfl 42 _ rfl (g5) rfl 42 (numC Bq) (0, 0) _ h5 underNum rfl (infoNum_of (numC Bq) (numC_size _)) ?_))
          refine (sabsolute_to Bq R lBq HR _).mono ?_
          rintro e w62 ⟨rfl, hC62⟩
          have hs62 : w61.heap.size ≤ w62.heap.size := by have := hC62.size; (try simp only [alloc_size, setRow_size] at this); omega
          replace h1 : w62.heap[w.heap.size]? = some (.cells (numC q) 42 (0, 0)) := (heap_call hC62 h1)
          replace h2 : w62.heap[w.heap.size + 1]? = some (.cells (z4) 42 (0, 0)) := (heap_call hC62 h2)
          replace h4 : w62.heap[w.heap.size + 1 + 1]? = some (.cells (numC eA) 42 (0, 0)) := (heap_call hC62 h4)
          replace h5 : w62.heap[g5]? = some (.cells (numC Bq) 42 (0, 0)) := (heap_call hC62 h5)
          have hBw62 : Hid (Below w.heap.size w w62) := Lib.hid (below_call hBw61.out hC62)
          clear hC62
          go_wp2_with (first
            | ((with_reducible refine at_store 2 ?_); refine wpList_store_row rfl 42 _ _ rfl (w.heap.size + 1) (numC R) rfl rfl 42 (z4) h2 (infoNum_of (numC R) (numC_size _)) (z4_size.trans (numC_size _).symm) (numC_one _) ?_))
          refine bodyPost_ret (results_row_tmp rfl _ _ (w.heap.size + 1) 42 (numC R) (0, 0) _ rfl (setRow_heap _ _ _ _ _ _ h2) underNum rfl (infoNum_of (numC R) (numC_size _))) rfl ⟨rfl, (below_setRow hBw62.out (by omega) _)⟩
end Go.Proofs.YtemgflkecflhmaaDoor
