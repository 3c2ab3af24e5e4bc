/- The reference's root of a ratio. -/
import Derived.Test.YtemgflkecflhmaaDoorKHSQ
import Derived.Test.YtemgflkecflhmaaDoorKHSQB
import Derived.Test.YtemgflkecflhmaaDoorKHSQN
import Derived.Test.YtemgflkecflhmaaDoorKL0
set_option maxRecDepth 4000
set_option linter.unusedSimpArgs false
set_option linter.unusedVariables false
namespace Go.Proofs.YtemgflkecflhmaaDoor
open Go.RowKit

theorem m1_fp : fp (pF - 1) = -1 := by rw [fp_neg 1 (by unfold pF; omega), fp_one]
theorem root_yes' (q R : Nat) (lq : q < pF) (h : rtIs q = true) (hR : Hid (R = rtR q)) (w : World) : Calls Tryd.prog 62 #[.agg (numC q)] w fun e w' => e = .returned (.tuple #[.agg (numC R), .bool true]) ∧ Below w.heap.size w w' := by
  by_cases hA : rtA q * rtA q % pF = q
  · exact root_A q lq (Lib.hid hA) R (Lib.hid (by rw [hR.out]; unfold rtR; rw [if_pos hA])) w
  · have hB : rtB q * rtB q % pF = q := by
      unfold rtIs at h; simpa [hA] using h
    exact root_B q lq (Lib.hid ⟨hA, hB⟩) R (Lib.hid (by rw [hR.out]; unfold rtR; rw [if_neg hA, if_pos hB])) w
theorem root_not' (q : Nat) (lq : q < pF) (h : rtIs q = false) (w : World) : Calls Tryd.prog 62 #[.agg (numC q)] w fun e w' => e = .returned (.tuple #[.agg z4, .bool false]) ∧ Below w.heap.size w w' := by
  unfold rtIs at h
  simp only [Bool.or_eq_false_iff, decide_eq_false_iff_not] at h
  exact root_no q lq (Lib.hid h) w
theorem rt_m1 : rtIs (pF - 1) = true ∧ rtR (pF - 1) = iN := by
  have l1 : pF - 1 < pF := by unfold pF; omega
  have h1 : rtIs (pF - 1) = true := rtIs_of _ l1 (fp iN) (by rw [fi_sq, m1_fp])
  refine ⟨h1, even_root (rtR_lt _) iN_lt (rtR_even _) iN_even ?_⟩
  rw [rtR_sq _ h1, fi_sq, m1_fp]
/-- where u / v is no square, the root of i * (u / v) -/
theorem root_other (u v q : Nat) (hu : u < pF) (hv : v < pF) (v0 : v ≠ 0) (h : fp q * fp v = fp u) (hn : sqW u v = false) : rtIs (iN * q % pF) = true ∧ rtR (iN * q % pF) = sqR u v := by
  have hV : fp v ≠ 0 := fun h => v0 ((fp_zero_iff hv).2 h)
  have l : iN * q % pF < pF := mlt _
  have hs : fp (sqR u v) * fp (sqR u v) = fp (iN * q % pF) := by
    have h2 : fp (sqR u v) * fp (sqR u v) * fp v = fp iN * fp u := by
      by_cases u0 : u = 0
      · subst u0; rw [sqR_u0, fp_zero, Fin.zero_mul, Fin.zero_mul, Fin.mul_zero]
      · rcases sq_ways u v hu hv u0 v0 with ⟨h1, _⟩ | ⟨_, _, h2⟩
        · rw [hn] at h1; exact absurd h1 (by decide)
        · exact h2
    rw [fp_mod, fp_mul]
    refine fp_cancel hV ?_
    grind
  have h1 := rtIs_of _ l _ hs
  exact ⟨h1, even_root (rtR_lt _) (sqR_lt u v) (rtR_even _) (sqR_even u v) (by rw [rtR_sq _ h1, hs])⟩
theorem inv_mul (u v I q : Nat) (hv : v < pF) (v0 : v ≠ 0) (hI : I = xp v 57896044618658097711785492504343953926634992332820282019728792003956564819947) (hq : q = u * I % pF) : fp q * fp v = fp u := by
  have hV : fp v ≠ 0 := fun h => v0 ((fp_zero_iff hv).2 h)
  have h1 := fpInv_mul (fp v) hV
  have h2 : fp I = fpInv (fp v) := by
    have := finv_val (fp v) 57896044618658097711785492504343953926634992332820282019728792003956564819947 (by unfold pF; omega)
    rw [fp_lt hv] at this
    rw [hI, ← this, fp_of]
  rw [hq, fp_mod, fp_mul, h2]
  grind

set_option maxHeartbeats 2000000 in
theorem imaginary_any  (w : World) :
    Calls Tryd.prog 63 #[] w fun e w' => e = .returned (.agg (numC iN)) ∧ Below w.heap.size w w' := by
  obtain ⟨M, qM⟩ : ∃ u : Nat, u = pF - 1 := ⟨_, rfl⟩
  obtain ⟨J, qJ⟩ : ∃ u : Nat, u = iN := ⟨_, rfl⟩
  rw [← qJ]
  have lM : M < pF := by rw [qM]; unfold pF; omega
  have hM : rtIs M = true := by rw [qM]; exact rt_m1.1
  have HJ : Hid (J = rtR M) := Lib.hid (by rw [qJ, qM]; exact rt_m1.2.symm)
  have HM : Hid (M = (pF - 1) % pF) := Lib.hid (by rw [qM]; unfold pF; rfl)
  clear qM qJ
  go_enter Tryd.func63, Tryd.ntmps63
  go_wp2_with fail
  refine (small_any 1 (by omega) _).mono ?_
  rintro e w1 ⟨rfl, hC1⟩
  have hs1 : w.heap.size + 1 ≤ w1.heap.size := by have := hC1.size; (try simp only [alloc_size, setRow_size] at this); omega
  replace h0 : w1.heap[w.heap.size]? = some (.cells (z4) 42 (0, 0)) := (heap_call hC1 (heap_new_at _ _ _ rfl))
  have hBw1 : Hid (Below w.heap.size w w1) := Lib.hid (below_call (below_alloc (Below.refl _ w) _) hC1)
  clear hC1
  go_wp2_with fail
  refine (opposite_to 1 M (by unfold pF; omega) HM _).mono ?_
  rintro e w2 ⟨rfl, hC2⟩
  have hs2 : w1.heap.size ≤ w2.heap.size := by have := hC2.size; (try simp only [alloc_size, setRow_size] at this); omega
  replace h0 : w2.heap[w.heap.size]? = some (.cells (z4) 42 (0, 0)) := (heap_call hC2 h0)
  have hBw2 : Hid (Below w.heap.size w w2) := Lib.hid (below_call hBw1.out hC2)
  clear hC2
  go_wp2_with fail
  refine (root_yes' M J lM hM HJ _).mono ?_
  rintro e w3 ⟨rfl, hC3⟩
  have hs3 : w2.heap.size ≤ w3.heap.size := by have := hC3.size; (try simp only [alloc_size, setRow_size] at this); omega
  replace h0 : w3.heap[w.heap.size]? = some (.cells (z4) 42 (0, 0)) := (heap_call hC3 h0)
  have hBw3 : Hid (Below w.heap.size w w3) := Lib.hid (below_call hBw2.out hC3)
  clear hC3
  go_wp2_with (first
    | ((with_reducible refine at_store 1 ?_); refine wpList_store_row rfl 42 _ _ rfl (w3.heap.size) (numC J) rfl rfl 42 (z4) (heap_new_at _ _ _ rfl) (infoNum_of (numC J) (numC_size _)) (z4_size.trans (numC_size _).symm) (numC_one _) ?_)
    | ((with_reducible refine at_dst 9 ?_); refine wpList_load_row rfl 42 _ rfl (w3.heap.size) rfl 42 (numC J) (0, 0) _ (setRow_heap _ _ _ _ _ _ (heap_new_at _ _ _ rfl)) underNum rfl (infoNum_of (numC J) (numC_size _)) ?_)
    | ((with_reducible refine at_store 0 ?_); refine wpList_store_row rfl 42 _ _ rfl (w.heap.size) (numC J) rfl rfl 42 (z4) (heap_row _ (by omega) (heap_old _ h0)) (infoNum_of (numC J) (numC_size _)) (z4_size.trans (numC_size _).symm) (numC_one _) ?_))
  refine bodyPost_ret (results_cell_row rfl _ _ (w.heap.size) 42 (numC J) (0, 0) _ rfl (setRow_heap _ _ _ _ _ _ (heap_row _ (by omega) (heap_old _ h0))) underNum rfl (infoNum_of (numC J) (numC_size _))) rfl ⟨rfl, (below_setRow (below_setRow (below_alloc hBw3.out _) (by omega) _) (by omega) _)⟩

set_option maxHeartbeats 4000000 in
theorem ratio_u (v : Nat) (lv : v < pF) (w : World) :
    Calls Tryd.prog 45 #[.agg (numC 0), .agg (numC v)] w fun e w' => e = .returned (.tuple #[.agg z4, .int .i64 1]) ∧ Below w.heap.size w w' := by
  go_enter Tryd.func45, Tryd.ntmps45
  go_wp2_with fail
  try simp only [Act.put]
  refine wp_named ?_
  intro w1 ew1
  have hs1 : w.heap.size + 1 + 1 + 1 ≤ w1.heap.size := by rw [ew1]; (try simp only [alloc_size, setRow_size]); omega
  replace h2 : w1.heap[w.heap.size]? = some (.cells (numC 0) 42 (0, 0)) := by rw [ew1]; exact (heap_old _ (heap_old _ (heap_new_at _ _ _ rfl)))
  replace h3 : w1.heap[w.heap.size + 1]? = some (.cells (numC v) 42 (0, 0)) := by rw [ew1]; exact (heap_old _ (heap_new_at _ _ _ (by simp only [alloc_size, setRow_size])))
  replace h4 : w1.heap[w.heap.size + 1 + 1]? = some (.cells (z4) 42 (0, 0)) := by rw [ew1]; exact (heap_new_at _ _ _ (by simp only [alloc_size, setRow_size]))
  have hBw1 : Hid (Below w.heap.size w w1) := Lib.hid (by rw [ew1]; exact (below_alloc (below_alloc (below_alloc (Below.refl _ w) _) _) _))
  clear ew1
  go_cut [11] (fun s11 wx => s11 = .bool true ∧ Hid (wx.heap[w.heap.size]? = some (.cells (numC 0) 42 (0, 0))) ∧ Hid (wx.heap[w.heap.size + 1]? = some (.cells (numC v) 42 (0, 0))) ∧ Hid (wx.heap[w.heap.size + 1 + 1]? = some (.cells (z4) 42 (0, 0))) ∧ Hid (Below w.heap.size w wx) ∧ Hid (w1.heap.size ≤ wx.heap.size))
  case first =>
    refine wp_region_noPanic ?_
    refine wp_region_held_drew (S := Keep (w1.heap.size) w1) (by kernel_rfl) (Keep.start _ _) ?_
    intro hS
    obtain ⟨w2, ed⟩ : ∃ u : World, u = w1.drew := ⟨_, rfl⟩
    rw [← ed] at hS ⊢
    have xh2 : w2.heap[w.heap.size]? = some (.cells (numC 0) 42 (0, 0)) := by rw [ed]; exact h2
    have xh3 : w2.heap[w.heap.size + 1]? = some (.cells (numC v) 42 (0, 0)) := by rw [ed]; exact h3
    have xh4 : w2.heap[w.heap.size + 1 + 1]? = some (.cells (z4) 42 (0, 0)) := by rw [ed]; exact h4
    clear ed
    have hSz := hS.size
    clear xh2
    clear xh3
    clear xh4
    refine takeAt (i := 0) (v := .agg (numC 0)) rfl (some 9) rfl (by kernel_rfl) (by kernel_rfl) (by kernel_rfl) (fun _ _ _ h => h) (take_row rfl _ _ rfl (w.heap.size) rfl _ _ _ h2 (Nat.ne_of_lt (heap_lt h2)) underNum rfl (infoNum_of (numC 0) (numC_size _))) hS ?_
    simp only [Act.put, List.setIfInBounds_toArray, List.set_cons_zero, List.set_cons_succ]
    refine wpAnyH_ready (rs := [1]) (by kernel_rfl) (by simp) ?_
    refine (AllReadyH.cons rfl ?_ AllReadyH.nil)
    intro K hK
    refine ready_call rfl (some 10) rfl 41 #[.int .u64 0] (by go_simp) ?_
    refine (small_any 0 (by omega) _).mono ?_
    rintro e w3 ⟨rfl, hC⟩
    refine ⟨_, rfl, ?_⟩
    simp only [Act.put, List.setIfInBounds_toArray, List.set_cons_zero, List.set_cons_succ]
    have hS := hS.call hC
    have hz3 := hC.size
    clear hC
    refine hK.out _ _ hS ?_
    clear hK K
    intro _
    have hSz := hS.size
    refine takeAt (i := 2) (v := .bool true) rfl (some 11) rfl (by kernel_rfl) (by kernel_rfl) (by kernel_rfl) (fun _ _ _ h => h) (take_run rfl (fun _ _ => by go_simp; rw [run_eq_num _ _ (by omega) (by omega)]; simp)) hS ?_
    simp only [Act.put, List.setIfInBounds_toArray, List.set_cons_zero, List.set_cons_succ]
    refine wpAnyH_done (by kernel_rfl) ?_ _
    refine NoPanic.normal ?_
    have hsz := hS.size
    have h2 : w3.heap[w.heap.size]? = some (.cells (numC 0) 42 (0, 0)) := hS.old h2 (Nat.ne_of_lt (heap_lt h2))
    have h3 : w3.heap[w.heap.size + 1]? = some (.cells (numC v) 42 (0, 0)) := hS.old h3 (Nat.ne_of_lt (heap_lt h3))
    have h4 : w3.heap[w.heap.size + 1 + 1]? = some (.cells (z4) 42 (0, 0)) := hS.old h4 (Nat.ne_of_lt (heap_lt h4))
    have hBw3 : Hid (Below w.heap.size w w3) := Lib.hid (hBw1.out.trans (hS.below (by omega) hBw1.out.size))
    clear hS
    go_wp2_with fail
    go_meet
    exact ⟨rfl, Lib.hid h2, Lib.hid h3, Lib.hid h4, Lib.hid hBw3.out, Lib.hid (show w1.heap.size ≤ w3.heap.size by omega)⟩
  case rest =>
    obtain ⟨rfl, Hh2, Hh3, Hh4, hBw5, Hsz5⟩ := hcut
    obtain ⟨w5, rfl⟩ : ∃ u : World, u = wc := ⟨_, rfl⟩
    have h2 := Hh2.out
    have h3 := Hh3.out
    have h4 := Hh4.out
    have hsz5 := Hsz5.out
    go_wp2_with (first
      | ((with_reducible refine at_store 4 ?_); refine wpList_store_row rfl 42 _ _ rfl (w.heap.size + 1 + 1) (z4) rfl rfl 42 (z4) h4 (infoNum_of (z4) z4_size) (z4_size.trans z4_size.symm) z4_one ?_))
    refine bodyPost_ret (results_row_tmp rfl _ _ (w.heap.size + 1 + 1) 42 (z4) (0, 0) _ rfl (setRow_heap _ _ _ _ _ _ h4) underNum rfl (infoNum_of (z4) z4_size)) rfl ⟨rfl, (below_setRow hBw5.out (by omega) _)⟩

set_option maxHeartbeats 4000000 in
theorem ratio_v (u : Nat) (lu : u < pF) (u0 : Hid (¬ u = 0)) (w : World) :
    Calls Tryd.prog 45 #[.agg (numC u), .agg (numC 0)] w fun e w' => e = .returned (.tuple #[.agg z4, .int .i64 0]) ∧ Below w.heap.size w w' := by
  go_enter Tryd.func45, Tryd.ntmps45
  go_wp2_with fail
  try simp only [Act.put]
  refine wp_named ?_
  intro w1 ew1
  have hs1 : w.heap.size + 1 + 1 + 1 ≤ w1.heap.size := by rw [ew1]; (try simp only [alloc_size, setRow_size]); omega
  replace h2 : w1.heap[w.heap.size]? = some (.cells (numC u) 42 (0, 0)) := by rw [ew1]; exact (heap_old _ (heap_old _ (heap_new_at _ _ _ rfl)))
  replace h3 : w1.heap[w.heap.size + 1]? = some (.cells (numC 0) 42 (0, 0)) := by rw [ew1]; exact (heap_old _ (heap_new_at _ _ _ (by simp only [alloc_size, setRow_size])))
  replace h4 : w1.heap[w.heap.size + 1 + 1]? = some (.cells (z4) 42 (0, 0)) := by rw [ew1]; exact (heap_new_at _ _ _ (by simp only [alloc_size, setRow_size]))
  have hBw1 : Hid (Below w.heap.size w w1) := Lib.hid (by rw [ew1]; exact (below_alloc (below_alloc (below_alloc (Below.refl _ w) _) _) _))
  clear ew1
  go_cut [11] (fun s11 wx => s11 = .bool false ∧ Hid (wx.heap[w.heap.size]? = some (.cells (numC u) 42 (0, 0))) ∧ Hid (wx.heap[w.heap.size + 1]? = some (.cells (numC 0) 42 (0, 0))) ∧ Hid (wx.heap[w.heap.size + 1 + 1]? = some (.cells (z4) 42 (0, 0))) ∧ Hid (Below w.heap.size w wx) ∧ Hid (w1.heap.size ≤ wx.heap.size))
  case first =>
    refine wp_region_noPanic ?_
    refine wp_region_held_drew (S := Keep (w1.heap.size) w1) (by kernel_rfl) (Keep.start _ _) ?_
    intro hS
    obtain ⟨w2, ed⟩ : ∃ u : World, u = w1.drew := ⟨_, rfl⟩
    rw [← ed] at hS ⊢
    have xh2 : w2.heap[w.heap.size]? = some (.cells (numC u) 42 (0, 0)) := by rw [ed]; exact h2
    have xh3 : w2.heap[w.heap.size + 1]? = some (.cells (numC 0) 42 (0, 0)) := by rw [ed]; exact h3
    have xh4 : w2.heap[w.heap.size + 1 + 1]? = some (.cells (z4) 42 (0, 0)) := by rw [ed]; exact h4
    clear ed
    have hSz := hS.size
    clear xh2
    clear xh3
    clear xh4
    refine takeAt (i := 0) (v := .agg (numC u)) rfl (some 9) rfl (by kernel_rfl) (by kernel_rfl) (by kernel_rfl) (fun _ _ _ h => h) (take_row rfl _ _ rfl (w.heap.size) rfl _ _ _ h2 (Nat.ne_of_lt (heap_lt h2)) underNum rfl (infoNum_of (numC u) (numC_size _))) hS ?_
    simp only [Act.put, List.setIfInBounds_toArray, List.set_cons_zero, List.set_cons_succ]
    refine wpAnyH_ready (rs := [1]) (by kernel_rfl) (by simp) ?_
    refine (AllReadyH.cons rfl ?_ AllReadyH.nil)
    intro K hK
    refine ready_call rfl (some 10) rfl 41 #[.int .u64 0] (by go_simp) ?_
    refine (small_any 0 (by omega) _).mono ?_
    rintro e w3 ⟨rfl, hC⟩
    refine ⟨_, rfl, ?_⟩
    simp only [Act.put, List.setIfInBounds_toArray, List.set_cons_zero, List.set_cons_succ]
    have hS := hS.call hC
    have hz3 := hC.size
    clear hC
    refine hK.out _ _ hS ?_
    clear hK K
    intro _
    have hSz := hS.size
    refine takeAt (i := 2) (v := .bool false) rfl (some 11) rfl (by kernel_rfl) (by kernel_rfl) (by kernel_rfl) (fun _ _ _ h => h) (take_run rfl (fun _ _ => by go_simp; rw [run_eq_num _ _ (Nat.lt_trans lu (by unfold pF; omega)) (by omega)]; simp [u0.out])) hS ?_
    simp only [Act.put, List.setIfInBounds_toArray, List.set_cons_zero, List.set_cons_succ]
    refine wpAnyH_done (by kernel_rfl) ?_ _
    refine NoPanic.normal ?_
    have hsz := hS.size
    have h2 : w3.heap[w.heap.size]? = some (.cells (numC u) 42 (0, 0)) := hS.old h2 (Nat.ne_of_lt (heap_lt h2))
    have h3 : w3.heap[w.heap.size + 1]? = some (.cells (numC 0) 42 (0, 0)) := hS.old h3 (Nat.ne_of_lt (heap_lt h3))
    have h4 : w3.heap[w.heap.size + 1 + 1]? = some (.cells (z4) 42 (0, 0)) := hS.old h4 (Nat.ne_of_lt (heap_lt h4))
    have hBw3 : Hid (Below w.heap.size w w3) := Lib.hid (hBw1.out.trans (hS.below (by omega) hBw1.out.size))
    clear hS
    go_wp2_with fail
    go_meet
    exact ⟨rfl, Lib.hid h2, Lib.hid h3, Lib.hid h4, Lib.hid hBw3.out, Lib.hid (show w1.heap.size ≤ w3.heap.size by omega)⟩
  case rest =>
    obtain ⟨rfl, Hh2, Hh3, Hh4, hBw5, Hsz5⟩ := hcut
    obtain ⟨w5, rfl⟩ : ∃ u : World, u = wc := ⟨_, rfl⟩
    have h2 := Hh2.out
    have h3 := Hh3.out
    have h4 := Hh4.out
    have hsz5 := Hsz5.out
    go_wp2_with fail
    try simp only [Act.put]
    refine wp_named ?_
    intro w6 ew6
    have hs6 : w5.heap.size ≤ w6.heap.size := by rw [ew6]; (try simp only [alloc_size, setRow_size]); omega
    replace h2 : w6.heap[w.heap.size]? = some (.cells (numC u) 42 (0, 0)) := by rw [ew6]; exact h2
    replace h3 : w6.heap[w.heap.size + 1]? = some (.cells (numC 0) 42 (0, 0)) := by rw [ew6]; exact h3
    replace h4 : w6.heap[w.heap.size + 1 + 1]? = some (.cells (z4) 42 (0, 0)) := by rw [ew6]; exact h4
    have hBw6 : Hid (Below w.heap.size w w6) := Lib.hid (by rw [ew6]; exact hBw5.out)
    clear ew6
    go_cut [15] (fun s15 wx => s15 = .bool true ∧ Hid (wx.heap[w.heap.size]? = some (.cells (numC u) 42 (0, 0))) ∧ Hid (wx.heap[w.heap.size + 1]? = some (.cells (numC 0) 42 (0, 0))) ∧ Hid (wx.heap[w.heap.size + 1 + 1]? = some (.cells (z4) 42 (0, 0))) ∧ Hid (Below w.heap.size w wx) ∧ Hid (w6.heap.size ≤ wx.heap.size))
    case first =>
      refine wp_region_noPanic ?_
      refine wp_region_held_drew (S := Keep (w6.heap.size) w6) (by kernel_rfl) (Keep.start _ _) ?_
      intro hS
      obtain ⟨w7, ed⟩ : ∃ u : World, u = w6.drew := ⟨_, rfl⟩
      rw [← ed] at hS ⊢
      have xh2 : w7.heap[w.heap.size]? = some (.cells (numC u) 42 (0, 0)) := by rw [ed]; exact h2
      have xh3 : w7.heap[w.heap.size + 1]? = some (.cells (numC 0) 42 (0, 0)) := by rw [ed]; exact h3
      have xh4 : w7.heap[w.heap.size + 1 + 1]? = some (.cells (z4) 42 (0, 0)) := by rw [ed]; exact h4
      clear ed
      have hSz := hS.size
      clear xh2
      clear xh3
      clear xh4
      refine takeAt (i := 0) (v := .agg (numC 0)) rfl (some 13) rfl (by kernel_rfl) (by kernel_rfl) (by kernel_rfl) (fun _ _ _ h => h) (take_row rfl _ _ rfl (w.heap.size + 1) rfl _ _ _ h3 (Nat.ne_of_lt (heap_lt h3)) underNum rfl (infoNum_of (numC 0) (numC_size _))) hS ?_
      simp only [Act.put, List.setIfInBounds_toArray, List.set_cons_zero, List.set_cons_succ]
      refine wpAnyH_ready (rs := [1]) (by kernel_rfl) (by simp) ?_
      refine (AllReadyH.cons rfl ?_ AllReadyH.nil)
      intro K hK
      refine ready_call rfl (some 14) rfl 41 #[.int .u64 0] (by go_simp) ?_
      refine (small_any 0 (by omega) _).mono ?_
      rintro e w8 ⟨rfl, hC⟩
      refine ⟨_, rfl, ?_⟩
      simp only [Act.put, List.setIfInBounds_toArray, List.set_cons_zero, List.set_cons_succ]
      have hS := hS.call hC
      have hz8 := hC.size
      clear hC
      refine hK.out _ _ hS ?_
      clear hK K
      intro _
      have hSz := hS.size
      refine takeAt (i := 2) (v := .bool true) rfl (some 15) rfl (by kernel_rfl) (by kernel_rfl) (by kernel_rfl) (fun _ _ _ h => h) (take_run rfl (fun _ _ => by go_simp; rw [run_eq_num _ _ (by omega) (by omega)]; simp)) hS ?_
      simp only [Act.put, List.setIfInBounds_toArray, List.set_cons_zero, List.set_cons_succ]
      refine wpAnyH_done (by kernel_rfl) ?_ _
      refine NoPanic.normal ?_
      have hsz := hS.size
      have h2 : w8.heap[w.heap.size]? = some (.cells (numC u) 42 (0, 0)) := hS.old h2 (Nat.ne_of_lt (heap_lt h2))
      have h3 : w8.heap[w.heap.size + 1]? = some (.cells (numC 0) 42 (0, 0)) := hS.old h3 (Nat.ne_of_lt (heap_lt h3))
      have h4 : w8.heap[w.heap.size + 1 + 1]? = some (.cells (z4) 42 (0, 0)) := hS.old h4 (Nat.ne_of_lt (heap_lt h4))
      have hBw8 : Hid (Below w.heap.size w w8) := Lib.hid (hBw6.out.trans (hS.below (by omega) hBw6.out.size))
      clear hS
      go_wp2_with fail
      go_meet
      exact ⟨rfl, Lib.hid h2, Lib.hid h3, Lib.hid h4, Lib.hid hBw8.out, Lib.hid (show w6.heap.size ≤ w8.heap.size by omega)⟩
    case rest =>
      obtain ⟨rfl, Hh2, Hh3, Hh4, hBw10, Hsz10⟩ := hcut
      obtain ⟨w10, rfl⟩ : ∃ u : World, u = wc := ⟨_, rfl⟩
      have h2 := Hh2.out
      have h3 := Hh3.out
      have h4 := Hh4.out
      have hsz10 := Hsz10.out
      go_wp2_with (first
        | ((with_reducible refine at_store 4 ?_); refine wpList_store_row rfl 42 _ _ rfl (w.heap.size + 1 + 1) (z4) rfl rfl 42 (z4) h4 (infoNum_of (z4) z4_size) (z4_size.trans z4_size.symm) z4_one ?_))
      refine bodyPost_ret (results_row_tmp rfl _ _ (w.heap.size + 1 + 1) 42 (z4) (0, 0) _ rfl (setRow_heap _ _ _ _ _ _ h4) underNum rfl (infoNum_of (z4) z4_size)) rfl ⟨rfl, (below_setRow hBw10.out (by omega) _)⟩

set_option maxHeartbeats 16000000 in
theorem ratio_yes (u v R : Nat) (lu : u < pF) (lv : v < pF) (u0 : Hid (¬ u = 0)) (v0 : Hid (¬ v = 0)) (hW : sqW u v = true) (hR : Hid (R = sqR u v)) (w : World) :
    Calls Tryd.prog 45 #[.agg (numC u), .agg (numC v)] w fun e w' => e = .returned (.tuple #[.agg (numC R), .int .i64 1]) ∧ Below w.heap.size w w' := by
  obtain ⟨I, qI⟩ : ∃ x : Nat, x = xp v 57896044618658097711785492504343953926634992332820282019728792003956564819947 := ⟨_, rfl⟩
  obtain ⟨q, qq⟩ : ∃ x : Nat, x = u * I % pF := ⟨_, rfl⟩
  have hqv := inv_mul u v I q lv v0.out qI qq
  have lI : I < pF := by rw [qI]; exact xp_lt _ _
  have lq : q < pF := by rw [qq]; exact mlt _
  have HI := Lib.hid qI; have Hq := Lib.hid qq; clear qI qq
  have hrs := root_same u v q lu lv lq v0.out hqv
  have hq : rtIs q = true := hrs.1.trans hW
  have HR : Hid (R = rtR q) := Lib.hid (by rw [hrs.2 hW]; exact hR.out)
  clear hrs hqv
  go_enter Tryd.func45, Tryd.ntmps45
  go_wp2_with fail
  try simp only [Act.put]
  refine wp_named ?_
  intro w1 ew1
  have hs1 : w.heap.size + 1 + 1 + 1 ≤ w1.heap.size := by rw [ew1]; (try simp only [alloc_size, setRow_size]); omega
  replace h2 : w1.heap[w.heap.size]? = some (.cells (numC u) 42 (0, 0)) := by rw [ew1]; exact (heap_old _ (heap_old _ (heap_new_at _ _ _ rfl)))
  replace h3 : w1.heap[w.heap.size + 1]? = some (.cells (numC v) 42 (0, 0)) := by rw [ew1]; exact (heap_old _ (heap_new_at _ _ _ (by simp only [alloc_size, setRow_size])))
  replace h4 : w1.heap[w.heap.size + 1 + 1]? = some (.cells (z4) 42 (0, 0)) := by rw [ew1]; exact (heap_new_at _ _ _ (by simp only [alloc_size, setRow_size]))
  have hBw1 : Hid (Below w.heap.size w w1) := Lib.hid (by rw [ew1]; exact (below_alloc (below_alloc (below_alloc (Below.refl _ w) _) _) _))
  clear ew1
  go_cut [11] (fun s11 wx => s11 = .bool false ∧ Hid (wx.heap[w.heap.size]? = some (.cells (numC u) 42 (0, 0))) ∧ Hid (wx.heap[w.heap.size + 1]? = some (.cells (numC v) 42 (0, 0))) ∧ Hid (wx.heap[w.heap.size + 1 + 1]? = some (.cells (z4) 42 (0, 0))) ∧ Hid (Below w.heap.size w wx) ∧ Hid (w1.heap.size ≤ wx.heap.size))
  case first =>
    refine wp_region_noPanic ?_
    refine wp_region_held_drew (S := Keep (w1.heap.size) w1) (by kernel_rfl) (Keep.start _ _) ?_
    intro hS
    obtain ⟨w2, ed⟩ : ∃ u : World, u = w1.drew := ⟨_, rfl⟩
    rw [← ed] at hS ⊢
    have xh2 : w2.heap[w.heap.size]? = some (.cells (numC u) 42 (0, 0)) := by rw [ed]; exact h2
    have xh3 : w2.heap[w.heap.size + 1]? = some (.cells (numC v) 42 (0, 0)) := by rw [ed]; exact h3
    have xh4 : w2.heap[w.heap.size + 1 + 1]? = some (.cells (z4) 42 (0, 0)) := by rw [ed]; exact h4
    clear ed
    have hSz := hS.size
    clear xh2
    clear xh3
    clear xh4
    refine takeAt (i := 0) (v := .agg (numC u)) rfl (some 9) rfl (by kernel_rfl) (by kernel_rfl) (by kernel_rfl) (fun _ _ _ h => h) (take_row rfl _ _ rfl (w.heap.size) rfl _ _ _ h2 (Nat.ne_of_lt (heap_lt h2)) underNum rfl (infoNum_of (numC u) (numC_size _))) hS ?_
    simp only [Act.put, List.setIfInBounds_toArray, List.set_cons_zero, List.set_cons_succ]
    refine wpAnyH_ready (rs := [1]) (by kernel_rfl) (by simp) ?_
    refine (AllReadyH.cons rfl ?_ AllReadyH.nil)
    intro K hK
    refine ready_call rfl (some 10) rfl 41 #[.int .u64 0] (by go_simp) ?_
    refine (small_any 0 (by omega) _).mono ?_
    rintro e w3 ⟨rfl, hC⟩
    refine ⟨_, rfl, ?_⟩
    simp only [Act.put, List.setIfInBounds_toArray, List.set_cons_zero, List.set_cons_succ]
    have hS := hS.call hC
    have hz3 := hC.size
    clear hC
    refine hK.out _ _ hS ?_
    clear hK K
    intro _
    have hSz := hS.size
    refine takeAt (i := 2) (v := .bool false) rfl (some 11) rfl (by kernel_rfl) (by kernel_rfl) (by kernel_rfl) (fun _ _ _ h => h) (take_run rfl (fun _ _ => by go_simp; rw [run_eq_num _ _ (Nat.lt_trans lu (by unfold pF; omega)) (by omega)]; simp [u0.out])) hS ?_
    simp only [Act.put, List.setIfInBounds_toArray, List.set_cons_zero, List.set_cons_succ]
    refine wpAnyH_done (by kernel_rfl) ?_ _
    refine NoPanic.normal ?_
    have hsz := hS.size
    have h2 : w3.heap[w.heap.size]? = some (.cells (numC u) 42 (0, 0)) := hS.old h2 (Nat.ne_of_lt (heap_lt h2))
    have h3 : w3.heap[w.heap.size + 1]? = some (.cells (numC v) 42 (0, 0)) := hS.old h3 (Nat.ne_of_lt (heap_lt h3))
    have h4 : w3.heap[w.heap.size + 1 + 1]? = some (.cells (z4) 42 (0, 0)) := hS.old h4 (Nat.ne_of_lt (heap_lt h4))
    have hBw3 : Hid (Below w.heap.size w w3) := Lib.hid (hBw1.out.trans (hS.below (by omega) hBw1.out.size))
    clear hS
    go_wp2_with fail
    go_meet
    exact ⟨rfl, Lib.hid h2, Lib.hid h3, Lib.hid h4, Lib.hid hBw3.out, Lib.hid (show w1.heap.size ≤ w3.heap.size by omega)⟩
  case rest =>
    obtain ⟨rfl, Hh2, Hh3, Hh4, hBw5, Hsz5⟩ := hcut
    obtain ⟨w5, rfl⟩ : ∃ u : World, u = wc := ⟨_, rfl⟩
    have h2 := Hh2.out
    have h3 := Hh3.out
    have h4 := Hh4.out
    have hsz5 := Hsz5.out
    go_wp2_with fail
    try simp only [Act.put]
    refine wp_named ?_
    intro w6 ew6
    have hs6 : w5.heap.size ≤ w6.heap.size := by rw [ew6]; (try simp only [alloc_size, setRow_size]); omega
    replace h2 : w6.heap[w.heap.size]? = some (.cells (numC u) 42 (0, 0)) := by rw [ew6]; exact h2
    replace h3 : w6.heap[w.heap.size + 1]? = some (.cells (numC v) 42 (0, 0)) := by rw [ew6]; exact h3
    replace h4 : w6.heap[w.heap.size + 1 + 1]? = some (.cells (z4) 42 (0, 0)) := by rw [ew6]; exact h4
    have hBw6 : Hid (Below w.heap.size w w6) := Lib.hid (by rw [ew6]; exact hBw5.out)
    clear ew6
    go_cut [15] (fun s15 wx => s15 = .bool false ∧ Hid (wx.heap[w.heap.size]? = some (.cells (numC u) 42 (0, 0))) ∧ Hid (wx.heap[w.heap.size + 1]? = some (.cells (numC v) 42 (0, 0))) ∧ Hid (wx.heap[w.heap.size + 1 + 1]? = some (.cells (z4) 42 (0, 0))) ∧ Hid (Below w.heap.size w wx) ∧ Hid (w6.heap.size ≤ wx.heap.size))
    case first =>
      refine wp_region_noPanic ?_
      refine wp_region_held_drew (S := Keep (w6.heap.size) w6) (by kernel_rfl) (Keep.start _ _) ?_
      intro hS
      obtain ⟨w7, ed⟩ : ∃ u : World, u = w6.drew := ⟨_, rfl⟩
      rw [← ed] at hS ⊢
      have xh2 : w7.heap[w.heap.size]? = some (.cells (numC u) 42 (0, 0)) := by rw [ed]; exact h2
      have xh3 : w7.heap[w.heap.size + 1]? = some (.cells (numC v) 42 (0, 0)) := by rw [ed]; exact h3
      have xh4 : w7.heap[w.heap.size + 1 + 1]? = some (.cells (z4) 42 (0, 0)) := by rw [ed]; exact h4
      clear ed
      have hSz := hS.size
      clear xh2
      clear xh3
      clear xh4
      refine takeAt (i := 0) (v := .agg (numC v)) rfl (some 13) rfl (by kernel_rfl) (by kernel_rfl) (by kernel_rfl) (fun _ _ _ h => h) (take_row rfl _ _ rfl (w.heap.size + 1) rfl _ _ _ h3 (Nat.ne_of_lt (heap_lt h3)) underNum rfl (infoNum_of (numC v) (numC_size _))) hS ?_
      simp only [Act.put, List.setIfInBounds_toArray, List.set_cons_zero, List.set_cons_succ]
      refine wpAnyH_ready (rs := [1]) (by kernel_rfl) (by simp) ?_
      refine (AllReadyH.cons rfl ?_ AllReadyH.nil)
      intro K hK
      refine ready_call rfl (some 14) rfl 41 #[.int .u64 0] (by go_simp) ?_
      refine (small_any 0 (by omega) _).mono ?_
      rintro e w8 ⟨rfl, hC⟩
      refine ⟨_, rfl, ?_⟩
      simp only [Act.put, List.setIfInBounds_toArray, List.set_cons_zero, List.set_cons_succ]
      have hS := hS.call hC
      have hz8 := hC.size
      clear hC
      refine hK.out _ _ hS ?_
      clear hK K
      intro _
      have hSz := hS.size
      refine takeAt (i := 2) (v := .bool false) rfl (some 15) rfl (by kernel_rfl) (by kernel_rfl) (by kernel_rfl) (fun _ _ _ h => h) (take_run rfl (fun _ _ => by go_simp; rw [run_eq_num _ _ (Nat.lt_trans lv (by unfold pF; omega)) (by omega)]; simp [v0.out])) hS ?_
      simp only [Act.put, List.setIfInBounds_toArray, List.set_cons_zero, List.set_cons_succ]
      refine wpAnyH_done (by kernel_rfl) ?_ _
      refine NoPanic.normal ?_
      have hsz := hS.size
      have h2 : w8.heap[w.heap.size]? = some (.cells (numC u) 42 (0, 0)) := hS.old h2 (Nat.ne_of_lt (heap_lt h2))
      have h3 : w8.heap[w.heap.size + 1]? = some (.cells (numC v) 42 (0, 0)) := hS.old h3 (Nat.ne_of_lt (heap_lt h3))
      have h4 : w8.heap[w.heap.size + 1 + 1]? = some (.cells (z4) 42 (0, 0)) := hS.old h4 (Nat.ne_of_lt (heap_lt h4))
      have hBw8 : Hid (Below w.heap.size w w8) := Lib.hid (hBw6.out.trans (hS.below (by omega) hBw6.out.size))
      clear hS
      go_wp2_with fail
      go_meet
      exact ⟨rfl, Lib.hid h2, Lib.hid h3, Lib.hid h4, Lib.hid hBw8.out, Lib.hid (show w6.heap.size ≤ w8.heap.size by omega)⟩
    case rest =>
      obtain ⟨rfl, Hh2, Hh3, Hh4, hBw10, Hsz10⟩ := hcut
      obtain ⟨w10, rfl⟩ : ∃ u : World, u = wc := ⟨_, rfl⟩
      have h2 := Hh2.out
      have h3 := Hh3.out
      have h4 := Hh4.out
      have hsz10 := Hsz10.out
      go_wp2_with fail
      try simp only [Act.put]
      refine wp_named ?_
      intro w11 ew11
      have hs11 : w10.heap.size ≤ w11.heap.size := by rw [ew11]; (try simp only [alloc_size, setRow_size]); omega
      replace h2 : w11.heap[w.heap.size]? = some (.cells (numC u) 42 (0, 0)) := by rw [ew11]; exact h2
      replace h3 : w11.heap[w.heap.size + 1]? = some (.cells (numC v) 42 (0, 0)) := by rw [ew11]; exact h3
      replace h4 : w11.heap[w.heap.size + 1 + 1]? = some (.cells (z4) 42 (0, 0)) := by rw [ew11]; exact h4
      have hBw11 : Hid (Below w.heap.size w w11) := Lib.hid (by rw [ew11]; exact hBw10.out)
      clear ew11
      go_cut [6] (fun s6 wx => ∃ g6 : Nat, s6 = .pointer (some ⟨g6, 0, none⟩) ∧ Hid (w11.heap.size ≤ g6) ∧ Hid (wx.heap[g6]? = some (.cells (numC q) 42 (0, 0))) ∧ Hid (wx.heap[w.heap.size]? = some (.cells (numC u) 42 (0, 0))) ∧ Hid (wx.heap[w.heap.size + 1]? = some (.cells (numC v) 42 (0, 0))) ∧ Hid (wx.heap[w.heap.size + 1 + 1]? = some (.cells (z4) 42 (0, 0))) ∧ Hid (Below w.heap.size w wx) ∧ Hid (w11.heap.size ≤ wx.heap.size))
      case first =>
        refine wp_region_noPanic ?_
        refine wp_region_held_drew (S := Keep (w11.heap.size) w11) (by kernel_rfl) (Keep.start _ _) ?_
        intro hS
        obtain ⟨w12, ed⟩ : ∃ u : World, u = w11.drew := ⟨_, rfl⟩
        rw [← ed] at hS ⊢
        have xh2 : w12.heap[w.heap.size]? = some (.cells (numC u) 42 (0, 0)) := by rw [ed]; exact h2
        have xh3 : w12.heap[w.heap.size + 1]? = some (.cells (numC v) 42 (0, 0)) := by rw [ed]; exact h3
        have xh4 : w12.heap[w.heap.size + 1 + 1]? = some (.cells (z4) 42 (0, 0)) := by rw [ed]; exact h4
        clear ed
        have hSz := hS.size
        clear xh2
        clear xh3
        clear xh4
        refine takeAt (i := 0) (v := .agg (numC u)) rfl (some 17) rfl (by kernel_rfl) (by kernel_rfl) (by kernel_rfl) (fun _ _ _ h => h) (take_row rfl _ _ rfl (w.heap.size) rfl _ _ _ h2 (Nat.ne_of_lt (heap_lt h2)) underNum rfl (infoNum_of (numC u) (numC_size _))) hS ?_
        simp only [Act.put, List.setIfInBounds_toArray, List.set_cons_zero, List.set_cons_succ]
        refine takeAt (i := 1) (v := .agg (numC v)) rfl (some 18) rfl (by kernel_rfl) (by kernel_rfl) (by kernel_rfl) (fun _ _ _ h => h) (take_row rfl _ _ rfl (w.heap.size + 1) rfl _ _ _ h3 (Nat.ne_of_lt (heap_lt h3)) underNum rfl (infoNum_of (numC v) (numC_size _))) hS ?_
        simp only [Act.put, List.setIfInBounds_toArray, List.set_cons_zero, List.set_cons_succ]
        refine wpAnyH_ready (rs := [2, 5]) (by kernel_rfl) (by simp) ?_
        refine (AllReadyH.cons rfl ?_ (AllReadyH.cons rfl ?_ AllReadyH.nil))
        · intro K hK
          refine ready_call rfl (some 19) rfl 42 #[.agg (numC v)] (by go_simp) ?_
          refine (inverse_to v I lv HI _).mono ?_
          rintro e w13 ⟨rfl, hC⟩
          refine ⟨_, rfl, ?_⟩
          simp only [Act.put, List.setIfInBounds_toArray, List.set_cons_zero, List.set_cons_succ]
          have hS := hS.call hC
          have hz13 := hC.size
          clear hC
          refine hK.out _ _ hS ?_
          clear hK K
          intro _
          have hSz := hS.size
          refine wpAnyH_ready (rs := [3, 5]) (by kernel_rfl) (by simp) ?_
          refine (AllReadyH.cons rfl ?_ (AllReadyH.cons rfl ?_ AllReadyH.nil))
          · intro K hK
            refine ready_call rfl (some 20) rfl 36 #[] (by go_simp) ?_
            refine (prime_any _).mono ?_
            rintro e w14 ⟨rfl, hC⟩
            refine ⟨_, rfl, ?_⟩
            simp only [Act.put, List.setIfInBounds_toArray, List.set_cons_zero, List.set_cons_succ]
            have hS := hS.call hC
            have hz14 := hC.size
            clear hC
            refine hK.out _ _ hS ?_
            clear hK K
            intro _
            have hSz := hS.size
            refine wpAnyH_ready (rs := [4, 5]) (by kernel_rfl) (by simp) ?_
            refine (AllReadyH.cons rfl ?_ (AllReadyH.cons rfl ?_ AllReadyH.nil))
            · intro K hK
              refine ready_call rfl (some 21) rfl 39 #[.agg (numC u), .agg (numC I), .agg (numC pF)] (by go_simp) ?_
              refine (times_to u I pF q Hq lu (Nat.lt_trans lI (by unfold pF; omega)) (by unfold pF; omega) _).mono ?_
              rintro e w15 ⟨rfl, hC⟩
              refine ⟨_, rfl, ?_⟩
              simp only [Act.put, List.setIfInBounds_toArray, List.set_cons_zero, List.set_cons_succ]
              have hS := hS.call hC
              have hz15 := hC.size
              clear hC
              refine hK.out _ _ hS ?_
              clear hK K
              intro _
              have hSz := hS.size
              refine wpAnyH_ready (rs := [5]) (by kernel_rfl) (by simp) ?_
              refine (AllReadyH.cons rfl ?_ AllReadyH.nil)
              intro K hK
              refine ready_run rfl (some 6) rfl (.pointer (some ⟨w15.heap.size, 0, none⟩)) (w15.alloc (.cells z4 42)) (by go_simp; try rfl) ?_
              simp only [Act.put, List.setIfInBounds_toArray, List.set_cons_zero, List.set_cons_succ]
              obtain ⟨w16, ea⟩ : ∃ u : World, u = w15.alloc (.cells z4 42) := ⟨_, rfl⟩
              rw [← ea]
              have hS := hS.alloc (.cells z4 42)
              rw [← ea] at hS
              have hz16 : w15.heap.size + 1 ≤ w16.heap.size := by rw [ea, alloc_size]; omega
              have hy16 : w11.heap.size ≤ w15.heap.size := hSz
              have xh6 : w16.heap[w15.heap.size]? = some (.cells (z4) 42 (0, 0)) := by rw [ea]; exact heap_new_at _ _ _ rfl
              clear ea
              refine hK.out _ _ hS ?_
              clear hK K
              intro _
              have hSz := hS.size
              refine wpAnyH_ready (rs := [6]) (by kernel_rfl) (by simp) ?_
              refine (AllReadyH.cons rfl ?_ AllReadyH.nil)
              intro K hK
              rw [if_pos (by rfl)]
              refine wp_store_row 42 _ _ rfl (w15.heap.size) (numC q) rfl rfl 42 (z4) xh6 (infoNum_of (numC q) (numC_size _)) (z4_size.trans (numC_size _).symm) (numC_one _) ?_
              refine put_at (none) rfl ?_
              simp only [Act.put, List.setIfInBounds_toArray, List.set_cons_zero, List.set_cons_succ]
              have xh6 : (w16.setRow (w15.heap.size) (numC q)).heap[w15.heap.size]? = some (.cells (numC q) 42 (0, 0)) := (setRow_heap _ _ _ _ _ _ xh6)
              have hS := hS.storeNew (numC q) (show w11.heap.size ≤ w15.heap.size by omega)
              generalize w16.setRow (w15.heap.size) (numC q) = w17 at *
              refine hK.out _ _ hS ?_
              clear hK K
              intro _
              have hSz := hS.size
              refine wpAnyH_done (by kernel_rfl) ?_ _
              refine NoPanic.normal ?_
              have hsz := hS.size
              have h2 : w17.heap[w.heap.size]? = some (.cells (numC u) 42 (0, 0)) := hS.old h2 (Nat.ne_of_lt (heap_lt h2))
              have h3 : w17.heap[w.heap.size + 1]? = some (.cells (numC v) 42 (0, 0)) := hS.old h3 (Nat.ne_of_lt (heap_lt h3))
              have h4 : w17.heap[w.heap.size + 1 + 1]? = some (.cells (z4) 42 (0, 0)) := hS.old h4 (Nat.ne_of_lt (heap_lt h4))
              have h6 := xh6
              have hBw17 : Hid (Below w.heap.size w w17) := Lib.hid (hBw11.out.trans (hS.below (by omega) hBw11.out.size))
              clear hS
              go_wp2_with fail
              go_meet
              exact ⟨w15.heap.size, rfl, Lib.hid (show w11.heap.size ≤ w15.heap.size by omega), Lib.hid h6, Lib.hid h2, Lib.hid h3, Lib.hid h4, Lib.hid hBw17.out, Lib.hid (show w11.heap.size ≤ w17.heap.size by omega)⟩
            · intro K hK
              refine ready_run rfl (some 6) rfl (.pointer (some ⟨w14.heap.size, 0, none⟩)) (w14.alloc (.cells z4 42)) (by go_simp; try rfl) ?_
              simp only [Act.put, List.setIfInBounds_toArray, List.set_cons_zero, List.set_cons_succ]
              obtain ⟨w19, ea⟩ : ∃ u : World, u = w14.alloc (.cells z4 42) := ⟨_, rfl⟩
              rw [← ea]
              have hS := hS.alloc (.cells z4 42)
              rw [← ea] at hS
              have hz19 : w14.heap.size + 1 ≤ w19.heap.size := by rw [ea, alloc_size]; omega
              have hy19 : w11.heap.size ≤ w14.heap.size := hSz
              have xh6 : w19.heap[w14.heap.size]? = some (.cells (z4) 42 (0, 0)) := by rw [ea]; exact heap_new_at _ _ _ rfl
              clear ea
              refine hK.out _ _ hS ?_
              clear hK K
              intro _
              have hSz := hS.size
              refine wpAnyH_ready (rs := [4]) (by kernel_rfl) (by simp) ?_
              refine (AllReadyH.cons rfl ?_ AllReadyH.nil)
              intro K hK
              refine ready_call rfl (some 21) rfl 39 #[.agg (numC u), .agg (numC I), .agg (numC pF)] (by go_simp) ?_
              refine (times_to u I pF q Hq lu (Nat.lt_trans lI (by unfold pF; omega)) (by unfold pF; omega) _).mono ?_
              rintro e w20 ⟨rfl, hC⟩
              refine ⟨_, rfl, ?_⟩
              simp only [Act.put, List.setIfInBounds_toArray, List.set_cons_zero, List.set_cons_succ]
              have xh6 : w20.heap[w14.heap.size]? = some (.cells (z4) 42 (0, 0)) := (heap_call hC xh6)
              have hS := hS.call hC
              have hz20 := hC.size
              clear hC
              refine hK.out _ _ hS ?_
              clear hK K
              intro _
              have hSz := hS.size
              refine wpAnyH_ready (rs := [6]) (by kernel_rfl) (by simp) ?_
              refine (AllReadyH.cons rfl ?_ AllReadyH.nil)
              intro K hK
              rw [if_pos (by rfl)]
              refine wp_store_row 42 _ _ rfl (w14.heap.size) (numC q) rfl rfl 42 (z4) xh6 (infoNum_of (numC q) (numC_size _)) (z4_size.trans (numC_size _).symm) (numC_one _) ?_
              refine put_at (none) rfl ?_
              simp only [Act.put, List.setIfInBounds_toArray, List.set_cons_zero, List.set_cons_succ]
              have xh6 : (w20.setRow (w14.heap.size) (numC q)).heap[w14.heap.size]? = some (.cells (numC q) 42 (0, 0)) := (setRow_heap _ _ _ _ _ _ xh6)
              have hS := hS.storeNew (numC q) (show w11.heap.size ≤ w14.heap.size by omega)
              generalize w20.setRow (w14.heap.size) (numC q) = w21 at *
              refine hK.out _ _ hS ?_
              clear hK K
              intro _
              have hSz := hS.size
              refine wpAnyH_done (by kernel_rfl) ?_ _
              refine NoPanic.normal ?_
              have hsz := hS.size
              have h2 : w21.heap[w.heap.size]? = some (.cells (numC u) 42 (0, 0)) := hS.old h2 (Nat.ne_of_lt (heap_lt h2))
              have h3 : w21.heap[w.heap.size + 1]? = some (.cells (numC v) 42 (0, 0)) := hS.old h3 (Nat.ne_of_lt (heap_lt h3))
              have h4 : w21.heap[w.heap.size + 1 + 1]? = some (.cells (z4) 42 (0, 0)) := hS.old h4 (Nat.ne_of_lt (heap_lt h4))
              have h6 := xh6
              have hBw21 : Hid (Below w.heap.size w w21) := Lib.hid (hBw11.out.trans (hS.below (by omega) hBw11.out.size))
              clear hS
              go_wp2_with fail
              go_meet
              exact ⟨w14.heap.size, rfl, Lib.hid (show w11.heap.size ≤ w14.heap.size by omega), Lib.hid h6, Lib.hid h2, Lib.hid h3, Lib.hid h4, Lib.hid hBw21.out, Lib.hid (show w11.heap.size ≤ w21.heap.size by omega)⟩
          · intro K hK
            refine ready_run rfl (some 6) rfl (.pointer (some ⟨w13.heap.size, 0, none⟩)) (w13.alloc (.cells z4 42)) (by go_simp; try rfl) ?_
            simp only [Act.put, List.setIfInBounds_toArray, List.set_cons_zero, List.set_cons_succ]
            obtain ⟨w23, ea⟩ : ∃ u : World, u = w13.alloc (.cells z4 42) := ⟨_, rfl⟩
            rw [← ea]
            have hS := hS.alloc (.cells z4 42)
            rw [← ea] at hS
            have hz23 : w13.heap.size + 1 ≤ w23.heap.size := by rw [ea, alloc_size]; omega
            have hy23 : w11.heap.size ≤ w13.heap.size := hSz
            have xh6 : w23.heap[w13.heap.size]? = some (.cells (z4) 42 (0, 0)) := by rw [ea]; exact heap_new_at _ _ _ rfl
            clear ea
            refine hK.out _ _ hS ?_
            clear hK K
            intro _
            have hSz := hS.size
            refine wpAnyH_ready (rs := [3]) (by kernel_rfl) (by simp) ?_
            refine (AllReadyH.cons rfl ?_ AllReadyH.nil)
            intro K hK
            refine ready_call rfl (some 20) rfl 36 #[] (by go_simp) ?_
            refine (prime_any _).mono ?_
            rintro e w24 ⟨rfl, hC⟩
            refine ⟨_, rfl, ?_⟩
            simp only [Act.put, List.setIfInBounds_toArray, List.set_cons_zero, List.set_cons_succ]
            have xh6 : w24.heap[w13.heap.size]? = some (.cells (z4) 42 (0, 0)) := (heap_call hC xh6)
            have hS := hS.call hC
            have hz24 := hC.size
            clear hC
            refine hK.out _ _ hS ?_
            clear hK K
            intro _
            have hSz := hS.size
            refine wpAnyH_ready (rs := [4]) (by kernel_rfl) (by simp) ?_
            refine (AllReadyH.cons rfl ?_ AllReadyH.nil)
            intro K hK
            refine ready_call rfl (some 21) rfl 39 #[.agg (numC u), .agg (numC I), .agg (numC pF)] (by go_simp) ?_
            refine (times_to u I pF q Hq lu (Nat.lt_trans lI (by unfold pF; omega)) (by unfold pF; omega) _).mono ?_
            rintro e w25 ⟨rfl, hC⟩
            refine ⟨_, rfl, ?_⟩
            simp only [Act.put, List.setIfInBounds_toArray, List.set_cons_zero, List.set_cons_succ]
            have xh6 : w25.heap[w13.heap.size]? = some (.cells (z4) 42 (0, 0)) := (heap_call hC xh6)
            have hS := hS.call hC
            have hz25 := hC.size
            clear hC
            refine hK.out _ _ hS ?_
            clear hK K
            intro _
            have hSz := hS.size
            refine wpAnyH_ready (rs := [6]) (by kernel_rfl) (by simp) ?_
            refine (AllReadyH.cons rfl ?_ AllReadyH.nil)
            intro K hK
            rw [if_pos (by rfl)]
            refine wp_store_row 42 _ _ rfl (w13.heap.size) (numC q) rfl rfl 42 (z4) xh6 (infoNum_of (numC q) (numC_size _)) (z4_size.trans (numC_size _).symm) (numC_one _) ?_
            refine put_at (none) rfl ?_
            simp only [Act.put, List.setIfInBounds_toArray, List.set_cons_zero, List.set_cons_succ]
            have xh6 : (w25.setRow (w13.heap.size) (numC q)).heap[w13.heap.size]? = some (.cells (numC q) 42 (0, 0)) := (setRow_heap _ _ _ _ _ _ xh6)
            have hS := hS.storeNew (numC q) (show w11.heap.size ≤ w13.heap.size by omega)
            generalize w25.setRow (w13.heap.size) (numC q) = w26 at *
            refine hK.out _ _ hS ?_
            clear hK K
            intro _
            have hSz := hS.size
            refine wpAnyH_done (by kernel_rfl) ?_ _
            refine NoPanic.normal ?_
            have hsz := hS.size
            have h2 : w26.heap[w.heap.size]? = some (.cells (numC u) 42 (0, 0)) := hS.old h2 (Nat.ne_of_lt (heap_lt h2))
            have h3 : w26.heap[w.heap.size + 1]? = some (.cells (numC v) 42 (0, 0)) := hS.old h3 (Nat.ne_of_lt (heap_lt h3))
            have h4 : w26.heap[w.heap.size + 1 + 1]? = some (.cells (z4) 42 (0, 0)) := hS.old h4 (Nat.ne_of_lt (heap_lt h4))
            have h6 := xh6
            have hBw26 : Hid (Below w.heap.size w w26) := Lib.hid (hBw11.out.trans (hS.below (by omega) hBw11.out.size))
            clear hS
            go_wp2_with fail
            go_meet
            exact ⟨w13.heap.size, rfl, Lib.hid (show w11.heap.size ≤ w13.heap.size by omega), Lib.hid h6, Lib.hid h2, Lib.hid h3, Lib.hid h4, Lib.hid hBw26.out, Lib.hid (show w11.heap.size ≤ w26.heap.size by omega)⟩
        · intro K hK
          refine ready_run rfl (some 6) rfl (.pointer (some ⟨w12.heap.size, 0, none⟩)) (w12.alloc (.cells z4 42)) (by go_simp; try rfl) ?_
          simp only [Act.put, List.setIfInBounds_toArray, List.set_cons_zero, List.set_cons_succ]
          obtain ⟨w28, ea⟩ : ∃ u : World, u = w12.alloc (.cells z4 42) := ⟨_, rfl⟩
          rw [← ea]
          have hS := hS.alloc (.cells z4 42)
          rw [← ea] at hS
          have hz28 : w12.heap.size + 1 ≤ w28.heap.size := by rw [ea, alloc_size]; omega
          have hy28 : w11.heap.size ≤ w12.heap.size := hSz
          have xh6 : w28.heap[w12.heap.size]? = some (.cells (z4) 42 (0, 0)) := by rw [ea]; exact heap_new_at _ _ _ rfl
          clear ea
          refine hK.out _ _ hS ?_
          clear hK K
          intro _
          have hSz := hS.size
          refine wpAnyH_ready (rs := [2]) (by kernel_rfl) (by simp) ?_
          refine (AllReadyH.cons rfl ?_ AllReadyH.nil)
          intro K hK
          refine ready_call rfl (some 19) rfl 42 #[.agg (numC v)] (by go_simp) ?_
          refine (inverse_to v I lv HI _).mono ?_
          rintro e w29 ⟨rfl, hC⟩
          refine ⟨_, rfl, ?_⟩
          simp only [Act.put, List.setIfInBounds_toArray, List.set_cons_zero, List.set_cons_succ]
          have xh6 : w29.heap[w12.heap.size]? = some (.cells (z4) 42 (0, 0)) := (heap_call hC xh6)
          have hS := hS.call hC
          have hz29 := hC.size
          clear hC
          refine hK.out _ _ hS ?_
          clear hK K
          intro _
          have hSz := hS.size
          refine wpAnyH_ready (rs := [3]) (by kernel_rfl) (by simp) ?_
          refine (AllReadyH.cons rfl ?_ AllReadyH.nil)
          intro K hK
          refine ready_call rfl (some 20) rfl 36 #[] (by go_simp) ?_
          refine (prime_any _).mono ?_
          rintro e w30 ⟨rfl, hC⟩
          refine ⟨_, rfl, ?_⟩
          simp only [Act.put, List.setIfInBounds_toArray, List.set_cons_zero, List.set_cons_succ]
          have xh6 : w30.heap[w12.heap.size]? = some (.cells (z4) 42 (0, 0)) := (heap_call hC xh6)
          have hS := hS.call hC
          have hz30 := hC.size
          clear hC
          refine hK.out _ _ hS ?_
          clear hK K
          intro _
          have hSz := hS.size
          refine wpAnyH_ready (rs := [4]) (by kernel_rfl) (by simp) ?_
          refine (AllReadyH.cons rfl ?_ AllReadyH.nil)
          intro K hK
          refine ready_call rfl (some 21) rfl 39 #[.agg (numC u), .agg (numC I), .agg (numC pF)] (by go_simp) ?_
          refine (times_to u I pF q Hq lu (Nat.lt_trans lI (by unfold pF; omega)) (by unfold pF; omega) _).mono ?_
          rintro e w31 ⟨rfl, hC⟩
          refine ⟨_, rfl, ?_⟩
          simp only [Act.put, List.setIfInBounds_toArray, List.set_cons_zero, List.set_cons_succ]
          have xh6 : w31.heap[w12.heap.size]? = some (.cells (z4) 42 (0, 0)) := (heap_call hC xh6)
          have hS := hS.call hC
          have hz31 := hC.size
          clear hC
          refine hK.out _ _ hS ?_
          clear hK K
          intro _
          have hSz := hS.size
          refine wpAnyH_ready (rs := [6]) (by kernel_rfl) (by simp) ?_
          refine (AllReadyH.cons rfl ?_ AllReadyH.nil)
          intro K hK
          rw [if_pos (by rfl)]
          refine wp_store_row 42 _ _ rfl (w12.heap.size) (numC q) rfl rfl 42 (z4) xh6 (infoNum_of (numC q) (numC_size _)) (z4_size.trans (numC_size _).symm) (numC_one _) ?_
          refine put_at (none) rfl ?_
          simp only [Act.put, List.setIfInBounds_toArray, List.set_cons_zero, List.set_cons_succ]
          have xh6 : (w31.setRow (w12.heap.size) (numC q)).heap[w12.heap.size]? = some (.cells (numC q) 42 (0, 0)) := (setRow_heap _ _ _ _ _ _ xh6)
          have hS := hS.storeNew (numC q) (show w11.heap.size ≤ w12.heap.size by omega)
          generalize w31.setRow (w12.heap.size) (numC q) = w32 at *
          refine hK.out _ _ hS ?_
          clear hK K
          intro _
          have hSz := hS.size
          refine wpAnyH_done (by kernel_rfl) ?_ _
          refine NoPanic.normal ?_
          have hsz := hS.size
          have h2 : w32.heap[w.heap.size]? = some (.cells (numC u) 42 (0, 0)) := hS.old h2 (Nat.ne_of_lt (heap_lt h2))
          have h3 : w32.heap[w.heap.size + 1]? = some (.cells (numC v) 42 (0, 0)) := hS.old h3 (Nat.ne_of_lt (heap_lt h3))
          have h4 : w32.heap[w.heap.size + 1 + 1]? = some (.cells (z4) 42 (0, 0)) := hS.old h4 (Nat.ne_of_lt (heap_lt h4))
          have h6 := xh6
          have hBw32 : Hid (Below w.heap.size w w32) := Lib.hid (hBw11.out.trans (hS.below (by omega) hBw11.out.size))
          clear hS
          go_wp2_with fail
          go_meet
          exact ⟨w12.heap.size, rfl, Lib.hid (show w11.heap.size ≤ w12.heap.size by omega), Lib.hid h6, Lib.hid h2, Lib.hid h3, Lib.hid h4, Lib.hid hBw32.out, Lib.hid (show w11.heap.size ≤ w32.heap.size by omega)⟩
      case rest =>
        obtain ⟨g6, rfl, Hg6, Hh6, Hh2, Hh3, Hh4, hBw34, Hsz34⟩ := hcut
        obtain ⟨w34, rfl⟩ : ∃ u : World, u = wc := ⟨_, rfl⟩
        have hgl6 := Hg6.out
        have h6 := Hh6.out
        have hgu6 := heap_lt h6
        have h2 := Hh2.out
        have h3 := Hh3.out
        have h4 := Hh4.out
        have hsz34 := Hsz34.out
        go_wp2_with (first
          | ((with_reducible refine at_dst 23 ?_); refine wpList_load_row rfl 42 _ rfl (g6) rfl 42 (numC q) (0, 0) _ h6 underNum rfl (infoNum_of (numC q) (numC_size _)) ?_))
        refine (root_yes' q R lq hq HR _).mono ?_
        rintro e w35 ⟨rfl, hC35⟩
        have hs35 : w34.heap.size ≤ w35.heap.size := by have := hC35.size; (try simp only [alloc_size, setRow_size] at this); omega
        replace h2 : w35.heap[w.heap.size]? = some (.cells (numC u) 42 (0, 0)) := (heap_call hC35 h2)
        replace h3 : w35.heap[w.heap.size + 1]? = some (.cells (numC v) 42 (0, 0)) := (heap_call hC35 h3)
        replace h4 : w35.heap[w.heap.size + 1 + 1]? = some (.cells (z4) 42 (0, 0)) := (heap_call hC35 h4)
        replace h6 : w35.heap[g6]? = some (.cells (numC q) 42 (0, 0)) := (heap_call hC35 h6)
        have hBw35 : Hid (Below w.heap.size w w35) := Lib.hid (below_call hBw34.out hC35)
        clear hC35
        go_wp2_with (first
          | ((with_reducible refine at_store 7 ?_); refine wpList_store_row rfl 42 _ _ rfl (w35.heap.size) (numC R) rfl rfl 42 (z4) (heap_new_at _ _ _ rfl) (infoNum_of (numC R) (numC_size _)) (z4_size.trans (numC_size _).symm) (numC_one _) ?_)
          | ((with_reducible refine at_dst 28 ?_); refine wpList_load_row rfl 42 _ rfl (w35.heap.size) rfl 42 (numC R) (0, 0) _ (setRow_heap _ _ _ _ _ _ (heap_new_at _ _ _ rfl)) underNum rfl (infoNum_of (numC R) (numC_size _)) ?_)
          | ((with_reducible refine at_store 4 ?_); refine wpList_store_row rfl 42 _ _ rfl (w.heap.size + 1 + 1) (numC R) rfl rfl 42 (z4) (heap_row _ (by omega) (heap_old _ h4)) (infoNum_of (numC R) (numC_size _)) (z4_size.trans (numC_size _).symm) (numC_one _) ?_))
        refine bodyPost_ret (results_row_tmp rfl _ _ (w.heap.size + 1 + 1) 42 (numC R) (0, 0) _ rfl (setRow_heap _ _ _ _ _ _ (heap_row _ (by omega) (heap_old _ h4))) underNum rfl (infoNum_of (numC R) (numC_size _))) rfl ⟨rfl, (below_setRow (below_setRow (below_alloc hBw35.out _) (by omega) _) (by omega) _)⟩

set_option maxHeartbeats 16000000 in
theorem ratio_no (u v R : Nat) (lu : u < pF) (lv : v < pF) (u0 : Hid (¬ u = 0)) (v0 : Hid (¬ v = 0)) (hW : sqW u v = false) (hR : Hid (R = sqR u v)) (w : World) :
    Calls Tryd.prog 45 #[.agg (numC u), .agg (numC v)] w fun e w' => e = .returned (.tuple #[.agg (numC R), .int .i64 0]) ∧ Below w.heap.size w w' := by
  obtain ⟨I, qI⟩ : ∃ x : Nat, x = xp v 57896044618658097711785492504343953926634992332820282019728792003956564819947 := ⟨_, rfl⟩
  obtain ⟨q, qq⟩ : ∃ x : Nat, x = u * I % pF := ⟨_, rfl⟩
  have hqv := inv_mul u v I q lv v0.out qI qq
  have lI : I < pF := by rw [qI]; exact xp_lt _ _
  have lq : q < pF := by rw [qq]; exact mlt _
  have HI := Lib.hid qI; have Hq := Lib.hid qq; clear qI qq
  have hrs := root_same u v q lu lv lq v0.out hqv
  have hq : rtIs q = false := hrs.1.trans hW
  have hro := root_other u v q lu lv v0.out hqv hW
  obtain ⟨q2, qq2⟩ : ∃ x : Nat, x = iN * q % pF := ⟨_, rfl⟩
  rw [← qq2] at hro
  have lq2 : q2 < pF := by rw [qq2]; exact mlt _
  have hq2 : rtIs q2 = true := hro.1
  have HR : Hid (R = rtR q2) := Lib.hid (by rw [hro.2]; exact hR.out)
  have Hq2 := Lib.hid qq2; clear qq2 hrs hqv hro
  go_enter Tryd.func45, Tryd.ntmps45
  go_wp2_with fail
  try simp only [Act.put]
  refine wp_named ?_
  intro w1 ew1
  have hs1 : w.heap.size + 1 + 1 + 1 ≤ w1.heap.size := by rw [ew1]; (try simp only [alloc_size, setRow_size]); omega
  replace h2 : w1.heap[w.heap.size]? = some (.cells (numC u) 42 (0, 0)) := by rw [ew1]; exact (heap_old _ (heap_old _ (heap_new_at _ _ _ rfl)))
  replace h3 : w1.heap[w.heap.size + 1]? = some (.cells (numC v) 42 (0, 0)) := by rw [ew1]; exact (heap_old _ (heap_new_at _ _ _ (by simp only [alloc_size, setRow_size])))
  replace h4 : w1.heap[w.heap.size + 1 + 1]? = some (.cells (z4) 42 (0, 0)) := by rw [ew1]; exact (heap_new_at _ _ _ (by simp only [alloc_size, setRow_size]))
  have hBw1 : Hid (Below w.heap.size w w1) := Lib.hid (by rw [ew1]; exact (below_alloc (below_alloc (below_alloc (Below.refl _ w) _) _) _))
  clear ew1
  go_cut [11] (fun s11 wx => s11 = .bool false ∧ Hid (wx.heap[w.heap.size]? = some (.cells (numC u) 42 (0, 0))) ∧ Hid (wx.heap[w.heap.size + 1]? = some (.cells (numC v) 42 (0, 0))) ∧ Hid (wx.heap[w.heap.size + 1 + 1]? = some (.cells (z4) 42 (0, 0))) ∧ Hid (Below w.heap.size w wx) ∧ Hid (w1.heap.size ≤ wx.heap.size))
  case first =>
    refine wp_region_noPanic ?_
    refine wp_region_held_drew (S := Keep (w1.heap.size) w1) (by kernel_rfl) (Keep.start _ _) ?_
    intro hS
    obtain ⟨w2, ed⟩ : ∃ u : World, u = w1.drew := ⟨_, rfl⟩
    rw [← ed] at hS ⊢
    have xh2 : w2.heap[w.heap.size]? = some (.cells (numC u) 42 (0, 0)) := by rw [ed]; exact h2
    have xh3 : w2.heap[w.heap.size + 1]? = some (.cells (numC v) 42 (0, 0)) := by rw [ed]; exact h3
    have xh4 : w2.heap[w.heap.size + 1 + 1]? = some (.cells (z4) 42 (0, 0)) := by rw [ed]; exact h4
    clear ed
    have hSz := hS.size
    clear xh2
    clear xh3
    clear xh4
    refine takeAt (i := 0) (v := .agg (numC u)) rfl (some 9) rfl (by kernel_rfl) (by kernel_rfl) (by kernel_rfl) (fun _ _ _ h => h) (take_row rfl _ _ rfl (w.heap.size) rfl _ _ _ h2 (Nat.ne_of_lt (heap_lt h2)) underNum rfl (infoNum_of (numC u) (numC_size _))) hS ?_
    simp only [Act.put, List.setIfInBounds_toArray, List.set_cons_zero, List.set_cons_succ]
    refine wpAnyH_ready (rs := [1]) (by kernel_rfl) (by simp) ?_
    refine (AllReadyH.cons rfl ?_ AllReadyH.nil)
    intro K hK
    refine ready_call rfl (some 10) rfl 41 #[.int .u64 0] (by go_simp) ?_
    refine (small_any 0 (by omega) _).mono ?_
    rintro e w3 ⟨rfl, hC⟩
    refine ⟨_, rfl, ?_⟩
    simp only [Act.put, List.setIfInBounds_toArray, List.set_cons_zero, List.set_cons_succ]
    have hS := hS.call hC
    have hz3 := hC.size
    clear hC
    refine hK.out _ _ hS ?_
    clear hK K
    intro _
    have hSz := hS.size
    refine takeAt (i := 2) (v := .bool false) rfl (some 11) rfl (by kernel_rfl) (by kernel_rfl) (by kernel_rfl) (fun _ _ _ h => h) (take_run rfl (fun _ _ => by go_simp; rw [run_eq_num _ _ (Nat.lt_trans lu (by unfold pF; omega)) (by omega)]; simp [u0.out])) hS ?_
    simp only [Act.put, List.setIfInBounds_toArray, List.set_cons_zero, List.set_cons_succ]
    refine wpAnyH_done (by kernel_rfl) ?_ _
    refine NoPanic.normal ?_
    have hsz := hS.size
    have h2 : w3.heap[w.heap.size]? = some (.cells (numC u) 42 (0, 0)) := hS.old h2 (Nat.ne_of_lt (heap_lt h2))
    have h3 : w3.heap[w.heap.size + 1]? = some (.cells (numC v) 42 (0, 0)) := hS.old h3 (Nat.ne_of_lt (heap_lt h3))
    have h4 : w3.heap[w.heap.size + 1 + 1]? = some (.cells (z4) 42 (0, 0)) := hS.old h4 (Nat.ne_of_lt (heap_lt h4))
    have hBw3 : Hid (Below w.heap.size w w3) := Lib.hid (hBw1.out.trans (hS.below (by omega) hBw1.out.size))
    clear hS
    go_wp2_with fail
    go_meet
    exact ⟨rfl, Lib.hid h2, Lib.hid h3, Lib.hid h4, Lib.hid hBw3.out, Lib.hid (show w1.heap.size ≤ w3.heap.size by omega)⟩
  case rest =>
    obtain ⟨rfl, Hh2, Hh3, Hh4, hBw5, Hsz5⟩ := hcut
    obtain ⟨w5, rfl⟩ : ∃ u : World, u = wc := ⟨_, rfl⟩
    have h2 := Hh2.out
    have h3 := Hh3.out
    have h4 := Hh4.out
    have hsz5 := Hsz5.out
    go_wp2_with fail
    try simp only [Act.put]
    refine wp_named ?_
    intro w6 ew6
    have hs6 : w5.heap.size ≤ w6.heap.size := by rw [ew6]; (try simp only [alloc_size, setRow_size]); omega
    replace h2 : w6.heap[w.heap.size]? = some (.cells (numC u) 42 (0, 0)) := by rw [ew6]; exact h2
    replace h3 : w6.heap[w.heap.size + 1]? = some (.cells (numC v) 42 (0, 0)) := by rw [ew6]; exact h3
    replace h4 : w6.heap[w.heap.size + 1 + 1]? = some (.cells (z4) 42 (0, 0)) := by rw [ew6]; exact h4
    have hBw6 : Hid (Below w.heap.size w w6) := Lib.hid (by rw [ew6]; exact hBw5.out)
    clear ew6
    go_cut [15] (fun s15 wx => s15 = .bool false ∧ Hid (wx.heap[w.heap.size]? = some (.cells (numC u) 42 (0, 0))) ∧ Hid (wx.heap[w.heap.size + 1]? = some (.cells (numC v) 42 (0, 0))) ∧ Hid (wx.heap[w.heap.size + 1 + 1]? = some (.cells (z4) 42 (0, 0))) ∧ Hid (Below w.heap.size w wx) ∧ Hid (w6.heap.size ≤ wx.heap.size))
    case first =>
      refine wp_region_noPanic ?_
      refine wp_region_held_drew (S := Keep (w6.heap.size) w6) (by kernel_rfl) (Keep.start _ _) ?_
      intro hS
      obtain ⟨w7, ed⟩ : ∃ u : World, u = w6.drew := ⟨_, rfl⟩
      rw [← ed] at hS ⊢
      have xh2 : w7.heap[w.heap.size]? = some (.cells (numC u) 42 (0, 0)) := by rw [ed]; exact h2
      have xh3 : w7.heap[w.heap.size + 1]? = some (.cells (numC v) 42 (0, 0)) := by rw [ed]; exact h3
      have xh4 : w7.heap[w.heap.size + 1 + 1]? = some (.cells (z4) 42 (0, 0)) := by rw [ed]; exact h4
      clear ed
      have hSz := hS.size
      clear xh2
      clear xh3
      clear xh4
      refine takeAt (i := 0) (v := .agg (numC v)) rfl (some 13) rfl (by kernel_rfl) (by kernel_rfl) (by kernel_rfl) (fun _ _ _ h => h) (take_row rfl _ _ rfl (w.heap.size + 1) rfl _ _ _ h3 (Nat.ne_of_lt (heap_lt h3)) underNum rfl (infoNum_of (numC v) (numC_size _))) hS ?_
      simp only [Act.put, List.setIfInBounds_toArray, List.set_cons_zero, List.set_cons_succ]
      refine wpAnyH_ready (rs := [1]) (by kernel_rfl) (by simp) ?_
      refine (AllReadyH.cons rfl ?_ AllReadyH.nil)
      intro K hK
      refine ready_call rfl (some 14) rfl 41 #[.int .u64 0] (by go_simp) ?_
      refine (small_any 0 (by omega) _).mono ?_
      rintro e w8 ⟨rfl, hC⟩
      refine ⟨_, rfl, ?_⟩
      simp only [Act.put, List.setIfInBounds_toArray, List.set_cons_zero, List.set_cons_succ]
      have hS := hS.call hC
      have hz8 := hC.size
      clear hC
      refine hK.out _ _ hS ?_
      clear hK K
      intro _
      have hSz := hS.size
      refine takeAt (i := 2) (v := .bool false) rfl (some 15) rfl (by kernel_rfl) (by kernel_rfl) (by kernel_rfl) (fun _ _ _ h => h) (take_run rfl (fun _ _ => by go_simp; rw [run_eq_num _ _ (Nat.lt_trans lv (by unfold pF; omega)) (by omega)]; simp [v0.out])) hS ?_
      simp only [Act.put, List.setIfInBounds_toArray, List.set_cons_zero, List.set_cons_succ]
      refine wpAnyH_done (by kernel_rfl) ?_ _
      refine NoPanic.normal ?_
      have hsz := hS.size
      have h2 : w8.heap[w.heap.size]? = some (.cells (numC u) 42 (0, 0)) := hS.old h2 (Nat.ne_of_lt (heap_lt h2))
      have h3 : w8.heap[w.heap.size + 1]? = some (.cells (numC v) 42 (0, 0)) := hS.old h3 (Nat.ne_of_lt (heap_lt h3))
      have h4 : w8.heap[w.heap.size + 1 + 1]? = some (.cells (z4) 42 (0, 0)) := hS.old h4 (Nat.ne_of_lt (heap_lt h4))
      have hBw8 : Hid (Below w.heap.size w w8) := Lib.hid (hBw6.out.trans (hS.below (by omega) hBw6.out.size))
      clear hS
      go_wp2_with fail
      go_meet
      exact ⟨rfl, Lib.hid h2, Lib.hid h3, Lib.hid h4, Lib.hid hBw8.out, Lib.hid (show w6.heap.size ≤ w8.heap.size by omega)⟩
    case rest =>
      obtain ⟨rfl, Hh2, Hh3, Hh4, hBw10, Hsz10⟩ := hcut
      obtain ⟨w10, rfl⟩ : ∃ u : World, u = wc := ⟨_, rfl⟩
      have h2 := Hh2.out
      have h3 := Hh3.out
      have h4 := Hh4.out
      have hsz10 := Hsz10.out
      go_wp2_with fail
      try simp only [Act.put]
      refine wp_named ?_
      intro w11 ew11
      have hs11 : w10.heap.size ≤ w11.heap.size := by rw [ew11]; (try simp only [alloc_size, setRow_size]); omega
      replace h2 : w11.heap[w.heap.size]? = some (.cells (numC u) 42 (0, 0)) := by rw [ew11]; exact h2
      replace h3 : w11.heap[w.heap.size + 1]? = some (.cells (numC v) 42 (0, 0)) := by rw [ew11]; exact h3
      replace h4 : w11.heap[w.heap.size + 1 + 1]? = some (.cells (z4) 42 (0, 0)) := by rw [ew11]; exact h4
      have hBw11 : Hid (Below w.heap.size w w11) := Lib.hid (by rw [ew11]; exact hBw10.out)
      clear ew11
      go_cut [6] (fun s6 wx => ∃ g6 : Nat, s6 = .pointer (some ⟨g6, 0, none⟩) ∧ Hid (w11.heap.size ≤ g6) ∧ Hid (wx.heap[g6]? = some (.cells (numC q) 42 (0, 0))) ∧ Hid (wx.heap[w.heap.size]? = some (.cells (numC u) 42 (0, 0))) ∧ Hid (wx.heap[w.heap.size + 1]? = some (.cells (numC v) 42 (0, 0))) ∧ Hid (wx.heap[w.heap.size + 1 + 1]? = some (.cells (z4) 42 (0, 0))) ∧ Hid (Below w.heap.size w wx) ∧ Hid (w11.heap.size ≤ wx.heap.size))
      case first =>
        refine wp_region_noPanic ?_
        refine wp_region_held_drew (S := Keep (w11.heap.size) w11) (by kernel_rfl) (Keep.start _ _) ?_
        intro hS
        obtain ⟨w12, ed⟩ : ∃ u : World, u = w11.drew := ⟨_, rfl⟩
        rw [← ed] at hS ⊢
        have xh2 : w12.heap[w.heap.size]? = some (.cells (numC u) 42 (0, 0)) := by rw [ed]; exact h2
        have xh3 : w12.heap[w.heap.size + 1]? = some (.cells (numC v) 42 (0, 0)) := by rw [ed]; exact h3
        have xh4 : w12.heap[w.heap.size + 1 + 1]? = some (.cells (z4) 42 (0, 0)) := by rw [ed]; exact h4
        clear ed
        have hSz := hS.size
        clear xh2
        clear xh3
        clear xh4
        refine takeAt (i := 0) (v := .agg (numC u)) rfl (some 17) rfl (by kernel_rfl) (by kernel_rfl) (by kernel_rfl) (fun _ _ _ h => h) (take_row rfl _ _ rfl (w.heap.size) rfl _ _ _ h2 (Nat.ne_of_lt (heap_lt h2)) underNum rfl (infoNum_of (numC u) (numC_size _))) hS ?_
        simp only [Act.put, List.setIfInBounds_toArray, List.set_cons_zero, List.set_cons_succ]
        refine takeAt (i := 1) (v := .agg (numC v)) rfl (some 18) rfl (by kernel_rfl) (by kernel_rfl) (by kernel_rfl) (fun _ _ _ h => h) (take_row rfl _ _ rfl (w.heap.size + 1) rfl _ _ _ h3 (Nat.ne_of_lt (heap_lt h3)) underNum rfl (infoNum_of (numC v) (numC_size _))) hS ?_
        simp only [Act.put, List.setIfInBounds_toArray, List.set_cons_zero, List.set_cons_succ]
        refine wpAnyH_ready (rs := [2, 5]) (by kernel_rfl) (by simp) ?_
        refine (AllReadyH.cons rfl ?_ (AllReadyH.cons rfl ?_ AllReadyH.nil))
        · intro K hK
          refine ready_call rfl (some 19) rfl 42 #[.agg (numC v)] (by go_simp) ?_
          refine (inverse_to v I lv HI _).mono ?_
          rintro e w13 ⟨rfl, hC⟩
          refine ⟨_, rfl, ?_⟩
          simp only [Act.put, List.setIfInBounds_toArray, List.set_cons_zero, List.set_cons_succ]
          have hS := hS.call hC
          have hz13 := hC.size
          clear hC
          refine hK.out _ _ hS ?_
          clear hK K
          intro _
          have hSz := hS.size
          refine wpAnyH_ready (rs := [3, 5]) (by kernel_rfl) (by simp) ?_
          refine (AllReadyH.cons rfl ?_ (AllReadyH.cons rfl ?_ AllReadyH.nil))
          · intro K hK
            refine ready_call rfl (some 20) rfl 36 #[] (by go_simp) ?_
            refine (prime_any _).mono ?_
            rintro e w14 ⟨rfl, hC⟩
            refine ⟨_, rfl, ?_⟩
            simp only [Act.put, List.setIfInBounds_toArray, List.set_cons_zero, List.set_cons_succ]
            have hS := hS.call hC
            have hz14 := hC.size
            clear hC
            refine hK.out _ _ hS ?_
            clear hK K
            intro _
            have hSz := hS.size
            refine wpAnyH_ready (rs := [4, 5]) (by kernel_rfl) (by simp) ?_
            refine (AllReadyH.cons rfl ?_ (AllReadyH.cons rfl ?_ AllReadyH.nil))
            · intro K hK
              refine ready_call rfl (some 21) rfl 39 #[.agg (numC u), .agg (numC I), .agg (numC pF)] (by go_simp) ?_
              refine (times_to u I pF q Hq lu (Nat.lt_trans lI (by unfold pF; omega)) (by unfold pF; omega) _).mono ?_
              rintro e w15 ⟨rfl, hC⟩
              refine ⟨_, rfl, ?_⟩
              simp only [Act.put, List.setIfInBounds_toArray, List.set_cons_zero, List.set_cons_succ]
              have hS := hS.call hC
              have hz15 := hC.size
              clear hC
              refine hK.out _ _ hS ?_
              clear hK K
              intro _
              have hSz := hS.size
              refine wpAnyH_ready (rs := [5]) (by kernel_rfl) (by simp) ?_
              refine (AllReadyH.cons rfl ?_ AllReadyH.nil)
              intro K hK
              refine ready_run rfl (some 6) rfl (.pointer (some ⟨w15.heap.size, 0, none⟩)) (w15.alloc (.cells z4 42)) (by go_simp; try rfl) ?_
              simp only [Act.put, List.setIfInBounds_toArray, List.set_cons_zero, List.set_cons_succ]
              obtain ⟨w16, ea⟩ : ∃ u : World, u = w15.alloc (.cells z4 42) := ⟨_, rfl⟩
              rw [← ea]
              have hS := hS.alloc (.cells z4 42)
              rw [← ea] at hS
              have hz16 : w15.heap.size + 1 ≤ w16.heap.size := by rw [ea, alloc_size]; omega
              have hy16 : w11.heap.size ≤ w15.heap.size := hSz
              have xh6 : w16.heap[w15.heap.size]? = some (.cells (z4) 42 (0, 0)) := by rw [ea]; exact heap_new_at _ _ _ rfl
              clear ea
              refine hK.out _ _ hS ?_
              clear hK K
              intro _
              have hSz := hS.size
              refine wpAnyH_ready (rs := [6]) (by kernel_rfl) (by simp) ?_
              refine (AllReadyH.cons rfl ?_ AllReadyH.nil)
              intro K hK
              rw [if_pos (by rfl)]
              refine wp_store_row 42 _ _ rfl (w15.heap.size) (numC q) rfl rfl 42 (z4) xh6 (infoNum_of (numC q) (numC_size _)) (z4_size.trans (numC_size _).symm) (numC_one _) ?_
              refine put_at (none) rfl ?_
              simp only [Act.put, List.setIfInBounds_toArray, List.set_cons_zero, List.set_cons_succ]
              have xh6 : (w16.setRow (w15.heap.size) (numC q)).heap[w15.heap.size]? = some (.cells (numC q) 42 (0, 0)) := (setRow_heap _ _ _ _ _ _ xh6)
              have hS := hS.storeNew (numC q) (show w11.heap.size ≤ w15.heap.size by omega)
              generalize w16.setRow (w15.heap.size) (numC q) = w17 at *
              refine hK.out _ _ hS ?_
              clear hK K
              intro _
              have hSz := hS.size
              refine wpAnyH_done (by kernel_rfl) ?_ _
              refine NoPanic.normal ?_
              have hsz := hS.size
              have h2 : w17.heap[w.heap.size]? = some (.cells (numC u) 42 (0, 0)) := hS.old h2 (Nat.ne_of_lt (heap_lt h2))
              have h3 : w17.heap[w.heap.size + 1]? = some (.cells (numC v) 42 (0, 0)) := hS.old h3 (Nat.ne_of_lt (heap_lt h3))
              have h4 : w17.heap[w.heap.size + 1 + 1]? = some (.cells (z4) 42 (0, 0)) := hS.old h4 (Nat.ne_of_lt (heap_lt h4))
              have h6 := xh6
              have hBw17 : Hid (Below w.heap.size w w17) := Lib.hid (hBw11.out.trans (hS.below (by omega) hBw11.out.size))
              clear hS
              go_wp2_with fail
              go_meet
              exact ⟨w15.heap.size, rfl, Lib.hid (show w11.heap.size ≤ w15.heap.size by omega), Lib.hid h6, Lib.hid h2, Lib.hid h3, Lib.hid h4, Lib.hid hBw17.out, Lib.hid (show w11.heap.size ≤ w17.heap.size by omega)⟩
            · intro K hK
              refine ready_run rfl (some 6) rfl (.pointer (some ⟨w14.heap.size, 0, none⟩)) (w14.alloc (.cells z4 42)) (by go_simp; try rfl) ?_
              simp only [Act.put, List.setIfInBounds_toArray, List.set_cons_zero, List.set_cons_succ]
              obtain ⟨w19, ea⟩ : ∃ u : World, u = w14.alloc (.cells z4 42) := ⟨_, rfl⟩
              rw [← ea]
              have hS := hS.alloc (.cells z4 42)
              rw [← ea] at hS
              have hz19 : w14.heap.size + 1 ≤ w19.heap.size := by rw [ea, alloc_size]; omega
              have hy19 : w11.heap.size ≤ w14.heap.size := hSz
              have xh6 : w19.heap[w14.heap.size]? = some (.cells (z4) 42 (0, 0)) := by rw [ea]; exact heap_new_at _ _ _ rfl
              clear ea
              refine hK.out _ _ hS ?_
              clear hK K
              intro _
              have hSz := hS.size
              refine wpAnyH_ready (rs := [4]) (by kernel_rfl) (by simp) ?_
              refine (AllReadyH.cons rfl ?_ AllReadyH.nil)
              intro K hK
              refine ready_call rfl (some 21) rfl 39 #[.agg (numC u), .agg (numC I), .agg (numC pF)] (by go_simp) ?_
              refine (times_to u I pF q Hq lu (Nat.lt_trans lI (by unfold pF; omega)) (by unfold pF; omega) _).mono ?_
              rintro e w20 ⟨rfl, hC⟩
              refine ⟨_, rfl, ?_⟩
              simp only [Act.put, List.setIfInBounds_toArray, List.set_cons_zero, List.set_cons_succ]
              have xh6 : w20.heap[w14.heap.size]? = some (.cells (z4) 42 (0, 0)) := (heap_call hC xh6)
              have hS := hS.call hC
              have hz20 := hC.size
              clear hC
              refine hK.out _ _ hS ?_
              clear hK K
              intro _
              have hSz := hS.size
              refine wpAnyH_ready (rs := [6]) (by kernel_rfl) (by simp) ?_
              refine (AllReadyH.cons rfl ?_ AllReadyH.nil)
              intro K hK
              rw [if_pos (by rfl)]
              refine wp_store_row 42 _ _ rfl (w14.heap.size) (numC q) rfl rfl 42 (z4) xh6 (infoNum_of (numC q) (numC_size _)) (z4_size.trans (numC_size _).symm) (numC_one _) ?_
              refine put_at (none) rfl ?_
              simp only [Act.put, List.setIfInBounds_toArray, List.set_cons_zero, List.set_cons_succ]
              have xh6 : (w20.setRow (w14.heap.size) (numC q)).heap[w14.heap.size]? = some (.cells (numC q) 42 (0, 0)) := (setRow_heap _ _ _ _ _ _ xh6)
              have hS := hS.storeNew (numC q) (show w11.heap.size ≤ w14.heap.size by omega)
              generalize w20.setRow (w14.heap.size) (numC q) = w21 at *
              refine hK.out _ _ hS ?_
              clear hK K
              intro _
              have hSz := hS.size
              refine wpAnyH_done (by kernel_rfl) ?_ _
              refine NoPanic.normal ?_
              have hsz := hS.size
              have h2 : w21.heap[w.heap.size]? = some (.cells (numC u) 42 (0, 0)) := hS.old h2 (Nat.ne_of_lt (heap_lt h2))
              have h3 : w21.heap[w.heap.size + 1]? = some (.cells (numC v) 42 (0, 0)) := hS.old h3 (Nat.ne_of_lt (heap_lt h3))
              have h4 : w21.heap[w.heap.size + 1 + 1]? = some (.cells (z4) 42 (0, 0)) := hS.old h4 (Nat.ne_of_lt (heap_lt h4))
              have h6 := xh6
              have hBw21 : Hid (Below w.heap.size w w21) := Lib.hid (hBw11.out.trans (hS.below (by omega) hBw11.out.size))
              clear hS
              go_wp2_with fail
              go_meet
              exact ⟨w14.heap.size, rfl, Lib.hid (show w11.heap.size ≤ w14.heap.size by omega), Lib.hid h6, Lib.hid h2, Lib.hid h3, Lib.hid h4, Lib.hid hBw21.out, Lib.hid (show w11.heap.size ≤ w21.heap.size by omega)⟩
          · intro K hK
            refine ready_run rfl (some 6) rfl (.pointer (some ⟨w13.heap.size, 0, none⟩)) (w13.alloc (.cells z4 42)) (by go_simp; try rfl) ?_
            simp only [Act.put, List.setIfInBounds_toArray, List.set_cons_zero, List.set_cons_succ]
            obtain ⟨w23, ea⟩ : ∃ u : World, u = w13.alloc (.cells z4 42) := ⟨_, rfl⟩
            rw [← ea]
            have hS := hS.alloc (.cells z4 42)
            rw [← ea] at hS
            have hz23 : w13.heap.size + 1 ≤ w23.heap.size := by rw [ea, alloc_size]; omega
            have hy23 : w11.heap.size ≤ w13.heap.size := hSz
            have xh6 : w23.heap[w13.heap.size]? = some (.cells (z4) 42 (0, 0)) := by rw [ea]; exact heap_new_at _ _ _ rfl
            clear ea
            refine hK.out _ _ hS ?_
            clear hK K
            intro _
            have hSz := hS.size
            refine wpAnyH_ready (rs := [3]) (by kernel_rfl) (by simp) ?_
            refine (AllReadyH.cons rfl ?_ AllReadyH.nil)
            intro K hK
            refine ready_call rfl (some 20) rfl 36 #[] (by go_simp) ?_
            refine (prime_any _).mono ?_
            rintro e w24 ⟨rfl, hC⟩
            refine ⟨_, rfl, ?_⟩
            simp only [Act.put, List.setIfInBounds_toArray, List.set_cons_zero, List.set_cons_succ]
            have xh6 : w24.heap[w13.heap.size]? = some (.cells (z4) 42 (0, 0)) := (heap_call hC xh6)
            have hS := hS.call hC
            have hz24 := hC.size
            clear hC
            refine hK.out _ _ hS ?_
            clear hK K
            intro _
            have hSz := hS.size
            refine wpAnyH_ready (rs := [4]) (by kernel_rfl) (by simp) ?_
            refine (AllReadyH.cons rfl ?_ AllReadyH.nil)
            intro K hK
            refine ready_call rfl (some 21) rfl 39 #[.agg (numC u), .agg (numC I), .agg (numC pF)] (by go_simp) ?_
            refine (times_to u I pF q Hq lu (Nat.lt_trans lI (by unfold pF; omega)) (by unfold pF; omega) _).mono ?_
            rintro e w25 ⟨rfl, hC⟩
            refine ⟨_, rfl, ?_⟩
            simp only [Act.put, List.setIfInBounds_toArray, List.set_cons_zero, List.set_cons_succ]
            have xh6 : w25.heap[w13.heap.size]? = some (.cells (z4) 42 (0, 0)) := (heap_call hC xh6)
            have hS := hS.call hC
            have hz25 := hC.size
            clear hC
            refine hK.out _ _ hS ?_
            clear hK K
            intro _
            have hSz := hS.size
            refine wpAnyH_ready (rs := [6]) (by kernel_rfl) (by simp) ?_
            refine (AllReadyH.cons rfl ?_ AllReadyH.nil)
            intro K hK
            rw [if_pos (by rfl)]
            refine wp_store_row 42 _ _ rfl (w13.heap.size) (numC q) rfl rfl 42 (z4) xh6 (infoNum_of (numC q) (numC_size _)) (z4_size.trans (numC_size _).symm) (numC_one _) ?_
            refine put_at (none) rfl ?_
            simp only [Act.put, List.setIfInBounds_toArray, List.set_cons_zero, List.set_cons_succ]
            have xh6 : (w25.setRow (w13.heap.size) (numC q)).heap[w13.heap.size]? = some (.cells (numC q) 42 (0, 0)) := (setRow_heap _ _ _ _ _ _ xh6)
            have hS := hS.storeNew (numC q) (show w11.heap.size ≤ w13.heap.size by omega)
            generalize w25.setRow (w13.heap.size) (numC q) = w26 at *
            refine hK.out _ _ hS ?_
            clear hK K
            intro _
            have hSz := hS.size
            refine wpAnyH_done (by kernel_rfl) ?_ _
            refine NoPanic.normal ?_
            have hsz := hS.size
            have h2 : w26.heap[w.heap.size]? = some (.cells (numC u) 42 (0, 0)) := hS.old h2 (Nat.ne_of_lt (heap_lt h2))
            have h3 : w26.heap[w.heap.size + 1]? = some (.cells (numC v) 42 (0, 0)) := hS.old h3 (Nat.ne_of_lt (heap_lt h3))
            have h4 : w26.heap[w.heap.size + 1 + 1]? = some (.cells (z4) 42 (0, 0)) := hS.old h4 (Nat.ne_of_lt (heap_lt h4))
            have h6 := xh6
            have hBw26 : Hid (Below w.heap.size w w26) := Lib.hid (hBw11.out.trans (hS.below (by omega) hBw11.out.size))
            clear hS
            go_wp2_with fail
            go_meet
            exact ⟨w13.heap.size, rfl, Lib.hid (show w11.heap.size ≤ w13.heap.size by omega), Lib.hid h6, Lib.hid h2, Lib.hid h3, Lib.hid h4, Lib.hid hBw26.out, Lib.hid (show w11.heap.size ≤ w26.heap.size by omega)⟩
        · intro K hK
          refine ready_run rfl (some 6) rfl (.pointer (some ⟨w12.heap.size, 0, none⟩)) (w12.alloc (.cells z4 42)) (by go_simp; try rfl) ?_
          simp only [Act.put, List.setIfInBounds_toArray, List.set_cons_zero, List.set_cons_succ]
          obtain ⟨w28, ea⟩ : ∃ u : World, u = w12.alloc (.cells z4 42) := ⟨_, rfl⟩
          rw [← ea]
          have hS := hS.alloc (.cells z4 42)
          rw [← ea] at hS
          have hz28 : w12.heap.size + 1 ≤ w28.heap.size := by rw [ea, alloc_size]; omega
          have hy28 : w11.heap.size ≤ w12.heap.size := hSz
          have xh6 : w28.heap[w12.heap.size]? = some (.cells (z4) 42 (0, 0)) := by rw [ea]; exact heap_new_at _ _ _ rfl
          clear ea
          refine hK.out _ _ hS ?_
          clear hK K
          intro _
          have hSz := hS.size
          refine wpAnyH_ready (rs := [2]) (by kernel_rfl) (by simp) ?_
          refine (AllReadyH.cons rfl ?_ AllReadyH.nil)
          intro K hK
          refine ready_call rfl (some 19) rfl 42 #[.agg (numC v)] (by go_simp) ?_
          refine (inverse_to v I lv HI _).mono ?_
          rintro e w29 ⟨rfl, hC⟩
          refine ⟨_, rfl, ?_⟩
          simp only [Act.put, List.setIfInBounds_toArray, List.set_cons_zero, List.set_cons_succ]
          have xh6 : w29.heap[w12.heap.size]? = some (.cells (z4) 42 (0, 0)) := (heap_call hC xh6)
          have hS := hS.call hC
          have hz29 := hC.size
          clear hC
          refine hK.out _ _ hS ?_
          clear hK K
          intro _
          have hSz := hS.size
          refine wpAnyH_ready (rs := [3]) (by kernel_rfl) (by simp) ?_
          refine (AllReadyH.cons rfl ?_ AllReadyH.nil)
          intro K hK
          refine ready_call rfl (some 20) rfl 36 #[] (by go_simp) ?_
          refine (prime_any _).mono ?_
          rintro e w30 ⟨rfl, hC⟩
          refine ⟨_, rfl, ?_⟩
          simp only [Act.put, List.setIfInBounds_toArray, List.set_cons_zero, List.set_cons_succ]
          have xh6 : w30.heap[w12.heap.size]? = some (.cells (z4) 42 (0, 0)) := (heap_call hC xh6)
          have hS := hS.call hC
          have hz30 := hC.size
          clear hC
          refine hK.out _ _ hS ?_
          clear hK K
          intro _
          have hSz := hS.size
          refine wpAnyH_ready (rs := [4]) (by kernel_rfl) (by simp) ?_
          refine (AllReadyH.cons rfl ?_ AllReadyH.nil)
          intro K hK
          refine ready_call rfl (some 21) rfl 39 #[.agg (numC u), .agg (numC I), .agg (numC pF)] (by go_simp) ?_
          refine (times_to u I pF q Hq lu (Nat.lt_trans lI (by unfold pF; omega)) (by unfold pF; omega) _).mono ?_
          rintro e w31 ⟨rfl, hC⟩
          refine ⟨_, rfl, ?_⟩
          simp only [Act.put, List.setIfInBounds_toArray, List.set_cons_zero, List.set_cons_succ]
          have xh6 : w31.heap[w12.heap.size]? = some (.cells (z4) 42 (0, 0)) := (heap_call hC xh6)
          have hS := hS.call hC
          have hz31 := hC.size
          clear hC
          refine hK.out _ _ hS ?_
          clear hK K
          intro _
          have hSz := hS.size
          refine wpAnyH_ready (rs := [6]) (by kernel_rfl) (by simp) ?_
          refine (AllReadyH.cons rfl ?_ AllReadyH.nil)
          intro K hK
          rw [if_pos (by rfl)]
          refine wp_store_row 42 _ _ rfl (w12.heap.size) (numC q) rfl rfl 42 (z4) xh6 (infoNum_of (numC q) (numC_size _)) (z4_size.trans (numC_size _).symm) (numC_one _) ?_
          refine put_at (none) rfl ?_
          simp only [Act.put, List.setIfInBounds_toArray, List.set_cons_zero, List.set_cons_succ]
          have xh6 : (w31.setRow (w12.heap.size) (numC q)).heap[w12.heap.size]? = some (.cells (numC q) 42 (0, 0)) := (setRow_heap _ _ _ _ _ _ xh6)
          have hS := hS.storeNew (numC q) (show w11.heap.size ≤ w12.heap.size by omega)
          generalize w31.setRow (w12.heap.size) (numC q) = w32 at *
          refine hK.out _ _ hS ?_
          clear hK K
          intro _
          have hSz := hS.size
          refine wpAnyH_done (by kernel_rfl) ?_ _
          refine NoPanic.normal ?_
          have hsz := hS.size
          have h2 : w32.heap[w.heap.size]? = some (.cells (numC u) 42 (0, 0)) := hS.old h2 (Nat.ne_of_lt (heap_lt h2))
          have h3 : w32.heap[w.heap.size + 1]? = some (.cells (numC v) 42 (0, 0)) := hS.old h3 (Nat.ne_of_lt (heap_lt h3))
          have h4 : w32.heap[w.heap.size + 1 + 1]? = some (.cells (z4) 42 (0, 0)) := hS.old h4 (Nat.ne_of_lt (heap_lt h4))
          have h6 := xh6
          have hBw32 : Hid (Below w.heap.size w w32) := Lib.hid (hBw11.out.trans (hS.below (by omega) hBw11.out.size))
          clear hS
          go_wp2_with fail
          go_meet
          exact ⟨w12.heap.size, rfl, Lib.hid (show w11.heap.size ≤ w12.heap.size by omega), Lib.hid h6, Lib.hid h2, Lib.hid h3, Lib.hid h4, Lib.hid hBw32.out, Lib.hid (show w11.heap.size ≤ w32.heap.size by omega)⟩
      case rest =>
        obtain ⟨g6, rfl, Hg6, Hh6, Hh2, Hh3, Hh4, hBw34, Hsz34⟩ := hcut
        obtain ⟨w34, rfl⟩ : ∃ u : World, u = wc := ⟨_, rfl⟩
        have hgl6 := Hg6.out
        have h6 := Hh6.out
        have hgu6 := heap_lt h6
        have h2 := Hh2.out
        have h3 := Hh3.out
        have h4 := Hh4.out
        have hsz34 := Hsz34.out
        go_wp2_with (first
          | ((with_reducible refine at_dst 23 ?_); refine wpList_load_row rfl 42 _ rfl (g6) rfl 42 (numC q) (0, 0) _ h6 underNum rfl (infoNum_of (numC q) (numC_size _)) ?_))
        refine (root_not' q lq hq _).mono ?_
        rintro e w35 ⟨rfl, hC35⟩
        have hs35 : w34.heap.size ≤ w35.heap.size := by have := hC35.size; (try simp only [alloc_size, setRow_size] at this); omega
        replace h2 : w35.heap[w.heap.size]? = some (.cells (numC u) 42 (0, 0)) := (heap_call hC35 h2)
        replace h3 : w35.heap[w.heap.size + 1]? = some (.cells (numC v) 42 (0, 0)) := (heap_call hC35 h3)
        replace h4 : w35.heap[w.heap.size + 1 + 1]? = some (.cells (z4) 42 (0, 0)) := (heap_call hC35 h4)
        replace h6 : w35.heap[g6]? = some (.cells (numC q) 42 (0, 0)) := (heap_call hC35 h6)
        have hBw35 : Hid (Below w.heap.size w w35) := Lib.hid (below_call hBw34.out hC35)
        clear hC35
        go_wp2_with (first
          | ((with_reducible refine at_store 7 ?_); refine wpList_store_row rfl 42 _ _ rfl (w35.heap.size) (z4) rfl rfl 42 (z4) (heap_new_at _ _ _ rfl) (infoNum_of (z4) z4_size) (z4_size.trans z4_size.symm) z4_one ?_))
        try simp only [Act.put]
        refine wp_named ?_
        intro w36 ew36
        have hs36 : w35.heap.size + 1 ≤ w36.heap.size := by rw [ew36]; (try simp only [alloc_size, setRow_size]); omega
        replace h2 : w36.heap[w.heap.size]? = some (.cells (numC u) 42 (0, 0)) := by rw [ew36]; exact (heap_row _ (by omega) (heap_old _ h2))
        replace h3 : w36.heap[w.heap.size + 1]? = some (.cells (numC v) 42 (0, 0)) := by rw [ew36]; exact (heap_row _ (by omega) (heap_old _ h3))
        replace h4 : w36.heap[w.heap.size + 1 + 1]? = some (.cells (z4) 42 (0, 0)) := by rw [ew36]; exact (heap_row _ (by omega) (heap_old _ h4))
        replace h6 : w36.heap[g6]? = some (.cells (numC q) 42 (0, 0)) := by rw [ew36]; exact (heap_row _ (by omega) (heap_old _ h6))
        replace h7 : w36.heap[w35.heap.size]? = some (.cells (z4) 42 (0, 0)) := by rw [ew36]; exact (setRow_heap _ _ _ _ _ _ (heap_new_at _ _ _ rfl))
        have hBw36 : Hid (Below w.heap.size w w36) := Lib.hid (by rw [ew36]; exact (below_setRow (below_alloc hBw35.out _) (by omega) _))
        clear ew36
        go_cut [] (fun  wx => Hid (wx.heap[w.heap.size]? = some (.cells (numC u) 42 (0, 0))) ∧ Hid (wx.heap[w.heap.size + 1]? = some (.cells (numC v) 42 (0, 0))) ∧ Hid (wx.heap[w.heap.size + 1 + 1]? = some (.cells (z4) 42 (0, 0))) ∧ Hid (wx.heap[g6]? = some (.cells (numC q) 42 (0, 0))) ∧ Hid (wx.heap[w35.heap.size]? = some (.cells (numC R) 42 (0, 0))) ∧ Hid (Below w.heap.size w wx) ∧ Hid (w36.heap.size ≤ wx.heap.size))
        case first =>
          refine wp_region_noPanic ?_
          refine wp_region_held_drew (S := Keep (w35.heap.size) w36) (by kernel_rfl) (Keep.start _ _) ?_
          intro hS
          obtain ⟨w37, ed⟩ : ∃ u : World, u = w36.drew := ⟨_, rfl⟩
          rw [← ed] at hS ⊢
          have xh2 : w37.heap[w.heap.size]? = some (.cells (numC u) 42 (0, 0)) := by rw [ed]; exact h2
          have xh3 : w37.heap[w.heap.size + 1]? = some (.cells (numC v) 42 (0, 0)) := by rw [ed]; exact h3
          have xh4 : w37.heap[w.heap.size + 1 + 1]? = some (.cells (z4) 42 (0, 0)) := by rw [ed]; exact h4
          have xh6 : w37.heap[g6]? = some (.cells (numC q) 42 (0, 0)) := by rw [ed]; exact h6
          have xh7 : w37.heap[w35.heap.size]? = some (.cells (z4) 42 (0, 0)) := by rw [ed]; exact h7
          clear ed
          have hSz := hS.size
          clear xh2
          clear xh3
          clear xh4
          clear xh6
          refine takeAt (i := 1) (v := .agg (numC q)) rfl (some 31) rfl (by kernel_rfl) (by kernel_rfl) (by kernel_rfl) (fun _ _ _ h => h) (take_row rfl _ _ rfl (g6) rfl _ _ _ h6 (by omega) underNum rfl (infoNum_of (numC q) (numC_size _))) hS ?_
          simp only [Act.put, List.setIfInBounds_toArray, List.set_cons_zero, List.set_cons_succ]
          refine wpAnyH_ready (rs := [0]) (by kernel_rfl) (by simp) ?_
          refine (AllReadyH.cons rfl ?_ AllReadyH.nil)
          intro K hK
          refine ready_call rfl (some 30) rfl 63 #[] (by go_simp) ?_
          refine (imaginary_any _).mono ?_
          rintro e w38 ⟨rfl, hC⟩
          refine ⟨_, rfl, ?_⟩
          simp only [Act.put, List.setIfInBounds_toArray, List.set_cons_zero, List.set_cons_succ]
          have xh7 : w38.heap[w35.heap.size]? = some (.cells (z4) 42 (0, 0)) := (heap_call hC xh7)
          have hS := hS.call hC
          have hz38 := hC.size
          clear hC
          refine hK.out _ _ hS ?_
          clear hK K
          intro _
          have hSz := hS.size
          refine wpAnyH_ready (rs := [2]) (by kernel_rfl) (by simp) ?_
          refine (AllReadyH.cons rfl ?_ AllReadyH.nil)
          intro K hK
          refine ready_call rfl (some 32) rfl 36 #[] (by go_simp) ?_
          refine (prime_any _).mono ?_
          rintro e w39 ⟨rfl, hC⟩
          refine ⟨_, rfl, ?_⟩
          simp only [Act.put, List.setIfInBounds_toArray, List.set_cons_zero, List.set_cons_succ]
          have xh7 : w39.heap[w35.heap.size]? = some (.cells (z4) 42 (0, 0)) := (heap_call hC xh7)
          have hS := hS.call hC
          have hz39 := hC.size
          clear hC
          refine hK.out _ _ hS ?_
          clear hK K
          intro _
          have hSz := hS.size
          refine wpAnyH_ready (rs := [3]) (by kernel_rfl) (by simp) ?_
          refine (AllReadyH.cons rfl ?_ AllReadyH.nil)
          intro K hK
          refine ready_call rfl (some 33) rfl 39 #[.agg (numC iN), .agg (numC q), .agg (numC pF)] (by go_simp) ?_
          refine (times_to iN q pF q2 Hq2 iN_lt (Nat.lt_trans lq (by unfold pF; omega)) (by unfold pF; omega) _).mono ?_
          rintro e w40 ⟨rfl, hC⟩
          refine ⟨_, rfl, ?_⟩
          simp only [Act.put, List.setIfInBounds_toArray, List.set_cons_zero, List.set_cons_succ]
          have xh7 : w40.heap[w35.heap.size]? = some (.cells (z4) 42 (0, 0)) := (heap_call hC xh7)
          have hS := hS.call hC
          have hz40 := hC.size
          clear hC
          refine hK.out _ _ hS ?_
          clear hK K
          intro _
          have hSz := hS.size
          refine wpAnyH_ready (rs := [4]) (by kernel_rfl) (by simp) ?_
          refine (AllReadyH.cons rfl ?_ AllReadyH.nil)
          intro K hK
          refine ready_call rfl (some 34) rfl 62 #[.agg (numC q2)] (by go_simp) ?_
          refine (root_yes' q2 R lq2 hq2 HR _).mono ?_
          rintro e w41 ⟨rfl, hC⟩
          refine ⟨_, rfl, ?_⟩
          simp only [Act.put, List.setIfInBounds_toArray, List.set_cons_zero, List.set_cons_succ]
          have xh7 : w41.heap[w35.heap.size]? = some (.cells (z4) 42 (0, 0)) := (heap_call hC xh7)
          have hS := hS.call hC
          have hz41 := hC.size
          clear hC
          refine hK.out _ _ hS ?_
          clear hK K
          intro _
          have hSz := hS.size
          refine takeAt (i := 5) (v := .tuple #[.agg (numC R), .bool true]) rfl (some 29) rfl (by kernel_rfl) (by kernel_rfl) (by kernel_rfl) (fun _ _ _ h => h) (take_run rfl (fun _ _ => by go_simp)) hS ?_
          simp only [Act.put, List.setIfInBounds_toArray, List.set_cons_zero, List.set_cons_succ]
          refine takeAt (i := 6) (v := .agg (numC R)) rfl (some 35) rfl (by kernel_rfl) (by kernel_rfl) (by kernel_rfl) (fun _ _ _ h => h) (take_run rfl (fun _ _ => by go_simp)) hS ?_
          simp only [Act.put, List.setIfInBounds_toArray, List.set_cons_zero, List.set_cons_succ]
          refine takeAt (i := 7) (v := .bool true) rfl (some 36) rfl (by kernel_rfl) (by kernel_rfl) (by kernel_rfl) (fun _ _ _ h => h) (take_run rfl (fun _ _ => by go_simp)) hS ?_
          simp only [Act.put, List.setIfInBounds_toArray, List.set_cons_zero, List.set_cons_succ]
          refine wpAnyH_ready (rs := [8]) (by kernel_rfl) (by simp) ?_
          refine (AllReadyH.cons rfl ?_ AllReadyH.nil)
          intro K hK
          rw [if_pos (by rfl)]
          refine wp_store_row 42 _ _ rfl (w35.heap.size) (numC R) rfl rfl 42 (z4) xh7 (infoNum_of (numC R) (numC_size _)) (z4_size.trans (numC_size _).symm) (numC_one _) ?_
          refine put_at (none) rfl ?_
          simp only [Act.put, List.setIfInBounds_toArray, List.set_cons_zero, List.set_cons_succ]
          have xh7 : (w41.setRow (w35.heap.size) (numC R)).heap[w35.heap.size]? = some (.cells (numC R) 42 (0, 0)) := (setRow_heap _ _ _ _ _ _ xh7)
          have hS := hS.store (numC R)
          generalize w41.setRow (w35.heap.size) (numC R) = w42 at *
          refine hK.out _ _ hS ?_
          clear hK K
          intro _
          have hSz := hS.size
          refine wpAnyH_done (by kernel_rfl) ?_ _
          refine NoPanic.normal ?_
          have hsz := hS.size
          have h2 : w42.heap[w.heap.size]? = some (.cells (numC u) 42 (0, 0)) := hS.old h2 (by omega)
          have h3 : w42.heap[w.heap.size + 1]? = some (.cells (numC v) 42 (0, 0)) := hS.old h3 (by omega)
          have h4 : w42.heap[w.heap.size + 1 + 1]? = some (.cells (z4) 42 (0, 0)) := hS.old h4 (by omega)
          have h6 : w42.heap[g6]? = some (.cells (numC q) 42 (0, 0)) := hS.old h6 (by omega)
          have h7 := xh7
          have hBw42 : Hid (Below w.heap.size w w42) := Lib.hid (hBw36.out.trans (hS.below (by omega) hBw36.out.size))
          clear hS
          go_wp2_with fail
          go_meet
          exact ⟨Lib.hid h2, Lib.hid h3, Lib.hid h4, Lib.hid h6, Lib.hid h7, Lib.hid hBw42.out, Lib.hid (show w36.heap.size ≤ w42.heap.size by omega)⟩
        case rest =>
          obtain ⟨Hh2, Hh3, Hh4, Hh6, Hh7, hBw44, Hsz44⟩ := hcut
          obtain ⟨w44, rfl⟩ : ∃ u : World, u = wc := ⟨_, rfl⟩
          have h2 := Hh2.out
          have h3 := Hh3.out
          have h4 := Hh4.out
          have h6 := Hh6.out
          have h7 := Hh7.out
          have hsz44 := Hsz44.out
          go_wp2_with (first
            | ((with_reducible refine at_dst 37 ?_); refine wpList_load_row rfl 42 _ rfl (w35.heap.size) rfl 42 (numC R) (0, 0) _ h7 underNum rfl (infoNum_of (numC R) (numC_size _)) ?_)
            | ((with_reducible refine at_store 4 ?_); refine wpList_store_row rfl 42 _ _ rfl (w.heap.size + 1 + 1) (numC R) rfl rfl 42 (z4) h4 (infoNum_of (numC R) (numC_size _)) (z4_size.trans (numC_size _).symm) (numC_one _) ?_))
          refine bodyPost_ret (results_row_tmp rfl _ _ (w.heap.size + 1 + 1) 42 (numC R) (0, 0) _ rfl (setRow_heap _ _ _ _ _ _ h4) underNum rfl (infoNum_of (numC R) (numC_size _))) rfl ⟨rfl, (below_setRow hBw44.out (by omega) _)⟩

theorem numC_zero : z4 = numC 0 := by rw [numC_four]; unfold woV wordN z4; simp
theorem ratioRoot_any (u v R : Nat) (lu : u < pF) (lv : v < pF) (hR : Hid (R = sqR u v)) (w : World) : Calls Tryd.prog 45 #[.agg (numC u), .agg (numC v)] w fun e w' => ∃ Z : Int, e = .returned (.tuple #[.agg (numC R), .int .i64 Z]) ∧ Below w.heap.size w w' := by
  by_cases u0 : u = 0
  · subst u0
    have := hR.out
    rw [sqR_u0] at this
    subst this
    exact (ratio_u v lv w).mono fun e w' h => ⟨1, by rw [← numC_zero]; exact h.1, h.2⟩
  · by_cases v0 : v = 0
    · subst v0
      have := hR.out
      rw [sqR_v0] at this
      subst this
      exact (ratio_v u lu (Lib.hid u0) w).mono fun e w' h => ⟨0, by rw [← numC_zero]; exact h.1, h.2⟩
    · cases hW : sqW u v with
      | true => exact (ratio_yes u v R lu lv (Lib.hid u0) (Lib.hid v0) hW hR w).mono fun e w' h => ⟨1, h.1, h.2⟩
      | false => exact (ratio_no u v R lu lv (Lib.hid u0) (Lib.hid v0) hW hR w).mono fun e w' h => ⟨0, h.1, h.2⟩
end Go.Proofs.YtemgflkecflhmaaDoor
