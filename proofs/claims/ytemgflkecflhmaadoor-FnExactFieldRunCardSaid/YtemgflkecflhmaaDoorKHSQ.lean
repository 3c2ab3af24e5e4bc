/- The reference's numbers over the field; absolute, root. -/
import Derived.Test.YtemgflkecflhmaaDoorKL2
import Derived.Test.YtemgflkecflhmaaDoorKL3
set_option maxRecDepth 4000
set_option linter.unusedSimpArgs false
set_option linter.unusedVariables false
namespace Go.Proofs.YtemgflkecflhmaaDoor
open Go.RowKit

theorem stimes_ff (a b R : Fp) (hR : Hid (R = a * b)) (w : World) : Calls Tryd.prog 39 #[.agg (numC a.val), .agg (numC b.val), .agg (numC pF)] w fun e w' => e = .returned (.agg (numC R.val)) ∧ Below w.heap.size w w' :=
  times_to a.val b.val pF R.val (Lib.hid (by rw [hR.out]; exact fmul_val a b)) a.isLt (Nat.lt_trans b.isLt (by unfold pF; omega)) (by unfold pF; omega) w
theorem splus_ff (a b R : Fp) (hR : Hid (R = a + b)) (w : World) : Calls Tryd.prog 37 #[.agg (numC a.val), .agg (numC b.val), .agg (numC pF)] w fun e w' => e = .returned (.agg (numC R.val)) ∧ Below w.heap.size w w' :=
  plus_to a.val b.val pF R.val (Lib.hid (by rw [hR.out]; exact fadd_val a b)) a.isLt b.isLt (by unfold pF; omega) w
theorem sminus_ff (a b R : Fp) (hR : Hid (R = a - b)) (w : World) : Calls Tryd.prog 38 #[.agg (numC a.val), .agg (numC b.val), .agg (numC pF)] w fun e w' => e = .returned (.agg (numC R.val)) ∧ Below w.heap.size w w' :=
  minus_to a.val b.val pF R.val (Lib.hid (by rw [hR.out]; exact fsub_val a b)) a.isLt b.isLt (by unfold pF; omega) w
theorem sinverse_ff (a R : Fp) (hR : Hid (R = fpInv a)) (w : World) : Calls Tryd.prog 42 #[.agg (numC a.val)] w fun e w' => e = .returned (.agg (numC R.val)) ∧ Below w.heap.size w w' :=
  inverse_to a.val R.val a.isLt (Lib.hid (by rw [hR.out]; exact finv_val a _ (by unfold pF; omega))) w
theorem sopposite_ff (a R : Fp) (hR : Hid (R = -a)) (w : World) : Calls Tryd.prog 40 #[.agg (numC a.val)] w fun e w' => e = .returned (.agg (numC R.val)) ∧ Below w.heap.size w w' :=
  opposite_to a.val R.val a.isLt (Lib.hid (by rw [hR.out]; exact fneg_val a)) w
theorem sone_ff (w : World) : Calls Tryd.prog 41 #[.int .u64 1] w fun e w' => e = .returned (.agg (numC (1 : Fp).val)) ∧ Below w.heap.size w w' := small_any 1 (by omega) w
theorem dN_fp : (fp dN).val = dN := fp_lt dN_lt

set_option maxHeartbeats 1000000 in
theorem absolute_1 (a R : Nat) (h : Hid (a % 2 = 1)) (ha : a < pF) (HR : Hid (R = (pF - a) % pF)) (w : World) :
    Calls Tryd.prog 43 #[.agg (numC a)] w fun e w' => e = .returned (.agg (numC R)) ∧ Below w.heap.size w w' := by
  go_enter Tryd.func43, Tryd.ntmps43
  go_wp2_with (first
    | ((with_reducible refine at_dst 3 ?_); refine wpList_load_row rfl 42 _ rfl (w.heap.size) rfl 42 (numC a) (0, 0) _ (heap_old _ (heap_new_at _ _ _ rfl)) underNum rfl (infoNum_of (numC a) (numC_size _)) ?_))
  refine (negative_true a h _).mono ?_
  rintro e w1 ⟨rfl, hC1⟩
  have hs1 : w.heap.size + 1 + 1 ≤ w1.heap.size := by have := hC1.size; (try simp only [alloc_size, setRow_size] at this); omega
  replace h1 : w1.heap[w.heap.size]? = some (.cells (numC a) 42 (0, 0)) := (heap_call hC1 (heap_old _ (heap_new_at _ _ _ rfl)))
  replace h2 : w1.heap[w.heap.size + 1]? = some (.cells (z4) 42 (0, 0)) := (heap_call hC1 (heap_new_at _ _ _ (by simp only [alloc_size, setRow_size])))
  have hBw1 : Hid (Below w.heap.size w w1) := Lib.hid (below_call (below_alloc (below_alloc (Below.refl _ w) _) _) hC1)
  clear hC1
  go_wp2_with (first
    | ((with_reducible refine at_dst 5 ?_); refine wpList_load_row rfl 42 _ rfl (w.heap.size) rfl 42 (numC a) (0, 0) _ h1 underNum rfl (infoNum_of (numC a) (numC_size _)) ?_))
  refine (opposite_to a R ha HR _).mono ?_
  rintro e w2 ⟨rfl, hC2⟩
  have hs2 : w1.heap.size ≤ w2.heap.size := by have := hC2.size; (try simp only [alloc_size, setRow_size] at this); omega
  replace h1 : w2.heap[w.heap.size]? = some (.cells (numC a) 42 (0, 0)) := (heap_call hC2 h1)
  replace h2 : w2.heap[w.heap.size + 1]? = some (.cells (z4) 42 (0, 0)) := (heap_call hC2 h2)
  have hBw2 : Hid (Below w.heap.size w w2) := Lib.hid (below_call hBw1.out hC2)
  clear hC2
  go_wp2_with (first
    | ((with_reducible refine at_store 2 ?_); refine wpList_store_row rfl 42 _ _ rfl (w.heap.size + 1) (numC R) rfl rfl 42 (z4) h2 (infoNum_of (numC R) (numC_size _)) (z4_size.trans (numC_size _).symm) (numC_one _) ?_))
  refine bodyPost_ret (results_cell_row rfl _ _ (w.heap.size + 1) 42 (numC R) (0, 0) _ rfl (setRow_heap _ _ _ _ _ _ h2) underNum rfl (infoNum_of (numC R) (numC_size _))) rfl ⟨rfl, (below_setRow hBw2.out (by omega) _)⟩

set_option maxHeartbeats 1000000 in
theorem absolute_0 (a R : Nat) (h : Hid (¬ a % 2 = 1)) (w : World) :
    Calls Tryd.prog 43 #[.agg (numC a)] w fun e w' => e = .returned (.agg (numC a)) ∧ Below w.heap.size w w' := by
  go_enter Tryd.func43, Tryd.ntmps43
  go_wp2_with (first
    | ((with_reducible refine at_dst 3 ?_); refine wpList_load_row rfl 42 _ rfl (w.heap.size) rfl 42 (numC a) (0, 0) _ (heap_old _ (heap_new_at _ _ _ rfl)) underNum rfl (infoNum_of (numC a) (numC_size _)) ?_))
  refine (negative_false a h _).mono ?_
  rintro e w1 ⟨rfl, hC1⟩
  have hs1 : w.heap.size + 1 + 1 ≤ w1.heap.size := by have := hC1.size; (try simp only [alloc_size, setRow_size] at this); omega
  replace h1 : w1.heap[w.heap.size]? = some (.cells (numC a) 42 (0, 0)) := (heap_call hC1 (heap_old _ (heap_new_at _ _ _ rfl)))
  replace h2 : w1.heap[w.heap.size + 1]? = some (.cells (z4) 42 (0, 0)) := (heap_call hC1 (heap_new_at _ _ _ (by simp only [alloc_size, setRow_size])))
  have hBw1 : Hid (Below w.heap.size w w1) := Lib.hid (below_call (below_alloc (below_alloc (Below.refl _ w) _) _) hC1)
  clear hC1
  go_wp2_with (first
    | ((with_reducible refine at_dst 7 ?_); refine wpList_load_row rfl 42 _ rfl (w.heap.size) rfl 42 (numC a) (0, 0) _ h1 underNum rfl (infoNum_of (numC a) (numC_size _)) ?_)
    | ((with_reducible refine at_store 2 ?_); refine wpList_store_row rfl 42 _ _ rfl (w.heap.size + 1) (numC a) rfl rfl 42 (z4) h2 (infoNum_of (numC a) (numC_size _)) (z4_size.trans (numC_size _).symm) (numC_one _) ?_))
  refine bodyPost_ret (results_cell_row rfl _ _ (w.heap.size + 1) 42 (numC a) (0, 0) _ rfl (setRow_heap _ _ _ _ _ _ h2) underNum rfl (infoNum_of (numC a) (numC_size _))) rfl ⟨rfl, (below_setRow hBw1.out (by omega) _)⟩

theorem sabsolute_to (a R : Nat) (ha : a < pF) (hR : Hid (R = absN a)) (w : World) : Calls Tryd.prog 43 #[.agg (numC a)] w fun e w' => e = .returned (.agg (numC R)) ∧ Below w.heap.size w w' := by
  rw [hR.out]
  unfold absN
  by_cases h : a % 2 = 1
  · rw [if_pos h]; exact absolute_1 a _ (Lib.hid h) ha rfl w
  · rw [if_neg h]; exact absolute_0 a 0 (Lib.hid h) w

def eA : Nat := 7237005577332262213973186563042994240829374041602535252466099000494570602494
def eJ : Nat := 14474011154664524427946373126085988481658748083205070504932198000989141204987
def tw : Nat := 2
theorem pm_of {b e n r : Nat} (h : b ^ e % n = r) : r = pm b e n := h.symm
theorem eJ_lt : eJ < 2 ^ 256 := by unfold eJ; omega
theorem eJ_pw : Pm.pw pF 256 tw eJ 1 % pF = rtJ := by decide +kernel
theorem eJ_pow : rtJ = pm tw eJ pF := pm_of (Pm.pw_pow eJ_pw eJ_lt)

set_option maxHeartbeats 4000000 in
theorem root_A (q : Nat) (lq : q < pF) (h : Hid (rtA q * rtA q % pF = q)) (R : Nat) (hR : Hid (R = absN (rtA q))) (w : World) :
    Calls Tryd.prog 62 #[.agg (numC q)] w fun e w' => e = .returned (.tuple #[.agg (numC R), .bool true]) ∧ Below w.heap.size w w' := by
  obtain ⟨A, qA⟩ : ∃ u : Nat, u = rtA q := ⟨_, rfl⟩
  have lA : A < pF := by rw [qA]; exact rtA_lt q
  have HA : Hid (A = pm q eA pF) := Lib.hid (by rw [qA]; unfold rtA pm; rw [show eA = eQ + 1 from rfl])
  have Hq : Hid (q = A * A % pF) := Lib.hid (by rw [qA]; exact h.out.symm)
  have HR : Hid (R = absN A) := Lib.hid (by rw [qA]; exact hR.out)
  clear h qA
  go_enter Tryd.func62, Tryd.ntmps62
  go_wp2_with (first
    | ((with_reducible refine at_dst 6 ?_); refine wpList_buildTo rfl 42 _ rfl (some 6) rfl (numC (eA)) (by kernel_rfl) ?_)
    | ((with_reducible refine at_store 4 ?_); refine wpList_store_row rfl 42 _ _ rfl (w.heap.size + 1 + 1) (numC eA) rfl rfl 42 (z4) (heap_new_at _ _ _ (by simp only [alloc_size, setRow_size])) (infoNum_of (numC eA) (numC_size _)) (z4_size.trans (numC_size _).symm) (numC_one _) ?_))
  try simp only [Act.put]
  refine wp_named ?_
  intro w1 ew1
  have hs1 : w.heap.size + 1 + 1 + 1 ≤ w1.heap.size := by rw [ew1]; (try simp only [alloc_size, setRow_size]); omega
  replace h1 : w1.heap[w.heap.size]? = some (.cells (numC q) 42 (0, 0)) := by rw [ew1]; exact (heap_row _ (by omega) (heap_old _ (heap_old _ (heap_new_at _ _ _ rfl))))
  replace h2 : w1.heap[w.heap.size + 1]? = some (.cells (z4) 42 (0, 0)) := by rw [ew1]; exact (heap_row _ (by omega) (heap_old _ (heap_new_at _ _ _ (by simp only [alloc_size, setRow_size]))))
  replace h4 : w1.heap[w.heap.size + 1 + 1]? = some (.cells (numC eA) 42 (0, 0)) := by rw [ew1]; exact (setRow_heap _ _ _ _ _ _ (heap_new_at _ _ _ (by simp only [alloc_size, setRow_size])))
  have hBw1 : Hid (Below w.heap.size w w1) := Lib.hid (by rw [ew1]; exact (below_setRow (below_alloc (below_alloc (below_alloc (Below.refl _ w) _) _) _) (by omega) _))
  clear ew1
  go_cut [5] (fun s5 wx => ∃ g5 : Nat, s5 = .pointer (some ⟨g5, 0, none⟩) ∧ Hid (w1.heap.size ≤ g5) ∧ Hid (wx.heap[g5]? = some (.cells (numC A) 42 (0, 0))) ∧ Hid (wx.heap[w.heap.size]? = some (.cells (numC q) 42 (0, 0))) ∧ Hid (wx.heap[w.heap.size + 1]? = some (.cells (z4) 42 (0, 0))) ∧ Hid (wx.heap[w.heap.size + 1 + 1]? = some (.cells (numC eA) 42 (0, 0))) ∧ Hid (Below w.heap.size w wx) ∧ Hid (w1.heap.size ≤ wx.heap.size))
  case first =>
    refine wp_region_noPanic ?_
    refine wp_region_held_drew (S := Keep (w1.heap.size) w1) (by kernel_rfl) (Keep.start _ _) ?_
    intro hS
    obtain ⟨w2, ed⟩ : ∃ u : World, u = w1.drew := ⟨_, rfl⟩
    rw [← ed] at hS ⊢
    have xh1 : w2.heap[w.heap.size]? = some (.cells (numC q) 42 (0, 0)) := by rw [ed]; exact h1
    have xh2 : w2.heap[w.heap.size + 1]? = some (.cells (z4) 42 (0, 0)) := by rw [ed]; exact h2
    have xh4 : w2.heap[w.heap.size + 1 + 1]? = some (.cells (numC eA) 42 (0, 0)) := by rw [ed]; exact h4
    clear ed
    have hSz := hS.size
    clear xh1
    clear xh2
    clear xh4
    refine takeAt (i := 0) (v := .agg (numC q)) rfl (some 7) rfl (by kernel_rfl) (by kernel_rfl) (by kernel_rfl) (fun _ _ _ h => h) (take_row rfl _ _ rfl (w.heap.size) rfl _ _ _ h1 (Nat.ne_of_lt (heap_lt h1)) underNum rfl (infoNum_of (numC q) (numC_size _))) hS ?_
    simp only [Act.put, List.setIfInBounds_toArray, List.set_cons_zero, List.set_cons_succ]
    refine takeAt (i := 1) (v := .agg (numC eA)) rfl (some 8) rfl (by kernel_rfl) (by kernel_rfl) (by kernel_rfl) (fun _ _ _ h => h) (take_row rfl _ _ rfl (w.heap.size + 1 + 1) rfl _ _ _ h4 (Nat.ne_of_lt (heap_lt h4)) underNum rfl (infoNum_of (numC eA) (numC_size _))) hS ?_
    simp only [Act.put, List.setIfInBounds_toArray, List.set_cons_zero, List.set_cons_succ]
    refine wpAnyH_ready (rs := [2, 4]) (by kernel_rfl) (by simp) ?_
    refine (AllReadyH.cons rfl ?_ (AllReadyH.cons rfl ?_ AllReadyH.nil))
    · intro K hK
      refine ready_call rfl (some 9) rfl 36 #[] (by go_simp) ?_
      refine (prime_any _).mono ?_
      rintro e w3 ⟨rfl, hC⟩
      refine ⟨_, rfl, ?_⟩
      simp only [Act.put, List.setIfInBounds_toArray, List.set_cons_zero, List.set_cons_succ]
      have hS := hS.call hC
      have hz3 := hC.size
      clear hC
      refine hK.out _ _ hS ?_
      clear hK K
      intro _
      have hSz := hS.size
      refine wpAnyH_ready (rs := [3, 4]) (by kernel_rfl) (by simp) ?_
      refine (AllReadyH.cons rfl ?_ (AllReadyH.cons rfl ?_ AllReadyH.nil))
      · intro K hK
        refine ready_call rfl (some 10) rfl 44 #[.agg (numC q), .agg (numC eA), .agg (numC pF)] (by go_simp) ?_
        refine (power_to q eA pF A HA lq (by unfold eA; omega) (by unfold pF; omega) (by unfold pF; omega) _).mono ?_
        rintro e w4 ⟨rfl, hC⟩
        refine ⟨_, rfl, ?_⟩
        simp only [Act.put, List.setIfInBounds_toArray, List.set_cons_zero, List.set_cons_succ]
        have hS := hS.call hC
        have hz4 := hC.size
        clear hC
        refine hK.out _ _ hS ?_
        clear hK K
        intro _
        have hSz := hS.size
        refine wpAnyH_ready (rs := [4]) (by kernel_rfl) (by simp) ?_
        refine (AllReadyH.cons rfl ?_ AllReadyH.nil)
        intro K hK
        refine ready_run rfl (some 5) rfl (.pointer (some ⟨w4.heap.size, 0, none⟩)) (w4.alloc (.cells z4 42)) (by go_simp; try rfl) ?_
        simp only [Act.put, List.setIfInBounds_toArray, List.set_cons_zero, List.set_cons_succ]
        obtain ⟨w5, ea⟩ : ∃ u : World, u = w4.alloc (.cells z4 42) := ⟨_, rfl⟩
        rw [← ea]
        have hS := hS.alloc (.cells z4 42)
        rw [← ea] at hS
        have hz5 : w4.heap.size + 1 ≤ w5.heap.size := by rw [ea, alloc_size]; omega
        have hy5 : w1.heap.size ≤ w4.heap.size := hSz
        have xh5 : w5.heap[w4.heap.size]? = some (.cells (z4) 42 (0, 0)) := by rw [ea]; exact heap_new_at _ _ _ rfl
        clear ea
        refine hK.out _ _ hS ?_
        clear hK K
        intro _
        have hSz := hS.size
        refine wpAnyH_ready (rs := [5]) (by kernel_rfl) (by simp) ?_
        refine (AllReadyH.cons rfl ?_ AllReadyH.nil)
        intro K hK
        rw [if_pos (by rfl)]
        refine wp_store_row 42 _ _ rfl (w4.heap.size) (numC A) rfl rfl 42 (z4) xh5 (infoNum_of (numC A) (numC_size _)) (z4_size.trans (numC_size _).symm) (numC_one _) ?_
        refine put_at (none) rfl ?_
        simp only [Act.put, List.setIfInBounds_toArray, List.set_cons_zero, List.set_cons_succ]
        have xh5 : (w5.setRow (w4.heap.size) (numC A)).heap[w4.heap.size]? = some (.cells (numC A) 42 (0, 0)) := (setRow_heap _ _ _ _ _ _ xh5)
        have hS := hS.storeNew (numC A) (show w1.heap.size ≤ w4.heap.size by omega)
        generalize w5.setRow (w4.heap.size) (numC A) = w6 at *
        refine hK.out _ _ hS ?_
        clear hK K
        intro _
        have hSz := hS.size
        refine wpAnyH_done (by kernel_rfl) ?_ _
        refine NoPanic.normal ?_
        have hsz := hS.size
        have h1 : w6.heap[w.heap.size]? = some (.cells (numC q) 42 (0, 0)) := hS.old h1 (Nat.ne_of_lt (heap_lt h1))
        have h2 : w6.heap[w.heap.size + 1]? = some (.cells (z4) 42 (0, 0)) := hS.old h2 (Nat.ne_of_lt (heap_lt h2))
        have h4 : w6.heap[w.heap.size + 1 + 1]? = some (.cells (numC eA) 42 (0, 0)) := hS.old h4 (Nat.ne_of_lt (heap_lt h4))
        have h5 := xh5
        have hBw6 : Hid (Below w.heap.size w w6) := Lib.hid (hBw1.out.trans (hS.below (by omega) hBw1.out.size))
        clear hS
        go_wp2_with fail
        go_meet
        exact ⟨w4.heap.size, rfl, Lib.hid (show w1.heap.size ≤ w4.heap.size by omega), Lib.hid h5, Lib.hid h1, Lib.hid h2, Lib.hid h4, Lib.hid hBw6.out, Lib.hid (show w1.heap.size ≤ w6.heap.size by omega)⟩
      · intro K hK
        refine ready_run rfl (some 5) rfl (.pointer (some ⟨w3.heap.size, 0, none⟩)) (w3.alloc (.cells z4 42)) (by go_simp; try rfl) ?_
        simp only [Act.put, List.setIfInBounds_toArray, List.set_cons_zero, List.set_cons_succ]
        obtain ⟨w8, ea⟩ : ∃ u : World, u = w3.alloc (.cells z4 42) := ⟨_, rfl⟩
        rw [← ea]
        have hS := hS.alloc (.cells z4 42)
        rw [← ea] at hS
        have hz8 : w3.heap.size + 1 ≤ w8.heap.size := by rw [ea, alloc_size]; omega
        have hy8 : w1.heap.size ≤ w3.heap.size := hSz
        have xh5 : w8.heap[w3.heap.size]? = some (.cells (z4) 42 (0, 0)) := by rw [ea]; exact heap_new_at _ _ _ rfl
        clear ea
        refine hK.out _ _ hS ?_
        clear hK K
        intro _
        have hSz := hS.size
        refine wpAnyH_ready (rs := [3]) (by kernel_rfl) (by simp) ?_
        refine (AllReadyH.cons rfl ?_ AllReadyH.nil)
        intro K hK
        refine ready_call rfl (some 10) rfl 44 #[.agg (numC q), .agg (numC eA), .agg (numC pF)] (by go_simp) ?_
        refine (power_to q eA pF A HA lq (by unfold eA; omega) (by unfold pF; omega) (by unfold pF; omega) _).mono ?_
        rintro e w9 ⟨rfl, hC⟩
        refine ⟨_, rfl, ?_⟩
        simp only [Act.put, List.setIfInBounds_toArray, List.set_cons_zero, List.set_cons_succ]
        have xh5 : w9.heap[w3.heap.size]? = some (.cells (z4) 42 (0, 0)) := (heap_call hC xh5)
        have hS := hS.call hC
        have hz9 := hC.size
        clear hC
        refine hK.out _ _ hS ?_
        clear hK K
        intro _
        have hSz := hS.size
        refine wpAnyH_ready (rs := [5]) (by kernel_rfl) (by simp) ?_
        refine (AllReadyH.cons rfl ?_ AllReadyH.nil)
        intro K hK
        rw [if_pos (by rfl)]
        refine wp_store_row 42 _ _ rfl (w3.heap.size) (numC A) rfl rfl 42 (z4) xh5 (infoNum_of (numC A) (numC_size _)) (z4_size.trans (numC_size _).symm) (numC_one _) ?_
        refine put_at (none) rfl ?_
        simp only [Act.put, List.setIfInBounds_toArray, List.set_cons_zero, List.set_cons_succ]
        have xh5 : (w9.setRow (w3.heap.size) (numC A)).heap[w3.heap.size]? = some (.cells (numC A) 42 (0, 0)) := (setRow_heap _ _ _ _ _ _ xh5)
        have hS := hS.storeNew (numC A) (show w1.heap.size ≤ w3.heap.size by omega)
        generalize w9.setRow (w3.heap.size) (numC A) = w10 at *
        refine hK.out _ _ hS ?_
        clear hK K
        intro _
        have hSz := hS.size
        refine wpAnyH_done (by kernel_rfl) ?_ _
        refine NoPanic.normal ?_
        have hsz := hS.size
        have h1 : w10.heap[w.heap.size]? = some (.cells (numC q) 42 (0, 0)) := hS.old h1 (Nat.ne_of_lt (heap_lt h1))
        have h2 : w10.heap[w.heap.size + 1]? = some (.cells (z4) 42 (0, 0)) := hS.old h2 (Nat.ne_of_lt (heap_lt h2))
        have h4 : w10.heap[w.heap.size + 1 + 1]? = some (.cells (numC eA) 42 (0, 0)) := hS.old h4 (Nat.ne_of_lt (heap_lt h4))
        have h5 := xh5
        have hBw10 : Hid (Below w.heap.size w w10) := Lib.hid (hBw1.out.trans (hS.below (by omega) hBw1.out.size))
        clear hS
        go_wp2_with fail
        go_meet
        exact ⟨w3.heap.size, rfl, Lib.hid (show w1.heap.size ≤ w3.heap.size by omega), Lib.hid h5, Lib.hid h1, Lib.hid h2, Lib.hid h4, Lib.hid hBw10.out, Lib.hid (show w1.heap.size ≤ w10.heap.size by omega)⟩
    · intro K hK
      refine ready_run rfl (some 5) rfl (.pointer (some ⟨w2.heap.size, 0, none⟩)) (w2.alloc (.cells z4 42)) (by go_simp; try rfl) ?_
      simp only [Act.put, List.setIfInBounds_toArray, List.set_cons_zero, List.set_cons_succ]
      obtain ⟨w12, ea⟩ : ∃ u : World, u = w2.alloc (.cells z4 42) := ⟨_, rfl⟩
      rw [← ea]
      have hS := hS.alloc (.cells z4 42)
      rw [← ea] at hS
      have hz12 : w2.heap.size + 1 ≤ w12.heap.size := by rw [ea, alloc_size]; omega
      have hy12 : w1.heap.size ≤ w2.heap.size := hSz
      have xh5 : w12.heap[w2.heap.size]? = some (.cells (z4) 42 (0, 0)) := by rw [ea]; exact heap_new_at _ _ _ rfl
      clear ea
      refine hK.out _ _ hS ?_
      clear hK K
      intro _
      have hSz := hS.size
      refine wpAnyH_ready (rs := [2]) (by kernel_rfl) (by simp) ?_
      refine (AllReadyH.cons rfl ?_ AllReadyH.nil)
      intro K hK
      refine ready_call rfl (some 9) rfl 36 #[] (by go_simp) ?_
      refine (prime_any _).mono ?_
      rintro e w13 ⟨rfl, hC⟩
      refine ⟨_, rfl, ?_⟩
      simp only [Act.put, List.setIfInBounds_toArray, List.set_cons_zero, List.set_cons_succ]
      have xh5 : w13.heap[w2.heap.size]? = some (.cells (z4) 42 (0, 0)) := (heap_call hC xh5)
      have hS := hS.call hC
      have hz13 := hC.size
      clear hC
      refine hK.out _ _ hS ?_
      clear hK K
      intro _
      have hSz := hS.size
      refine wpAnyH_ready (rs := [3]) (by kernel_rfl) (by simp) ?_
      refine (AllReadyH.cons rfl ?_ AllReadyH.nil)
      intro K hK
      refine ready_call rfl (some 10) rfl 44 #[.agg (numC q), .agg (numC eA), .agg (numC pF)] (by go_simp) ?_
      refine (power_to q eA pF A HA lq (by unfold eA; omega) (by unfold pF; omega) (by unfold pF; omega) _).mono ?_
      rintro e w14 ⟨rfl, hC⟩
      refine ⟨_, rfl, ?_⟩
      simp only [Act.put, List.setIfInBounds_toArray, List.set_cons_zero, List.set_cons_succ]
      have xh5 : w14.heap[w2.heap.size]? = some (.cells (z4) 42 (0, 0)) := (heap_call hC xh5)
      have hS := hS.call hC
      have hz14 := hC.size
      clear hC
      refine hK.out _ _ hS ?_
      clear hK K
      intro _
      have hSz := hS.size
      refine wpAnyH_ready (rs := [5]) (by kernel_rfl) (by simp) ?_
      refine (AllReadyH.cons rfl ?_ AllReadyH.nil)
      intro K hK
      rw [if_pos (by rfl)]
      refine wp_store_row 42 _ _ rfl (w2.heap.size) (numC A) rfl rfl 42 (z4) xh5 (infoNum_of (numC A) (numC_size _)) (z4_size.trans (numC_size _).symm) (numC_one _) ?_
      refine put_at (none) rfl ?_
      simp only [Act.put, List.setIfInBounds_toArray, List.set_cons_zero, List.set_cons_succ]
      have xh5 : (w14.setRow (w2.heap.size) (numC A)).heap[w2.heap.size]? = some (.cells (numC A) 42 (0, 0)) := (setRow_heap _ _ _ _ _ _ xh5)
      have hS := hS.storeNew (numC A) (show w1.heap.size ≤ w2.heap.size by omega)
      generalize w14.setRow (w2.heap.size) (numC A) = w15 at *
      refine hK.out _ _ hS ?_
      clear hK K
      intro _
      have hSz := hS.size
      refine wpAnyH_done (by kernel_rfl) ?_ _
      refine NoPanic.normal ?_
      have hsz := hS.size
      have h1 : w15.heap[w.heap.size]? = some (.cells (numC q) 42 (0, 0)) := hS.old h1 (Nat.ne_of_lt (heap_lt h1))
      have h2 : w15.heap[w.heap.size + 1]? = some (.cells (z4) 42 (0, 0)) := hS.old h2 (Nat.ne_of_lt (heap_lt h2))
      have h4 : w15.heap[w.heap.size + 1 + 1]? = some (.cells (numC eA) 42 (0, 0)) := hS.old h4 (Nat.ne_of_lt (heap_lt h4))
      have h5 := xh5
      have hBw15 : Hid (Below w.heap.size w w15) := Lib.hid (hBw1.out.trans (hS.below (by omega) hBw1.out.size))
      clear hS
      go_wp2_with fail
      go_meet
      exact ⟨w2.heap.size, rfl, Lib.hid (show w1.heap.size ≤ w2.heap.size by omega), Lib.hid h5, Lib.hid h1, Lib.hid h2, Lib.hid h4, Lib.hid hBw15.out, Lib.hid (show w1.heap.size ≤ w15.heap.size by omega)⟩
  case rest =>
    obtain ⟨g5, rfl, Hg5, Hh5, Hh1, Hh2, Hh4, hBw17, Hsz17⟩ := hcut
    obtain ⟨w17, rfl⟩ : ∃ u : World, u = wc := ⟨_, rfl⟩
    have hgl5 := Hg5.out
    have h5 := Hh5.out
    have hgu5 := heap_lt h5
    have h1 := Hh1.out
    have h2 := Hh2.out
    have h4 := Hh4.out
    have hsz17 := Hsz17.out
    go_wp2_with fail
    try simp only [Act.put]
    refine wp_named ?_
    intro w18 ew18
    have hs18 : w17.heap.size ≤ w18.heap.size := by rw [ew18]; (try simp only [alloc_size, setRow_size]); omega
    replace h1 : w18.heap[w.heap.size]? = some (.cells (numC q) 42 (0, 0)) := by rw [ew18]; exact h1
    replace h2 : w18.heap[w.heap.size + 1]? = some (.cells (z4) 42 (0, 0)) := by rw [ew18]; exact h2
    replace h4 : w18.heap[w.heap.size + 1 + 1]? = some (.cells (numC eA) 42 (0, 0)) := by rw [ew18]; exact h4
    replace h5 : w18.heap[g5]? = some (.cells (numC A) 42 (0, 0)) := by rw [ew18]; exact h5
    have hBw18 : Hid (Below w.heap.size w w18) := Lib.hid (by rw [ew18]; exact hBw17.out)
    clear ew18
    go_cut [16] (fun s16 wx => s16 = .bool true ∧ Hid (wx.heap[w.heap.size]? = some (.cells (numC q) 42 (0, 0))) ∧ Hid (wx.heap[w.heap.size + 1]? = some (.cells (z4) 42 (0, 0))) ∧ Hid (wx.heap[w.heap.size + 1 + 1]? = some (.cells (numC eA) 42 (0, 0))) ∧ Hid (wx.heap[g5]? = some (.cells (numC A) 42 (0, 0))) ∧ Hid (Below w.heap.size w wx) ∧ Hid (w18.heap.size ≤ wx.heap.size))
    case first =>
      refine wp_region_noPanic ?_
      refine wp_region_held_drew (S := Keep (w18.heap.size) w18) (by kernel_rfl) (Keep.start _ _) ?_
      intro hS
      obtain ⟨w19, ed⟩ : ∃ u : World, u = w18.drew := ⟨_, rfl⟩
      rw [← ed] at hS ⊢
      have xh1 : w19.heap[w.heap.size]? = some (.cells (numC q) 42 (0, 0)) := by rw [ed]; exact h1
      have xh2 : w19.heap[w.heap.size + 1]? = some (.cells (z4) 42 (0, 0)) := by rw [ed]; exact h2
      have xh4 : w19.heap[w.heap.size + 1 + 1]? = some (.cells (numC eA) 42 (0, 0)) := by rw [ed]; exact h4
      have xh5 : w19.heap[g5]? = some (.cells (numC A) 42 (0, 0)) := by rw [ed]; exact h5
      clear ed
      have hSz := hS.size
      clear xh1
      clear xh2
      clear xh4
      clear xh5
      refine takeAt (i := 0) (v := .agg (numC A)) rfl (some 11) rfl (by kernel_rfl) (by kernel_rfl) (by kernel_rfl) (fun _ _ _ h => h) (take_row rfl _ _ rfl (g5) rfl _ _ _ h5 (Nat.ne_of_lt (heap_lt h5)) underNum rfl (infoNum_of (numC A) (numC_size _))) hS ?_
      simp only [Act.put, List.setIfInBounds_toArray, List.set_cons_zero, List.set_cons_succ]
      refine takeAt (i := 1) (v := .agg (numC A)) rfl (some 12) rfl (by kernel_rfl) (by kernel_rfl) (by kernel_rfl) (fun _ _ _ h => h) (take_row rfl _ _ rfl (g5) rfl _ _ _ h5 (Nat.ne_of_lt (heap_lt h5)) underNum rfl (infoNum_of (numC A) (numC_size _))) hS ?_
      simp only [Act.put, List.setIfInBounds_toArray, List.set_cons_zero, List.set_cons_succ]
      refine takeAt (i := 4) (v := .agg (numC q)) rfl (some 15) rfl (by kernel_rfl) (by kernel_rfl) (by kernel_rfl) (fun _ _ _ h => h) (take_row rfl _ _ rfl (w.heap.size) rfl _ _ _ h1 (Nat.ne_of_lt (heap_lt h1)) underNum rfl (infoNum_of (numC q) (numC_size _))) hS ?_
      simp only [Act.put, List.setIfInBounds_toArray, List.set_cons_zero, List.set_cons_succ]
      refine wpAnyH_ready (rs := [2]) (by kernel_rfl) (by simp) ?_
      refine (AllReadyH.cons rfl ?_ AllReadyH.nil)
      intro K hK
      refine ready_call rfl (some 13) rfl 36 #[] (by go_simp) ?_
      refine (prime_any _).mono ?_
      rintro e w20 ⟨rfl, hC⟩
      refine ⟨_, rfl, ?_⟩
      simp only [Act.put, List.setIfInBounds_toArray, List.set_cons_zero, List.set_cons_succ]
      have hS := hS.call hC
      have hz20 := hC.size
      clear hC
      refine hK.out _ _ hS ?_
      clear hK K
      intro _
      have hSz := hS.size
      refine wpAnyH_ready (rs := [3]) (by kernel_rfl) (by simp) ?_
      refine (AllReadyH.cons rfl ?_ AllReadyH.nil)
      intro K hK
      refine ready_call rfl (some 14) rfl 39 #[.agg (numC A), .agg (numC A), .agg (numC pF)] (by go_simp) ?_
      refine (times_to A A pF q Hq lA (Nat.lt_trans lA (by unfold pF; omega)) (by unfold pF; omega) _).mono ?_
      rintro e w21 ⟨rfl, hC⟩
      refine ⟨_, rfl, ?_⟩
      simp only [Act.put, List.setIfInBounds_toArray, List.set_cons_zero, List.set_cons_succ]
      have hS := hS.call hC
      have hz21 := hC.size
      clear hC
      refine hK.out _ _ hS ?_
      clear hK K
      intro _
      have hSz := hS.size
      refine takeAt (i := 5) (v := .bool true) rfl (some 16) rfl (by kernel_rfl) (by kernel_rfl) (by kernel_rfl) (fun _ _ _ h => h) (take_run rfl (fun _ _ => by go_simp; rw [run_eq_num _ _ (Nat.lt_trans lq (by unfold pF; omega)) (Nat.lt_trans lq (by unfold pF; omega))]; simp)) hS ?_
      simp only [Act.put, List.setIfInBounds_toArray, List.set_cons_zero, List.set_cons_succ]
      refine wpAnyH_done (by kernel_rfl) ?_ _
      refine NoPanic.normal ?_
      have hsz := hS.size
      have h1 : w21.heap[w.heap.size]? = some (.cells (numC q) 42 (0, 0)) := hS.old h1 (Nat.ne_of_lt (heap_lt h1))
      have h2 : w21.heap[w.heap.size + 1]? = some (.cells (z4) 42 (0, 0)) := hS.old h2 (Nat.ne_of_lt (heap_lt h2))
      have h4 : w21.heap[w.heap.size + 1 + 1]? = some (.cells (numC eA) 42 (0, 0)) := hS.old h4 (Nat.ne_of_lt (heap_lt h4))
      have h5 : w21.heap[g5]? = some (.cells (numC A) 42 (0, 0)) := hS.old h5 (Nat.ne_of_lt (heap_lt h5))
      have hBw21 : Hid (Below w.heap.size w w21) := Lib.hid (hBw18.out.trans (hS.below (by omega) hBw18.out.size))
      clear hS
      go_wp2_with fail
      go_meet
      exact ⟨rfl, Lib.hid h1, Lib.hid h2, Lib.hid h4, Lib.hid h5, Lib.hid hBw21.out, Lib.hid (show w18.heap.size ≤ w21.heap.size by omega)⟩
    case rest =>
      obtain ⟨rfl, Hh1, Hh2, Hh4, Hh5, hBw23, Hsz23⟩ := hcut
      obtain ⟨w23, rfl⟩ : ∃ u : World, u = wc := ⟨_, rfl⟩
      have h1 := Hh1.out
      have h2 := Hh2.out
      have h4 := Hh4.out
      have h5 := Hh5.out
      have hsz23 := Hsz23.out
      go_wp2_with (first
        | ((with_reducible refine at_dst 17 ?_); refine wpList_load_row rfl 42 _ rfl (g5) rfl 42 (numC A) (0, 0) _ h5 underNum rfl (infoNum_of (numC A) (numC_size _)) ?_))
      refine (sabsolute_to A R lA HR _).mono ?_
      rintro e w24 ⟨rfl, hC24⟩
      have hs24 : w23.heap.size ≤ w24.heap.size := by have := hC24.size; (try simp only [alloc_size, setRow_size] at this); omega
      replace h1 : w24.heap[w.heap.size]? = some (.cells (numC q) 42 (0, 0)) := (heap_call hC24 h1)
      replace h2 : w24.heap[w.heap.size + 1]? = some (.cells (z4) 42 (0, 0)) := (heap_call hC24 h2)
      replace h4 : w24.heap[w.heap.size + 1 + 1]? = some (.cells (numC eA) 42 (0, 0)) := (heap_call hC24 h4)
      replace h5 : w24.heap[g5]? = some (.cells (numC A) 42 (0, 0)) := (heap_call hC24 h5)
      have hBw24 : Hid (Below w.heap.size w w24) := Lib.hid (below_call hBw23.out hC24)
      clear hC24
      go_wp2_with (first
        | ((with_reducible refine at_store 2 ?_); refine wpList_store_row rfl 42 _ _ rfl (w.heap.size + 1) (numC R) rfl rfl 42 (z4) h2 (infoNum_of (numC R) (numC_size _)) (z4_size.trans (numC_size _).symm) (numC_one _) ?_))
      refine bodyPost_ret (results_row_tmp rfl _ _ (w.heap.size + 1) 42 (numC R) (0, 0) _ rfl (setRow_heap _ _ _ _ _ _ h2) underNum rfl (infoNum_of (numC R) (numC_size _))) rfl ⟨rfl, (below_setRow hBw24.out (by omega) _)⟩
end Go.Proofs.YtemgflkecflhmaaDoor
