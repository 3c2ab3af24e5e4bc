/- FnFieldSquareOrNot: the walk. -/
import Derived.Test.YtmabidcocdflkaaDoorFSR
import Derived.Test.YtmabidcocdflkaaDoorSqL
import Derived.Test.YtmabidcocdflkaaDoorLK2
set_option linter.unusedSimpArgs false
set_option linter.unusedVariables false
namespace Go.Proofs.YtmabidcocdflkaaDoor
open Go.RowKit

theorem dbl_ne (x : Nat) (h : x < pF) (h0 : ¬ x = 0) : ¬ (x + x) % pF = 0 := by
  intro h1
  have hp : pF % 2 = 1 := by unfold pF; omega
  obtain ⟨k, hk⟩ := Nat.dvd_of_mod_eq_zero h1
  have h2 : k < 2 := by
    apply Nat.lt_of_mul_lt_mul_left (a := pF)
    omega
  rcases (show k = 0 ∨ k = 1 by omega) with rfl | rfl <;> omega

set_option maxHeartbeats 4000000 in
theorem SqOr_u0 (X Y : Nat) (h : Hid (valN X = 0)) (B : Nat) (w : World) (hD0 : Var 1 z5 B w) (hD1 : Var 0 i5 B w) :
    Calls Tryd.prog 3 #[.agg (arrC X), .agg (arrC Y)] w fun e w' => e = .returned (.bool true) ∧ Below w.heap.size w w' := by
  obtain ⟨A, qA⟩ : ∃ u : Nat, u = (valN X + valN X) % pF := ⟨_, rfl⟩
  have HA := Lib.hid qA; clear qA
  obtain ⟨R1, qR1⟩ : ∃ u : Nat, u = sqR (valN X) (valN Y) := ⟨_, rfl⟩
  have HR1 := Lib.hid qR1; clear qR1
  obtain ⟨R2, qR2⟩ : ∃ u : Nat, u = sqR (valN A) (valN Y) := ⟨_, rfl⟩
  have HR2 := Lib.hid qR2; clear qR2
  obtain ⟨R3, qR3⟩ : ∃ u : Nat, u = sqR (valN 1) (valN 1) := ⟨_, rfl⟩
  have HR3 := Lib.hid qR3; clear qR3
  obtain ⟨TX, qTX⟩ : ∃ u : Nat, u = valN X := ⟨_, rfl⟩
  have HTX := Lib.hid qTX; clear qTX
  obtain ⟨TY, qTY⟩ : ∃ u : Nat, u = valN Y := ⟨_, rfl⟩
  have HTY := Lib.hid qTY; clear qTY
  have vX := valN_lt X; have vY := valN_lt Y
  have vA : valN A = A := valN_of_lt _ (by rw [HA.out]; exact mod_lt_p _)
  have v1 : valN 1 = 1 := valN_of_lt _ (by unfold pF; omega)
  have HZ3 : Hid ((1 : Int) = if sqW (valN 1) (valN 1) then 1 else 0) := Lib.hid (by rw [v1, one_way]; rfl)
  have e1 : sqW (valN X) (valN Y) = true := by rw [h.out]; exact sqW_u0 _
  have e2 : sqW (valN A) (valN Y) = true := by rw [vA, HA.out, h.out]; exact sqW_u0 _
  have HZ1 : Hid ((1 : Int) = if sqW (valN X) (valN Y) then 1 else 0) := Lib.hid (by rw [e1]; rfl)
  have HZ2 : Hid ((1 : Int) = if sqW (valN A) (valN Y) then 1 else 0) := Lib.hid (by rw [e2]; rfl)
  have hzx : Hid (TX = 0) := Lib.hid (by rw [HTX.out]; exact h.out)
  clear h vX vY vA v1 e1 e2
  have hBl := hD0.1
  go_enter Tryd.func3, Tryd.ntmps3
  go_wp2_with (first
    | ((with_reducible refine at_dst 12 ?_); refine wpList_load_row rfl 22 _ rfl (w.heap.size) rfl 22 (arrC X) (0, 0) _ (heap_old _ (heap_new_at _ _ _ rfl)) under32 rfl (info32_of (arrC X) (arrC_size _)) ?_)
    | ((with_reducible refine at_dst 13 ?_); refine wpList_load_row rfl 22 _ rfl (w.heap.size + 1) rfl 22 (arrC Y) (0, 0) _ (heap_new_at _ _ _ (by simp only [alloc_size, setRow_size])) under32 rfl (info32_of (arrC Y) (arrC_size _)) ?_))
  refine (FieldSqrt_to X Y R1 1 HR1 HZ1 B _ (hD0.later (below_alloc (below_alloc (Below.refl _ w) _) _)) (hD1.later (below_alloc (below_alloc (Below.refl _ w) _) _))).mono ?_
  rintro e w1 ⟨rfl, hC1⟩
  have hs1 : w.heap.size + 1 + 1 ≤ w1.heap.size := by have := hC1.size; (try simp only [alloc_size, setRow_size] at this); omega
  replace h2 : w1.heap[w.heap.size]? = some (.cells (arrC X) 22 (0, 0)) := (heap_call hC1 (heap_old _ (heap_new_at _ _ _ rfl)))
  replace h3 : w1.heap[w.heap.size + 1]? = some (.cells (arrC Y) 22 (0, 0)) := (heap_call hC1 (heap_new_at _ _ _ (by simp only [alloc_size, setRow_size])))
  have hBw1 : Hid (Below w.heap.size w w1) := Lib.hid (below_call (below_alloc (below_alloc (Below.refl _ w) _) _) hC1)
  clear hC1
  go_wp2_with (first
    | ((with_reducible refine at_store 5 ?_); refine wpList_store_row rfl 22 _ _ rfl (w1.heap.size) (arrC R1) rfl rfl 22 (zL) (heap_new_at _ _ _ rfl) (info32_of (arrC R1) (arrC_size _)) (zL_size.trans (arrC_size _).symm) (arrC_one _) ?_))
  refine wp_named ?_
  intro w2 ew2
  have hs2 : w1.heap.size + 1 ≤ w2.heap.size := by rw [ew2]; (try simp only [alloc_size, setRow_size]); omega
  replace h2 : w2.heap[w.heap.size]? = some (.cells (arrC X) 22 (0, 0)) := by rw [ew2]; exact (heap_row _ (by omega) (heap_old _ h2))
  replace h3 : w2.heap[w.heap.size + 1]? = some (.cells (arrC Y) 22 (0, 0)) := by rw [ew2]; exact (heap_row _ (by omega) (heap_old _ h3))
  replace h5 : w2.heap[w1.heap.size]? = some (.cells (arrC R1) 22 (0, 0)) := by rw [ew2]; exact (setRow_heap _ _ _ _ _ _ (heap_new_at _ _ _ rfl))
  have hBw2 : Hid (Below w.heap.size w w2) := Lib.hid (by rw [ew2]; exact (below_setRow (below_alloc hBw1.out _) (by omega) _))
  clear ew2
  go_cut [8] (fun s8 wx => s8 = .int .i64 1 ∧ Hid (wx.heap[w.heap.size]? = some (.cells (arrC X) 22 (0, 0))) ∧ Hid (wx.heap[w.heap.size + 1]? = some (.cells (arrC Y) 22 (0, 0))) ∧ Hid (wx.heap[w1.heap.size]? = some (.cells (arrC R1) 22 (0, 0))) ∧ Hid (Below w.heap.size w wx) ∧ Hid (w2.heap.size ≤ wx.heap.size))
  case first =>
    refine wp_region_noPanic ?_
    refine wp_region_held_drew (S := Keep (w2.heap.size) w2) (by kernel_rfl) (Keep.start _ _) ?_
    intro hS
    obtain ⟨w3, ed⟩ : ∃ u : World, u = w2.drew := ⟨_, rfl⟩
    rw [← ed] at hS ⊢
    have xh2 : w3.heap[w.heap.size]? = some (.cells (arrC X) 22 (0, 0)) := by rw [ed]; exact h2
    have xh3 : w3.heap[w.heap.size + 1]? = some (.cells (arrC Y) 22 (0, 0)) := by rw [ed]; exact h3
    have xh5 : w3.heap[w1.heap.size]? = some (.cells (arrC R1) 22 (0, 0)) := by rw [ed]; exact h5
    clear ed
    have hSz := hS.size
    clear xh2
    clear xh3
    clear xh5
    refine takeAt (i := 0) (v := .agg (arrC X)) rfl (some 18) rfl (by kernel_rfl) (by kernel_rfl) (by kernel_rfl) (fun _ _ _ h => h) (take_row rfl _ _ rfl (w.heap.size) rfl _ _ _ h2 (Nat.ne_of_lt (heap_lt h2)) under32 rfl (info32_of (arrC X) (arrC_size _))) hS ?_
    simp only [Act.put, List.setIfInBounds_toArray, List.set_cons_zero, List.set_cons_succ]
    refine takeAt (i := 1) (v := .agg (arrC X)) rfl (some 19) rfl (by kernel_rfl) (by kernel_rfl) (by kernel_rfl) (fun _ _ _ h => h) (take_row rfl _ _ rfl (w.heap.size) rfl _ _ _ h2 (Nat.ne_of_lt (heap_lt h2)) under32 rfl (info32_of (arrC X) (arrC_size _))) hS ?_
    simp only [Act.put, List.setIfInBounds_toArray, List.set_cons_zero, List.set_cons_succ]
    refine takeAt (i := 3) (v := .agg (arrC Y)) rfl (some 21) rfl (by kernel_rfl) (by kernel_rfl) (by kernel_rfl) (fun _ _ _ h => h) (take_row rfl _ _ rfl (w.heap.size + 1) rfl _ _ _ h3 (Nat.ne_of_lt (heap_lt h3)) under32 rfl (info32_of (arrC Y) (arrC_size _))) hS ?_
    simp only [Act.put, List.setIfInBounds_toArray, List.set_cons_zero, List.set_cons_succ]
    refine wpAnyH_ready (rs := [2, 8]) (by kernel_rfl) (by simp) ?_
    refine (AllReadyH.cons rfl ?_ (AllReadyH.cons rfl ?_ AllReadyH.nil))
    · intro K hK
      refine ready_call rfl (some 20) rfl 6 #[.agg (arrC X), .agg (arrC X)] (by go_simp) ?_
      refine (FieldAdd_to X X A HA _).mono ?_
      rintro e w4 ⟨rfl, hC⟩
      refine ⟨_, rfl, ?_⟩
      simp only [Act.put, List.setIfInBounds_toArray, List.set_cons_zero, List.set_cons_succ]
      have hS := hS.call hC
      have hz4 := hC.size
      clear hC
      refine hK.out _ _ hS ?_
      clear hK K
      intro _
      have hSz := hS.size
      refine wpAnyH_ready (rs := [4, 8]) (by kernel_rfl) (by simp) ?_
      refine (AllReadyH.cons rfl ?_ (AllReadyH.cons rfl ?_ AllReadyH.nil))
      · intro K hK
        refine ready_call rfl (some 22) rfl 5 #[.agg (arrC A), .agg (arrC Y)] (by go_simp) ?_
        refine (FieldSqrt_to A Y R2 1 HR2 HZ2 B _ (hD0.later (hBw2.out.trans (hS.below (by omega) hBw2.out.size))) (hD1.later (hBw2.out.trans (hS.below (by omega) hBw2.out.size)))).mono ?_
        rintro e w5 ⟨rfl, hC⟩
        refine ⟨_, rfl, ?_⟩
        simp only [Act.put, List.setIfInBounds_toArray, List.set_cons_zero, List.set_cons_succ]
        have hS := hS.call hC
        have hz5 := hC.size
        clear hC
        refine hK.out _ _ hS ?_
        clear hK K
        intro _
        have hSz := hS.size
        refine takeAt (i := 5) (v := .tuple #[.agg (arrC R2), .int .i64 1]) rfl (some 17) rfl (by kernel_rfl) (by kernel_rfl) (by kernel_rfl) (fun _ _ _ h => h) (take_run rfl (fun _ _ => by go_simp)) hS ?_
        simp only [Act.put, List.setIfInBounds_toArray, List.set_cons_zero, List.set_cons_succ]
        refine takeAt (i := 6) (v := .agg (arrC R2)) rfl (some 23) rfl (by kernel_rfl) (by kernel_rfl) (by kernel_rfl) (fun _ _ _ h => h) (take_run rfl (fun _ _ => by go_simp)) hS ?_
        simp only [Act.put, List.setIfInBounds_toArray, List.set_cons_zero, List.set_cons_succ]
        refine takeAt (i := 7) (v := .int .i64 1) rfl (some 24) rfl (by kernel_rfl) (by kernel_rfl) (by kernel_rfl) (fun _ _ _ h => h) (take_run rfl (fun _ _ => by go_simp)) hS ?_
        simp only [Act.put, List.setIfInBounds_toArray, List.set_cons_zero, List.set_cons_succ]
        refine wpAnyH_ready (rs := [8]) (by kernel_rfl) (by simp) ?_
        refine (AllReadyH.cons rfl ?_ AllReadyH.nil)
        intro K hK
        refine ready_run rfl (some 7) rfl (.pointer (some ⟨w5.heap.size, 0, none⟩)) (w5.alloc (.cells zL 22)) (by go_simp; try rfl) ?_
        simp only [Act.put, List.setIfInBounds_toArray, List.set_cons_zero, List.set_cons_succ]
        obtain ⟨w6, ea⟩ : ∃ u : World, u = w5.alloc (.cells zL 22) := ⟨_, rfl⟩
        rw [← ea]
        have hS := hS.alloc (.cells zL 22)
        rw [← ea] at hS
        have hz6 : w5.heap.size + 1 ≤ w6.heap.size := by rw [ea, alloc_size]; omega
        have hy6 : w2.heap.size ≤ w5.heap.size := hSz
        have xh7 : w6.heap[w5.heap.size]? = some (.cells (zL) 22 (0, 0)) := by rw [ea]; exact heap_new_at _ _ _ rfl
        clear ea
        refine hK.out _ _ hS ?_
        clear hK K
        intro _
        have hSz := hS.size
        refine wpAnyH_ready (rs := [9]) (by kernel_rfl) (by simp) ?_
        refine (AllReadyH.cons rfl ?_ AllReadyH.nil)
        intro K hK
        rw [if_pos (by rfl)]
        refine wp_store_row 22 _ _ rfl (w5.heap.size) (arrC R2) rfl rfl 22 (zL) xh7 (info32_of (arrC R2) (arrC_size _)) (zL_size.trans (arrC_size _).symm) (arrC_one _) ?_
        refine put_at (none) rfl ?_
        simp only [Act.put, List.setIfInBounds_toArray, List.set_cons_zero, List.set_cons_succ]
        have xh7 : (w6.setRow (w5.heap.size) (arrC R2)).heap[w5.heap.size]? = some (.cells (arrC R2) 22 (0, 0)) := (setRow_heap _ _ _ _ _ _ xh7)
        have hS := hS.storeNew (arrC R2) (show w2.heap.size ≤ w5.heap.size by omega)
        generalize w6.setRow (w5.heap.size) (arrC R2) = w7 at *
        refine hK.out _ _ hS ?_
        clear hK K
        intro _
        have hSz := hS.size
        refine takeAt (i := 10) (v := .int .i64 1) rfl (some 8) rfl (by kernel_rfl) (by kernel_rfl) (by kernel_rfl) (fun _ _ _ h => h) (take_run rfl (fun _ _ => by go_simp)) hS ?_
        simp only [Act.put, List.setIfInBounds_toArray, List.set_cons_zero, List.set_cons_succ]
        refine wpAnyH_done (by kernel_rfl) ?_ _
        refine NoPanic.normal ?_
        have hsz := hS.size
        have h2 : w7.heap[w.heap.size]? = some (.cells (arrC X) 22 (0, 0)) := hS.old h2 (Nat.ne_of_lt (heap_lt h2))
        have h3 : w7.heap[w.heap.size + 1]? = some (.cells (arrC Y) 22 (0, 0)) := hS.old h3 (Nat.ne_of_lt (heap_lt h3))
        have h5 : w7.heap[w1.heap.size]? = some (.cells (arrC R1) 22 (0, 0)) := hS.old h5 (Nat.ne_of_lt (heap_lt h5))
        have h7 := xh7
        have hBw7 : Hid (Below w.heap.size w w7) := Lib.hid (hBw2.out.trans (hS.below (by omega) hBw2.out.size))
        clear hS
        go_wp2_with fail
        go_meet
        exact ⟨rfl, Lib.hid h2, Lib.hid h3, Lib.hid h5, Lib.hid hBw7.out, Lib.hid (show w2.heap.size ≤ w7.heap.size by omega)⟩
      · intro K hK
        refine ready_run rfl (some 7) rfl (.pointer (some ⟨w4.heap.size, 0, none⟩)) (w4.alloc (.cells zL 22)) (by go_simp; try rfl) ?_
        simp only [Act.put, List.setIfInBounds_toArray, List.set_cons_zero, List.set_cons_succ]
        obtain ⟨w9, ea⟩ : ∃ u : World, u = w4.alloc (.cells zL 22) := ⟨_, rfl⟩
        rw [← ea]
        have hS := hS.alloc (.cells zL 22)
        rw [← ea] at hS
        have hz9 : w4.heap.size + 1 ≤ w9.heap.size := by rw [ea, alloc_size]; omega
        have hy9 : w2.heap.size ≤ w4.heap.size := hSz
        have xh7 : w9.heap[w4.heap.size]? = some (.cells (zL) 22 (0, 0)) := by rw [ea]; exact heap_new_at _ _ _ rfl
        clear ea
        refine hK.out _ _ hS ?_
        clear hK K
        intro _
        have hSz := hS.size
        refine wpAnyH_ready (rs := [4]) (by kernel_rfl) (by simp) ?_
        refine (AllReadyH.cons rfl ?_ AllReadyH.nil)
        intro K hK
        refine ready_call rfl (some 22) rfl 5 #[.agg (arrC A), .agg (arrC Y)] (by go_simp) ?_
        refine (FieldSqrt_to A Y R2 1 HR2 HZ2 B _ (hD0.later (hBw2.out.trans (hS.below (by omega) hBw2.out.size))) (hD1.later (hBw2.out.trans (hS.below (by omega) hBw2.out.size)))).mono ?_
        rintro e w10 ⟨rfl, hC⟩
        refine ⟨_, rfl, ?_⟩
        simp only [Act.put, List.setIfInBounds_toArray, List.set_cons_zero, List.set_cons_succ]
        have xh7 : w10.heap[w4.heap.size]? = some (.cells (zL) 22 (0, 0)) := (heap_call hC xh7)
        have hS := hS.call hC
        have hz10 := hC.size
        clear hC
        refine hK.out _ _ hS ?_
        clear hK K
        intro _
        have hSz := hS.size
        refine takeAt (i := 5) (v := .tuple #[.agg (arrC R2), .int .i64 1]) rfl (some 17) rfl (by kernel_rfl) (by kernel_rfl) (by kernel_rfl) (fun _ _ _ h => h) (take_run rfl (fun _ _ => by go_simp)) hS ?_
        simp only [Act.put, List.setIfInBounds_toArray, List.set_cons_zero, List.set_cons_succ]
        refine takeAt (i := 6) (v := .agg (arrC R2)) rfl (some 23) rfl (by kernel_rfl) (by kernel_rfl) (by kernel_rfl) (fun _ _ _ h => h) (take_run rfl (fun _ _ => by go_simp)) hS ?_
        simp only [Act.put, List.setIfInBounds_toArray, List.set_cons_zero, List.set_cons_succ]
        refine takeAt (i := 7) (v := .int .i64 1) rfl (some 24) rfl (by kernel_rfl) (by kernel_rfl) (by kernel_rfl) (fun _ _ _ h => h) (take_run rfl (fun _ _ => by go_simp)) hS ?_
        simp only [Act.put, List.setIfInBounds_toArray, List.set_cons_zero, List.set_cons_succ]
        refine wpAnyH_ready (rs := [9]) (by kernel_rfl) (by simp) ?_
        refine (AllReadyH.cons rfl ?_ AllReadyH.nil)
        intro K hK
        rw [if_pos (by rfl)]
        refine wp_store_row 22 _ _ rfl (w4.heap.size) (arrC R2) rfl rfl 22 (zL) xh7 (info32_of (arrC R2) (arrC_size _)) (zL_size.trans (arrC_size _).symm) (arrC_one _) ?_
        refine put_at (none) rfl ?_
        simp only [Act.put, List.setIfInBounds_toArray, List.set_cons_zero, List.set_cons_succ]
        have xh7 : (w10.setRow (w4.heap.size) (arrC R2)).heap[w4.heap.size]? = some (.cells (arrC R2) 22 (0, 0)) := (setRow_heap _ _ _ _ _ _ xh7)
        have hS := hS.storeNew (arrC R2) (show w2.heap.size ≤ w4.heap.size by omega)
        generalize w10.setRow (w4.heap.size) (arrC R2) = w11 at *
        refine hK.out _ _ hS ?_
        clear hK K
        intro _
        have hSz := hS.size
        refine takeAt (i := 10) (v := .int .i64 1) rfl (some 8) rfl (by kernel_rfl) (by kernel_rfl) (by kernel_rfl) (fun _ _ _ h => h) (take_run rfl (fun _ _ => by go_simp)) hS ?_
        simp only [Act.put, List.setIfInBounds_toArray, List.set_cons_zero, List.set_cons_succ]
        refine wpAnyH_done (by kernel_rfl) ?_ _
        refine NoPanic.normal ?_
        have hsz := hS.size
        have h2 : w11.heap[w.heap.size]? = some (.cells (arrC X) 22 (0, 0)) := hS.old h2 (Nat.ne_of_lt (heap_lt h2))
        have h3 : w11.heap[w.heap.size + 1]? = some (.cells (arrC Y) 22 (0, 0)) := hS.old h3 (Nat.ne_of_lt (heap_lt h3))
        have h5 : w11.heap[w1.heap.size]? = some (.cells (arrC R1) 22 (0, 0)) := hS.old h5 (Nat.ne_of_lt (heap_lt h5))
        have h7 := xh7
        have hBw11 : Hid (Below w.heap.size w w11) := Lib.hid (hBw2.out.trans (hS.below (by omega) hBw2.out.size))
        clear hS
        go_wp2_with fail
        go_meet
        exact ⟨rfl, Lib.hid h2, Lib.hid h3, Lib.hid h5, Lib.hid hBw11.out, Lib.hid (show w2.heap.size ≤ w11.heap.size by omega)⟩
    · intro K hK
      refine ready_run rfl (some 7) rfl (.pointer (some ⟨w3.heap.size, 0, none⟩)) (w3.alloc (.cells zL 22)) (by go_simp; try rfl) ?_
      simp only [Act.put, List.setIfInBounds_toArray, List.set_cons_zero, List.set_cons_succ]
      obtain ⟨w13, ea⟩ : ∃ u : World, u = w3.alloc (.cells zL 22) := ⟨_, rfl⟩
      rw [← ea]
      have hS := hS.alloc (.cells zL 22)
      rw [← ea] at hS
      have hz13 : w3.heap.size + 1 ≤ w13.heap.size := by rw [ea, alloc_size]; omega
      have hy13 : w2.heap.size ≤ w3.heap.size := hSz
      have xh7 : w13.heap[w3.heap.size]? = some (.cells (zL) 22 (0, 0)) := by rw [ea]; exact heap_new_at _ _ _ rfl
      clear ea
      refine hK.out _ _ hS ?_
      clear hK K
      intro _
      have hSz := hS.size
      refine wpAnyH_ready (rs := [2]) (by kernel_rfl) (by simp) ?_
      refine (AllReadyH.cons rfl ?_ AllReadyH.nil)
      intro K hK
      refine ready_call rfl (some 20) rfl 6 #[.agg (arrC X), .agg (arrC X)] (by go_simp) ?_
      refine (FieldAdd_to X X A HA _).mono ?_
      rintro e w14 ⟨rfl, hC⟩
      refine ⟨_, rfl, ?_⟩
      simp only [Act.put, List.setIfInBounds_toArray, List.set_cons_zero, List.set_cons_succ]
      have xh7 : w14.heap[w3.heap.size]? = some (.cells (zL) 22 (0, 0)) := (heap_call hC xh7)
      have hS := hS.call hC
      have hz14 := hC.size
      clear hC
      refine hK.out _ _ hS ?_
      clear hK K
      intro _
      have hSz := hS.size
      refine wpAnyH_ready (rs := [4]) (by kernel_rfl) (by simp) ?_
      refine (AllReadyH.cons rfl ?_ AllReadyH.nil)
      intro K hK
      refine ready_call rfl (some 22) rfl 5 #[.agg (arrC A), .agg (arrC Y)] (by go_simp) ?_
      refine (FieldSqrt_to A Y R2 1 HR2 HZ2 B _ (hD0.later (hBw2.out.trans (hS.below (by omega) hBw2.out.size))) (hD1.later (hBw2.out.trans (hS.below (by omega) hBw2.out.size)))).mono ?_
      rintro e w15 ⟨rfl, hC⟩
      refine ⟨_, rfl, ?_⟩
      simp only [Act.put, List.setIfInBounds_toArray, List.set_cons_zero, List.set_cons_succ]
      have xh7 : w15.heap[w3.heap.size]? = some (.cells (zL) 22 (0, 0)) := (heap_call hC xh7)
      have hS := hS.call hC
      have hz15 := hC.size
      clear hC
      refine hK.out _ _ hS ?_
      clear hK K
      intro _
      have hSz := hS.size
      refine takeAt (i := 5) (v := .tuple #[.agg (arrC R2), .int .i64 1]) rfl (some 17) rfl (by kernel_rfl) (by kernel_rfl) (by kernel_rfl) (fun _ _ _ h => h) (take_run rfl (fun _ _ => by go_simp)) hS ?_
      simp only [Act.put, List.setIfInBounds_toArray, List.set_cons_zero, List.set_cons_succ]
      refine takeAt (i := 6) (v := .agg (arrC R2)) rfl (some 23) rfl (by kernel_rfl) (by kernel_rfl) (by kernel_rfl) (fun _ _ _ h => h) (take_run rfl (fun _ _ => by go_simp)) hS ?_
      simp only [Act.put, List.setIfInBounds_toArray, List.set_cons_zero, List.set_cons_succ]
      refine takeAt (i := 7) (v := .int .i64 1) rfl (some 24) rfl (by kernel_rfl) (by kernel_rfl) (by kernel_rfl) (fun _ _ _ h => h) (take_run rfl (fun _ _ => by go_simp)) hS ?_
      simp only [Act.put, List.setIfInBounds_toArray, List.set_cons_zero, List.set_cons_succ]
      refine wpAnyH_ready (rs := [9]) (by kernel_rfl) (by simp) ?_
      refine (AllReadyH.cons rfl ?_ AllReadyH.nil)
      intro K hK
      rw [if_pos (by rfl)]
      refine wp_store_row 22 _ _ rfl (w3.heap.size) (arrC R2) rfl rfl 22 (zL) xh7 (info32_of (arrC R2) (arrC_size _)) (zL_size.trans (arrC_size _).symm) (arrC_one _) ?_
      refine put_at (none) rfl ?_
      simp only [Act.put, List.setIfInBounds_toArray, List.set_cons_zero, List.set_cons_succ]
      have xh7 : (w15.setRow (w3.heap.size) (arrC R2)).heap[w3.heap.size]? = some (.cells (arrC R2) 22 (0, 0)) := (setRow_heap _ _ _ _ _ _ xh7)
      have hS := hS.storeNew (arrC R2) (show w2.heap.size ≤ w3.heap.size by omega)
      generalize w15.setRow (w3.heap.size) (arrC R2) = w16 at *
      refine hK.out _ _ hS ?_
      clear hK K
      intro _
      have hSz := hS.size
      refine takeAt (i := 10) (v := .int .i64 1) rfl (some 8) rfl (by kernel_rfl) (by kernel_rfl) (by kernel_rfl) (fun _ _ _ h => h) (take_run rfl (fun _ _ => by go_simp)) hS ?_
      simp only [Act.put, List.setIfInBounds_toArray, List.set_cons_zero, List.set_cons_succ]
      refine wpAnyH_done (by kernel_rfl) ?_ _
      refine NoPanic.normal ?_
      have hsz := hS.size
      have h2 : w16.heap[w.heap.size]? = some (.cells (arrC X) 22 (0, 0)) := hS.old h2 (Nat.ne_of_lt (heap_lt h2))
      have h3 : w16.heap[w.heap.size + 1]? = some (.cells (arrC Y) 22 (0, 0)) := hS.old h3 (Nat.ne_of_lt (heap_lt h3))
      have h5 : w16.heap[w1.heap.size]? = some (.cells (arrC R1) 22 (0, 0)) := hS.old h5 (Nat.ne_of_lt (heap_lt h5))
      have h7 := xh7
      have hBw16 : Hid (Below w.heap.size w w16) := Lib.hid (hBw2.out.trans (hS.below (by omega) hBw2.out.size))
      clear hS
      go_wp2_with fail
      go_meet
      exact ⟨rfl, Lib.hid h2, Lib.hid h3, Lib.hid h5, Lib.hid hBw16.out, Lib.hid (show w2.heap.size ≤ w16.heap.size by omega)⟩
  case rest =>
    obtain ⟨rfl, Hh2, Hh3, Hh5, hBw18, Hsz18⟩ := hcut
    obtain ⟨w18, rfl⟩ : ∃ u : World, u = wc := ⟨_, rfl⟩
    have h2 := Hh2.out
    have h3 := Hh3.out
    have h5 := Hh5.out
    have hsz18 := Hsz18.out
    go_wp2_with (first
      | ((with_reducible refine at_dst 25 ?_); refine wpList_load_row rfl 22 _ rfl (w.heap.size) rfl 22 (arrC X) (0, 0) _ h2 under32 rfl (info32_of (arrC X) (arrC_size _)) ?_))
    refine (isZero_true X TX HTX hzx _).mono ?_
    rintro e w19 ⟨rfl, hC19⟩
    have hs19 : w18.heap.size ≤ w19.heap.size := by have := hC19.size; (try simp only [alloc_size, setRow_size] at this); omega
    replace h2 : w19.heap[w.heap.size]? = some (.cells (arrC X) 22 (0, 0)) := (heap_call hC19 h2)
    replace h3 : w19.heap[w.heap.size + 1]? = some (.cells (arrC Y) 22 (0, 0)) := (heap_call hC19 h3)
    replace h5 : w19.heap[w1.heap.size]? = some (.cells (arrC R1) 22 (0, 0)) := (heap_call hC19 h5)
    have hBw19 : Hid (Below w.heap.size w w19) := Lib.hid (below_call hBw18.out hC19)
    clear hC19
    go_wp2_with fail
    refine (number_vv 1 (by omega) _).mono ?_
    rintro e w20 ⟨rfl, hC20⟩
    have hs20 : w19.heap.size ≤ w20.heap.size := by have := hC20.size; (try simp only [alloc_size, setRow_size] at this); omega
    replace h2 : w20.heap[w.heap.size]? = some (.cells (arrC X) 22 (0, 0)) := (heap_call hC20 h2)
    replace h3 : w20.heap[w.heap.size + 1]? = some (.cells (arrC Y) 22 (0, 0)) := (heap_call hC20 h3)
    replace h5 : w20.heap[w1.heap.size]? = some (.cells (arrC R1) 22 (0, 0)) := (heap_call hC20 h5)
    have hBw20 : Hid (Below w.heap.size w w20) := Lib.hid (below_call hBw19.out hC20)
    clear hC20
    go_wp2_with fail
    refine (number_vv 1 (by omega) _).mono ?_
    rintro e w21 ⟨rfl, hC21⟩
    have hs21 : w20.heap.size ≤ w21.heap.size := by have := hC21.size; (try simp only [alloc_size, setRow_size] at this); omega
    replace h2 : w21.heap[w.heap.size]? = some (.cells (arrC X) 22 (0, 0)) := (heap_call hC21 h2)
    replace h3 : w21.heap[w.heap.size + 1]? = some (.cells (arrC Y) 22 (0, 0)) := (heap_call hC21 h3)
    replace h5 : w21.heap[w1.heap.size]? = some (.cells (arrC R1) 22 (0, 0)) := (heap_call hC21 h5)
    have hBw21 : Hid (Below w.heap.size w w21) := Lib.hid (below_call hBw20.out hC21)
    clear hC21
    go_wp2_with fail
    refine (FieldSqrt_to 1 1 R3 1 HR3 HZ3 B _ (hD0.later hBw21.out) (hD1.later hBw21.out)).mono ?_
    rintro e w22 ⟨rfl, hC22⟩
    have hs22 : w21.heap.size ≤ w22.heap.size := by have := hC22.size; (try simp only [alloc_size, setRow_size] at this); omega
    replace h2 : w22.heap[w.heap.size]? = some (.cells (arrC X) 22 (0, 0)) := (heap_call hC22 h2)
    replace h3 : w22.heap[w.heap.size + 1]? = some (.cells (arrC Y) 22 (0, 0)) := (heap_call hC22 h3)
    replace h5 : w22.heap[w1.heap.size]? = some (.cells (arrC R1) 22 (0, 0)) := (heap_call hC22 h5)
    have hBw22 : Hid (Below w.heap.size w w22) := Lib.hid (below_call hBw21.out hC22)
    clear hC22
    go_wp2_with (first
      | ((with_reducible refine at_store 9 ?_); refine wpList_store_row rfl 22 _ _ rfl (w22.heap.size) (arrC R3) rfl rfl 22 (zL) (heap_new_at _ _ _ rfl) (info32_of (arrC R3) (arrC_size _)) (zL_size.trans (arrC_size _).symm) (arrC_one _) ?_))
    go_ret
    exact ⟨rfl, (below_setRow (below_alloc hBw22.out _) (by omega) _)⟩

set_option maxHeartbeats 4000000 in
theorem SqOr_v0 (X Y : Nat) (h : Hid (¬ valN X = 0 ∧ valN Y = 0)) (B : Nat) (w : World) (hD0 : Var 1 z5 B w) (hD1 : Var 0 i5 B w) :
    Calls Tryd.prog 3 #[.agg (arrC X), .agg (arrC Y)] w fun e w' => e = .returned (.bool true) ∧ Below w.heap.size w w' := by
  obtain ⟨A, qA⟩ : ∃ u : Nat, u = (valN X + valN X) % pF := ⟨_, rfl⟩
  have HA := Lib.hid qA; clear qA
  obtain ⟨R1, qR1⟩ : ∃ u : Nat, u = sqR (valN X) (valN Y) := ⟨_, rfl⟩
  have HR1 := Lib.hid qR1; clear qR1
  obtain ⟨R2, qR2⟩ : ∃ u : Nat, u = sqR (valN A) (valN Y) := ⟨_, rfl⟩
  have HR2 := Lib.hid qR2; clear qR2
  obtain ⟨R3, qR3⟩ : ∃ u : Nat, u = sqR (valN 1) (valN 1) := ⟨_, rfl⟩
  have HR3 := Lib.hid qR3; clear qR3
  obtain ⟨TX, qTX⟩ : ∃ u : Nat, u = valN X := ⟨_, rfl⟩
  have HTX := Lib.hid qTX; clear qTX
  obtain ⟨TY, qTY⟩ : ∃ u : Nat, u = valN Y := ⟨_, rfl⟩
  have HTY := Lib.hid qTY; clear qTY
  have vX := valN_lt X; have vY := valN_lt Y
  have vA : valN A = A := valN_of_lt _ (by rw [HA.out]; exact mod_lt_p _)
  have v1 : valN 1 = 1 := valN_of_lt _ (by unfold pF; omega)
  have HZ3 : Hid ((1 : Int) = if sqW (valN 1) (valN 1) then 1 else 0) := Lib.hid (by rw [v1, one_way]; rfl)
  have e1 : sqW (valN X) (valN Y) = false := by rw [h.out.2, sqW_v0 _ vX]; exact decide_eq_false h.out.1
  have e2 : sqW (valN A) (valN Y) = false := by rw [vA, HA.out, h.out.2, sqW_v0 _ (mod_lt_p _)]; exact decide_eq_false (dbl_ne _ vX h.out.1)
  have HZ1 : Hid ((0 : Int) = if sqW (valN X) (valN Y) then 1 else 0) := Lib.hid (by rw [e1]; rfl)
  have HZ2 : Hid ((0 : Int) = if sqW (valN A) (valN Y) then 1 else 0) := Lib.hid (by rw [e2]; rfl)
  have hzx : Hid (¬ TX = 0) := Lib.hid (by rw [HTX.out]; exact h.out.1)
  have hzy : Hid (TY = 0) := Lib.hid (by rw [HTY.out]; exact h.out.2)
  clear h vX vY vA v1 e1 e2
  have hBl := hD0.1
  go_enter Tryd.func3, Tryd.ntmps3
  go_wp2_with (first
    | ((with_reducible refine at_dst 12 ?_); refine wpList_load_row rfl 22 _ rfl (w.heap.size) rfl 22 (arrC X) (0, 0) _ (heap_old _ (heap_new_at _ _ _ rfl)) under32 rfl (info32_of (arrC X) (arrC_size _)) ?_)
    | ((with_reducible refine at_dst 13 ?_); refine wpList_load_row rfl 22 _ rfl (w.heap.size + 1) rfl 22 (arrC Y) (0, 0) _ (heap_new_at _ _ _ (by simp only [alloc_size, setRow_size])) under32 rfl (info32_of (arrC Y) (arrC_size _)) ?_))
  refine (FieldSqrt_to X Y R1 0 HR1 HZ1 B _ (hD0.later (below_alloc (below_alloc (Below.refl _ w) _) _)) (hD1.later (below_alloc (below_alloc (Below.refl _ w) _) _))).mono ?_
  rintro e w1 ⟨rfl, hC1⟩
  have hs1 : w.heap.size + 1 + 1 ≤ w1.heap.size := by have := hC1.size; (try simp only [alloc_size, setRow_size] at this); omega
  replace h2 : w1.heap[w.heap.size]? = some (.cells (arrC X) 22 (0, 0)) := (heap_call hC1 (heap_old _ (heap_new_at _ _ _ rfl)))
  replace h3 : w1.heap[w.heap.size + 1]? = some (.cells (arrC Y) 22 (0, 0)) := (heap_call hC1 (heap_new_at _ _ _ (by simp only [alloc_size, setRow_size])))
  have hBw1 : Hid (Below w.heap.size w w1) := Lib.hid (below_call (below_alloc (below_alloc (Below.refl _ w) _) _) hC1)
  clear hC1
  go_wp2_with (first
    | ((with_reducible refine at_store 5 ?_); refine wpList_store_row rfl 22 _ _ rfl (w1.heap.size) (arrC R1) rfl rfl 22 (zL) (heap_new_at _ _ _ rfl) (info32_of (arrC R1) (arrC_size _)) (zL_size.trans (arrC_size _).symm) (arrC_one _) ?_))
  refine wp_named ?_
  intro w2 ew2
  have hs2 : w1.heap.size + 1 ≤ w2.heap.size := by rw [ew2]; (try simp only [alloc_size, setRow_size]); omega
  replace h2 : w2.heap[w.heap.size]? = some (.cells (arrC X) 22 (0, 0)) := by rw [ew2]; exact (heap_row _ (by omega) (heap_old _ h2))
  replace h3 : w2.heap[w.heap.size + 1]? = some (.cells (arrC Y) 22 (0, 0)) := by rw [ew2]; exact (heap_row _ (by omega) (heap_old _ h3))
  replace h5 : w2.heap[w1.heap.size]? = some (.cells (arrC R1) 22 (0, 0)) := by rw [ew2]; exact (setRow_heap _ _ _ _ _ _ (heap_new_at _ _ _ rfl))
  have hBw2 : Hid (Below w.heap.size w w2) := Lib.hid (by rw [ew2]; exact (below_setRow (below_alloc hBw1.out _) (by omega) _))
  clear ew2
  go_cut [8] (fun s8 wx => s8 = .int .i64 0 ∧ Hid (wx.heap[w.heap.size]? = some (.cells (arrC X) 22 (0, 0))) ∧ Hid (wx.heap[w.heap.size + 1]? = some (.cells (arrC Y) 22 (0, 0))) ∧ Hid (wx.heap[w1.heap.size]? = some (.cells (arrC R1) 22 (0, 0))) ∧ Hid (Below w.heap.size w wx) ∧ Hid (w2.heap.size ≤ wx.heap.size))
  case first =>
    refine wp_region_noPanic ?_
    refine wp_region_held_drew (S := Keep (w2.heap.size) w2) (by kernel_rfl) (Keep.start _ _) ?_
    intro hS
    obtain ⟨w3, ed⟩ : ∃ u : World, u = w2.drew := ⟨_, rfl⟩
    rw [← ed] at hS ⊢
    have xh2 : w3.heap[w.heap.size]? = some (.cells (arrC X) 22 (0, 0)) := by rw [ed]; exact h2
    have xh3 : w3.heap[w.heap.size + 1]? = some (.cells (arrC Y) 22 (0, 0)) := by rw [ed]; exact h3
    have xh5 : w3.heap[w1.heap.size]? = some (.cells (arrC R1) 22 (0, 0)) := by rw [ed]; exact h5
    clear ed
    have hSz := hS.size
    clear xh2
    clear xh3
    clear xh5
    refine takeAt (i := 0) (v := .agg (arrC X)) rfl (some 18) rfl (by kernel_rfl) (by kernel_rfl) (by kernel_rfl) (fun _ _ _ h => h) (take_row rfl _ _ rfl (w.heap.size) rfl _ _ _ h2 (Nat.ne_of_lt (heap_lt h2)) under32 rfl (info32_of (arrC X) (arrC_size _))) hS ?_
    simp only [Act.put, List.setIfInBounds_toArray, List.set_cons_zero, List.set_cons_succ]
    refine takeAt (i := 1) (v := .agg (arrC X)) rfl (some 19) rfl (by kernel_rfl) (by kernel_rfl) (by kernel_rfl) (fun _ _ _ h => h) (take_row rfl _ _ rfl (w.heap.size) rfl _ _ _ h2 (Nat.ne_of_lt (heap_lt h2)) under32 rfl (info32_of (arrC X) (arrC_size _))) hS ?_
    simp only [Act.put, List.setIfInBounds_toArray, List.set_cons_zero, List.set_cons_succ]
    refine takeAt (i := 3) (v := .agg (arrC Y)) rfl (some 21) rfl (by kernel_rfl) (by kernel_rfl) (by kernel_rfl) (fun _ _ _ h => h) (take_row rfl _ _ rfl (w.heap.size + 1) rfl _ _ _ h3 (Nat.ne_of_lt (heap_lt h3)) under32 rfl (info32_of (arrC Y) (arrC_size _))) hS ?_
    simp only [Act.put, List.setIfInBounds_toArray, List.set_cons_zero, List.set_cons_succ]
    refine wpAnyH_ready (rs := [2, 8]) (by kernel_rfl) (by simp) ?_
    refine (AllReadyH.cons rfl ?_ (AllReadyH.cons rfl ?_ AllReadyH.nil))
    · intro K hK
      refine ready_call rfl (some 20) rfl 6 #[.agg (arrC X), .agg (arrC X)] (by go_simp) ?_
      refine (FieldAdd_to X X A HA _).mono ?_
      rintro e w4 ⟨rfl, hC⟩
      refine ⟨_, rfl, ?_⟩
      simp only [Act.put, List.setIfInBounds_toArray, List.set_cons_zero, List.set_cons_succ]
      have hS := hS.call hC
      have hz4 := hC.size
      clear hC
      refine hK.out _ _ hS ?_
      clear hK K
      intro _
      have hSz := hS.size
      refine wpAnyH_ready (rs := [4, 8]) (by kernel_rfl) (by simp) ?_
      refine (AllReadyH.cons rfl ?_ (AllReadyH.cons rfl ?_ AllReadyH.nil))
      · intro K hK
        refine ready_call rfl (some 22) rfl 5 #[.agg (arrC A), .agg (arrC Y)] (by go_simp) ?_
        refine (FieldSqrt_to A Y R2 0 HR2 HZ2 B _ (hD0.later (hBw2.out.trans (hS.below (by omega) hBw2.out.size))) (hD1.later (hBw2.out.trans (hS.below (by omega) hBw2.out.size)))).mono ?_
        rintro e w5 ⟨rfl, hC⟩
        refine ⟨_, rfl, ?_⟩
        simp only [Act.put, List.setIfInBounds_toArray, List.set_cons_zero, List.set_cons_succ]
        have hS := hS.call hC
        have hz5 := hC.size
        clear hC
        refine hK.out _ _ hS ?_
        clear hK K
        intro _
        have hSz := hS.size
        refine takeAt (i := 5) (v := .tuple #[.agg (arrC R2), .int .i64 0]) rfl (some 17) rfl (by kernel_rfl) (by kernel_rfl) (by kernel_rfl) (fun _ _ _ h => h) (take_run rfl (fun _ _ => by go_simp)) hS ?_
        simp only [Act.put, List.setIfInBounds_toArray, List.set_cons_zero, List.set_cons_succ]
        refine takeAt (i := 6) (v := .agg (arrC R2)) rfl (some 23) rfl (by kernel_rfl) (by kernel_rfl) (by kernel_rfl) (fun _ _ _ h => h) (take_run rfl (fun _ _ => by go_simp)) hS ?_
        simp only [Act.put, List.setIfInBounds_toArray, List.set_cons_zero, List.set_cons_succ]
        refine takeAt (i := 7) (v := .int .i64 0) rfl (some 24) rfl (by kernel_rfl) (by kernel_rfl) (by kernel_rfl) (fun _ _ _ h => h) (take_run rfl (fun _ _ => by go_simp)) hS ?_
        simp only [Act.put, List.setIfInBounds_toArray, List.set_cons_zero, List.set_cons_succ]
        refine wpAnyH_ready (rs := [8]) (by kernel_rfl) (by simp) ?_
        refine (AllReadyH.cons rfl ?_ AllReadyH.nil)
        intro K hK
        refine ready_run rfl (some 7) rfl (.pointer (some ⟨w5.heap.size, 0, none⟩)) (w5.alloc (.cells zL 22)) (by go_simp; try rfl) ?_
        simp only [Act.put, List.setIfInBounds_toArray, List.set_cons_zero, List.set_cons_succ]
        obtain ⟨w6, ea⟩ : ∃ u : World, u = w5.alloc (.cells zL 22) := ⟨_, rfl⟩
        rw [← ea]
        have hS := hS.alloc (.cells zL 22)
        rw [← ea] at hS
        have hz6 : w5.heap.size + 1 ≤ w6.heap.size := by rw [ea, alloc_size]; omega
        have hy6 : w2.heap.size ≤ w5.heap.size := hSz
        have xh7 : w6.heap[w5.heap.size]? = some (.cells (zL) 22 (0, 0)) := by rw [ea]; exact heap_new_at _ _ _ rfl
        clear ea
        refine hK.out _ _ hS ?_
        clear hK K
        intro _
        have hSz := hS.size
        refine wpAnyH_ready (rs := [9]) (by kernel_rfl) (by simp) ?_
        refine (AllReadyH.cons rfl ?_ AllReadyH.nil)
        intro K hK
        rw [if_pos (by rfl)]
        refine wp_store_row 22 _ _ rfl (w5.heap.size) (arrC R2) rfl rfl 22 (zL) xh7 (info32_of (arrC R2) (arrC_size _)) (zL_size.trans (arrC_size _).symm) (arrC_one _) ?_
        refine put_at (none) rfl ?_
        simp only [Act.put, List.setIfInBounds_toArray, List.set_cons_zero, List.set_cons_succ]
        have xh7 : (w6.setRow (w5.heap.size) (arrC R2)).heap[w5.heap.size]? = some (.cells (arrC R2) 22 (0, 0)) := (setRow_heap _ _ _ _ _ _ xh7)
        have hS := hS.storeNew (arrC R2) (show w2.heap.size ≤ w5.heap.size by omega)
        generalize w6.setRow (w5.heap.size) (arrC R2) = w7 at *
        refine hK.out _ _ hS ?_
        clear hK K
        intro _
        have hSz := hS.size
        refine takeAt (i := 10) (v := .int .i64 0) rfl (some 8) rfl (by kernel_rfl) (by kernel_rfl) (by kernel_rfl) (fun _ _ _ h => h) (take_run rfl (fun _ _ => by go_simp)) hS ?_
        simp only [Act.put, List.setIfInBounds_toArray, List.set_cons_zero, List.set_cons_succ]
        refine wpAnyH_done (by kernel_rfl) ?_ _
        refine NoPanic.normal ?_
        have hsz := hS.size
        have h2 : w7.heap[w.heap.size]? = some (.cells (arrC X) 22 (0, 0)) := hS.old h2 (Nat.ne_of_lt (heap_lt h2))
        have h3 : w7.heap[w.heap.size + 1]? = some (.cells (arrC Y) 22 (0, 0)) := hS.old h3 (Nat.ne_of_lt (heap_lt h3))
        have h5 : w7.heap[w1.heap.size]? = some (.cells (arrC R1) 22 (0, 0)) := hS.old h5 (Nat.ne_of_lt (heap_lt h5))
        have h7 := xh7
        have hBw7 : Hid (Below w.heap.size w w7) := Lib.hid (hBw2.out.trans (hS.below (by omega) hBw2.out.size))
        clear hS
        go_wp2_with fail
        go_meet
        exact ⟨rfl, Lib.hid h2, Lib.hid h3, Lib.hid h5, Lib.hid hBw7.out, Lib.hid (show w2.heap.size ≤ w7.heap.size by omega)⟩
      · intro K hK
        refine ready_run rfl (some 7) rfl (.pointer (some ⟨w4.heap.size, 0, none⟩)) (w4.alloc (.cells zL 22)) (by go_simp; try rfl) ?_
        simp only [Act.put, List.setIfInBounds_toArray, List.set_cons_zero, List.set_cons_succ]
        obtain ⟨w9, ea⟩ : ∃ u : World, u = w4.alloc (.cells zL 22) := ⟨_, rfl⟩
        rw [← ea]
        have hS := hS.alloc (.cells zL 22)
        rw [← ea] at hS
        have hz9 : w4.heap.size + 1 ≤ w9.heap.size := by rw [ea, alloc_size]; omega
        have hy9 : w2.heap.size ≤ w4.heap.size := hSz
        have xh7 : w9.heap[w4.heap.size]? = some (.cells (zL) 22 (0, 0)) := by rw [ea]; exact heap_new_at _ _ _ rfl
        clear ea
        refine hK.out _ _ hS ?_
        clear hK K
        intro _
        have hSz := hS.size
        refine wpAnyH_ready (rs := [4]) (by kernel_rfl) (by simp) ?_
        refine (AllReadyH.cons rfl ?_ AllReadyH.nil)
        intro K hK
        refine ready_call rfl (some 22) rfl 5 #[.agg (arrC A), .agg (arrC Y)] (by go_simp) ?_
        refine (FieldSqrt_to A Y R2 0 HR2 HZ2 B _ (hD0.later (hBw2.out.trans (hS.below (by omega) hBw2.out.size))) (hD1.later (hBw2.out.trans (hS.below (by omega) hBw2.out.size)))).mono ?_
        rintro e w10 ⟨rfl, hC⟩
        refine ⟨_, rfl, ?_⟩
        simp only [Act.put, List.setIfInBounds_toArray, List.set_cons_zero, List.set_cons_succ]
        have xh7 : w10.heap[w4.heap.size]? = some (.cells (zL) 22 (0, 0)) := (heap_call hC xh7)
        have hS := hS.call hC
        have hz10 := hC.size
        clear hC
        refine hK.out _ _ hS ?_
        clear hK K
        intro _
        have hSz := hS.size
        refine takeAt (i := 5) (v := .tuple #[.agg (arrC R2), .int .i64 0]) rfl (some 17) rfl (by kernel_rfl) (by kernel_rfl) (by kernel_rfl) (fun _ _ _ h => h) (take_run rfl (fun _ _ => by go_simp)) hS ?_
        simp only [Act.put, List.setIfInBounds_toArray, List.set_cons_zero, List.set_cons_succ]
        refine takeAt (i := 6) (v := .agg (arrC R2)) rfl (some 23) rfl (by kernel_rfl) (by kernel_rfl) (by kernel_rfl) (fun _ _ _ h => h) (take_run rfl (fun _ _ => by go_simp)) hS ?_
        simp only [Act.put, List.setIfInBounds_toArray, List.set_cons_zero, List.set_cons_succ]
        refine takeAt (i := 7) (v := .int .i64 0) rfl (some 24) rfl (by kernel_rfl) (by kernel_rfl) (by kernel_rfl) (fun _ _ _ h => h) (take_run rfl (fun _ _ => by go_simp)) hS ?_
        simp only [Act.put, List.setIfInBounds_toArray, List.set_cons_zero, List.set_cons_succ]
        refine wpAnyH_ready (rs := [9]) (by kernel_rfl) (by simp) ?_
        refine (AllReadyH.cons rfl ?_ AllReadyH.nil)
        intro K hK
        rw [if_pos (by rfl)]
        refine wp_store_row 22 _ _ rfl (w4.heap.size) (arrC R2) rfl rfl 22 (zL) xh7 (info32_of (arrC R2) (arrC_size _)) (zL_size.trans (arrC_size _).symm) (arrC_one _) ?_
        refine put_at (none) rfl ?_
        simp only [Act.put, List.setIfInBounds_toArray, List.set_cons_zero, List.set_cons_succ]
        have xh7 : (w10.setRow (w4.heap.size) (arrC R2)).heap[w4.heap.size]? = some (.cells (arrC R2) 22 (0, 0)) := (setRow_heap _ _ _ _ _ _ xh7)
        have hS := hS.storeNew (arrC R2) (show w2.heap.size ≤ w4.heap.size by omega)
        generalize w10.setRow (w4.heap.size) (arrC R2) = w11 at *
        refine hK.out _ _ hS ?_
        clear hK K
        intro _
        have hSz := hS.size
        refine takeAt (i := 10) (v := .int .i64 0) rfl (some 8) rfl (by kernel_rfl) (by kernel_rfl) (by kernel_rfl) (fun _ _ _ h => h) (take_run rfl (fun _ _ => by go_simp)) hS ?_
        simp only [Act.put, List.setIfInBounds_toArray, List.set_cons_zero, List.set_cons_succ]
        refine wpAnyH_done (by kernel_rfl) ?_ _
        refine NoPanic.normal ?_
        have hsz := hS.size
        have h2 : w11.heap[w.heap.size]? = some (.cells (arrC X) 22 (0, 0)) := hS.old h2 (Nat.ne_of_lt (heap_lt h2))
        have h3 : w11.heap[w.heap.size + 1]? = some (.cells (arrC Y) 22 (0, 0)) := hS.old h3 (Nat.ne_of_lt (heap_lt h3))
        have h5 : w11.heap[w1.heap.size]? = some (.cells (arrC R1) 22 (0, 0)) := hS.old h5 (Nat.ne_of_lt (heap_lt h5))
        have h7 := xh7
        have hBw11 : Hid (Below w.heap.size w w11) := Lib.hid (hBw2.out.trans (hS.below (by omega) hBw2.out.size))
        clear hS
        go_wp2_with fail
        go_meet
        exact ⟨rfl, Lib.hid h2, Lib.hid h3, Lib.hid h5, Lib.hid hBw11.out, Lib.hid (show w2.heap.size ≤ w11.heap.size by omega)⟩
    · intro K hK
      refine ready_run rfl (some 7) rfl (.pointer (some ⟨w3.heap.size, 0, none⟩)) (w3.alloc (.cells zL 22)) (by go_simp; try rfl) ?_
      simp only [Act.put, List.setIfInBounds_toArray, List.set_cons_zero, List.set_cons_succ]
      obtain ⟨w13, ea⟩ : ∃ u : World, u = w3.alloc (.cells zL 22) := ⟨_, rfl⟩
      rw [← ea]
      have hS := hS.alloc (.cells zL 22)
      rw [← ea] at hS
      have hz13 : w3.heap.size + 1 ≤ w13.heap.size := by rw [ea, alloc_size]; omega
      have hy13 : w2.heap.size ≤ w3.heap.size := hSz
      have xh7 : w13.heap[w3.heap.size]? = some (.cells (zL) 22 (0, 0)) := by rw [ea]; exact heap_new_at _ _ _ rfl
      clear ea
      refine hK.out _ _ hS ?_
      clear hK K
      intro _
      have hSz := hS.size
      refine wpAnyH_ready (rs := [2]) (by kernel_rfl) (by simp) ?_
      refine (AllReadyH.cons rfl ?_ AllReadyH.nil)
      intro K hK
      refine ready_call rfl (some 20) rfl 6 #[.agg (arrC X), .agg (arrC X)] (by go_simp) ?_
      refine (FieldAdd_to X X A HA _).mono ?_
      rintro e w14 ⟨rfl, hC⟩
      refine ⟨_, rfl, ?_⟩
      simp only [Act.put, List.setIfInBounds_toArray, List.set_cons_zero, List.set_cons_succ]
      have xh7 : w14.heap[w3.heap.size]? = some (.cells (zL) 22 (0, 0)) := (heap_call hC xh7)
      have hS := hS.call hC
      have hz14 := hC.size
      clear hC
      refine hK.out _ _ hS ?_
      clear hK K
      intro _
      have hSz := hS.size
      refine wpAnyH_ready (rs := [4]) (by kernel_rfl) (by simp) ?_
      refine (AllReadyH.cons rfl ?_ AllReadyH.nil)
      intro K hK
      refine ready_call rfl (some 22) rfl 5 #[.agg (arrC A), .agg (arrC Y)] (by go_simp) ?_
      refine (FieldSqrt_to A Y R2 0 HR2 HZ2 B _ (hD0.later (hBw2.out.trans (hS.below (by omega) hBw2.out.size))) (hD1.later (hBw2.out.trans (hS.below (by omega) hBw2.out.size)))).mono ?_
      rintro e w15 ⟨rfl, hC⟩
      refine ⟨_, rfl, ?_⟩
      simp only [Act.put, List.setIfInBounds_toArray, List.set_cons_zero, List.set_cons_succ]
      have xh7 : w15.heap[w3.heap.size]? = some (.cells (zL) 22 (0, 0)) := (heap_call hC xh7)
      have hS := hS.call hC
      have hz15 := hC.size
      clear hC
      refine hK.out _ _ hS ?_
      clear hK K
      intro _
      have hSz := hS.size
      refine takeAt (i := 5) (v := .tuple #[.agg (arrC R2), .int .i64 0]) rfl (some 17) rfl (by kernel_rfl) (by kernel_rfl) (by kernel_rfl) (fun _ _ _ h => h) (take_run rfl (fun _ _ => by go_simp)) hS ?_
      simp only [Act.put, List.setIfInBounds_toArray, List.set_cons_zero, List.set_cons_succ]
      refine takeAt (i := 6) (v := .agg (arrC R2)) rfl (some 23) rfl (by kernel_rfl) (by kernel_rfl) (by kernel_rfl) (fun _ _ _ h => h) (take_run rfl (fun _ _ => by go_simp)) hS ?_
      simp only [Act.put, List.setIfInBounds_toArray, List.set_cons_zero, List.set_cons_succ]
      refine takeAt (i := 7) (v := .int .i64 0) rfl (some 24) rfl (by kernel_rfl) (by kernel_rfl) (by kernel_rfl) (fun _ _ _ h => h) (take_run rfl (fun _ _ => by go_simp)) hS ?_
      simp only [Act.put, List.setIfInBounds_toArray, List.set_cons_zero, List.set_cons_succ]
      refine wpAnyH_ready (rs := [9]) (by kernel_rfl) (by simp) ?_
      refine (AllReadyH.cons rfl ?_ AllReadyH.nil)
      intro K hK
      rw [if_pos (by rfl)]
      refine wp_store_row 22 _ _ rfl (w3.heap.size) (arrC R2) rfl rfl 22 (zL) xh7 (info32_of (arrC R2) (arrC_size _)) (zL_size.trans (arrC_size _).symm) (arrC_one _) ?_
      refine put_at (none) rfl ?_
      simp only [Act.put, List.setIfInBounds_toArray, List.set_cons_zero, List.set_cons_succ]
      have xh7 : (w15.setRow (w3.heap.size) (arrC R2)).heap[w3.heap.size]? = some (.cells (arrC R2) 22 (0, 0)) := (setRow_heap _ _ _ _ _ _ xh7)
      have hS := hS.storeNew (arrC R2) (show w2.heap.size ≤ w3.heap.size by omega)
      generalize w15.setRow (w3.heap.size) (arrC R2) = w16 at *
      refine hK.out _ _ hS ?_
      clear hK K
      intro _
      have hSz := hS.size
      refine takeAt (i := 10) (v := .int .i64 0) rfl (some 8) rfl (by kernel_rfl) (by kernel_rfl) (by kernel_rfl) (fun _ _ _ h => h) (take_run rfl (fun _ _ => by go_simp)) hS ?_
      simp only [Act.put, List.setIfInBounds_toArray, List.set_cons_zero, List.set_cons_succ]
      refine wpAnyH_done (by kernel_rfl) ?_ _
      refine NoPanic.normal ?_
      have hsz := hS.size
      have h2 : w16.heap[w.heap.size]? = some (.cells (arrC X) 22 (0, 0)) := hS.old h2 (Nat.ne_of_lt (heap_lt h2))
      have h3 : w16.heap[w.heap.size + 1]? = some (.cells (arrC Y) 22 (0, 0)) := hS.old h3 (Nat.ne_of_lt (heap_lt h3))
      have h5 : w16.heap[w1.heap.size]? = some (.cells (arrC R1) 22 (0, 0)) := hS.old h5 (Nat.ne_of_lt (heap_lt h5))
      have h7 := xh7
      have hBw16 : Hid (Below w.heap.size w w16) := Lib.hid (hBw2.out.trans (hS.below (by omega) hBw2.out.size))
      clear hS
      go_wp2_with fail
      go_meet
      exact ⟨rfl, Lib.hid h2, Lib.hid h3, Lib.hid h5, Lib.hid hBw16.out, Lib.hid (show w2.heap.size ≤ w16.heap.size by omega)⟩
  case rest =>
    obtain ⟨rfl, Hh2, Hh3, Hh5, hBw18, Hsz18⟩ := hcut
    obtain ⟨w18, rfl⟩ : ∃ u : World, u = wc := ⟨_, rfl⟩
    have h2 := Hh2.out
    have h3 := Hh3.out
    have h5 := Hh5.out
    have hsz18 := Hsz18.out
    go_wp2_with (first
      | ((with_reducible refine at_dst 25 ?_); refine wpList_load_row rfl 22 _ rfl (w.heap.size) rfl 22 (arrC X) (0, 0) _ h2 under32 rfl (info32_of (arrC X) (arrC_size _)) ?_))
    refine (isZero_false X TX HTX hzx _).mono ?_
    rintro e w19 ⟨rfl, hC19⟩
    have hs19 : w18.heap.size ≤ w19.heap.size := by have := hC19.size; (try simp only [alloc_size, setRow_size] at this); omega
    replace h2 : w19.heap[w.heap.size]? = some (.cells (arrC X) 22 (0, 0)) := (heap_call hC19 h2)
    replace h3 : w19.heap[w.heap.size + 1]? = some (.cells (arrC Y) 22 (0, 0)) := (heap_call hC19 h3)
    replace h5 : w19.heap[w1.heap.size]? = some (.cells (arrC R1) 22 (0, 0)) := (heap_call hC19 h5)
    have hBw19 : Hid (Below w.heap.size w w19) := Lib.hid (below_call hBw18.out hC19)
    clear hC19
    go_wp2_with (first
      | ((with_reducible refine at_dst 28 ?_); refine load_guarded rfl 22 _ rfl (w.heap.size + 1) rfl 22 (arrC Y) (0, 0) _ h3 under32 rfl (info32_of (arrC Y) (arrC_size _)) ?_))
    refine (isZero_true Y TY HTY hzy _).mono ?_
    rintro e w20 ⟨rfl, hC20⟩
    have hs20 : w19.heap.size ≤ w20.heap.size := by have := hC20.size; (try simp only [alloc_size, setRow_size] at this); omega
    replace h2 : w20.heap[w.heap.size]? = some (.cells (arrC X) 22 (0, 0)) := (heap_call hC20 h2)
    replace h3 : w20.heap[w.heap.size + 1]? = some (.cells (arrC Y) 22 (0, 0)) := (heap_call hC20 h3)
    replace h5 : w20.heap[w1.heap.size]? = some (.cells (arrC R1) 22 (0, 0)) := (heap_call hC20 h5)
    have hBw20 : Hid (Below w.heap.size w w20) := Lib.hid (below_call hBw19.out hC20)
    clear hC20
    go_wp2_with fail
    refine (number_vv 1 (by omega) _).mono ?_
    rintro e w21 ⟨rfl, hC21⟩
    have hs21 : w20.heap.size ≤ w21.heap.size := by have := hC21.size; (try simp only [alloc_size, setRow_size] at this); omega
    replace h2 : w21.heap[w.heap.size]? = some (.cells (arrC X) 22 (0, 0)) := (heap_call hC21 h2)
    replace h3 : w21.heap[w.heap.size + 1]? = some (.cells (arrC Y) 22 (0, 0)) := (heap_call hC21 h3)
    replace h5 : w21.heap[w1.heap.size]? = some (.cells (arrC R1) 22 (0, 0)) := (heap_call hC21 h5)
    have hBw21 : Hid (Below w.heap.size w w21) := Lib.hid (below_call hBw20.out hC21)
    clear hC21
    go_wp2_with fail
    refine (number_vv 1 (by omega) _).mono ?_
    rintro e w22 ⟨rfl, hC22⟩
    have hs22 : w21.heap.size ≤ w22.heap.size := by have := hC22.size; (try simp only [alloc_size, setRow_size] at this); omega
    replace h2 : w22.heap[w.heap.size]? = some (.cells (arrC X) 22 (0, 0)) := (heap_call hC22 h2)
    replace h3 : w22.heap[w.heap.size + 1]? = some (.cells (arrC Y) 22 (0, 0)) := (heap_call hC22 h3)
    replace h5 : w22.heap[w1.heap.size]? = some (.cells (arrC R1) 22 (0, 0)) := (heap_call hC22 h5)
    have hBw22 : Hid (Below w.heap.size w w22) := Lib.hid (below_call hBw21.out hC22)
    clear hC22
    go_wp2_with fail
    refine (FieldSqrt_to 1 1 R3 1 HR3 HZ3 B _ (hD0.later hBw22.out) (hD1.later hBw22.out)).mono ?_
    rintro e w23 ⟨rfl, hC23⟩
    have hs23 : w22.heap.size ≤ w23.heap.size := by have := hC23.size; (try simp only [alloc_size, setRow_size] at this); omega
    replace h2 : w23.heap[w.heap.size]? = some (.cells (arrC X) 22 (0, 0)) := (heap_call hC23 h2)
    replace h3 : w23.heap[w.heap.size + 1]? = some (.cells (arrC Y) 22 (0, 0)) := (heap_call hC23 h3)
    replace h5 : w23.heap[w1.heap.size]? = some (.cells (arrC R1) 22 (0, 0)) := (heap_call hC23 h5)
    have hBw23 : Hid (Below w.heap.size w w23) := Lib.hid (below_call hBw22.out hC23)
    clear hC23
    go_wp2_with (first
      | ((with_reducible refine at_store 9 ?_); refine wpList_store_row rfl 22 _ _ rfl (w23.heap.size) (arrC R3) rfl rfl 22 (zL) (heap_new_at _ _ _ rfl) (info32_of (arrC R3) (arrC_size _)) (zL_size.trans (arrC_size _).symm) (arrC_one _) ?_))
    go_ret
    exact ⟨rfl, (below_setRow (below_alloc hBw23.out _) (by omega) _)⟩

set_option maxHeartbeats 4000000 in
theorem SqOr_yes (X Y : Nat) (h : Hid (¬ valN X = 0 ∧ ¬ valN Y = 0 ∧ sqW (valN X) (valN Y) = true)) (B : Nat) (w : World) (hD0 : Var 1 z5 B w) (hD1 : Var 0 i5 B w) :
    Calls Tryd.prog 3 #[.agg (arrC X), .agg (arrC Y)] w fun e w' => e = .returned (.bool true) ∧ Below w.heap.size w w' := by
  obtain ⟨A, qA⟩ : ∃ u : Nat, u = (valN X + valN X) % pF := ⟨_, rfl⟩
  have HA := Lib.hid qA; clear qA
  obtain ⟨R1, qR1⟩ : ∃ u : Nat, u = sqR (valN X) (valN Y) := ⟨_, rfl⟩
  have HR1 := Lib.hid qR1; clear qR1
  obtain ⟨R2, qR2⟩ : ∃ u : Nat, u = sqR (valN A) (valN Y) := ⟨_, rfl⟩
  have HR2 := Lib.hid qR2; clear qR2
  obtain ⟨R3, qR3⟩ : ∃ u : Nat, u = sqR (valN 1) (valN 1) := ⟨_, rfl⟩
  have HR3 := Lib.hid qR3; clear qR3
  obtain ⟨TX, qTX⟩ : ∃ u : Nat, u = valN X := ⟨_, rfl⟩
  have HTX := Lib.hid qTX; clear qTX
  obtain ⟨TY, qTY⟩ : ∃ u : Nat, u = valN Y := ⟨_, rfl⟩
  have HTY := Lib.hid qTY; clear qTY
  have vX := valN_lt X; have vY := valN_lt Y
  have vA : valN A = A := valN_of_lt _ (by rw [HA.out]; exact mod_lt_p _)
  have v1 : valN 1 = 1 := valN_of_lt _ (by unfold pF; omega)
  have HZ3 : Hid ((1 : Int) = if sqW (valN 1) (valN 1) then 1 else 0) := Lib.hid (by rw [v1, one_way]; rfl)
  have e1 : sqW (valN X) (valN Y) = true := by exact h.out.2.2
  have e2 : sqW (valN A) (valN Y) = false := by rw [vA, HA.out, sq_two _ _ vX vY h.out.1 h.out.2.1, h.out.2.2]; rfl
  have HZ1 : Hid ((1 : Int) = if sqW (valN X) (valN Y) then 1 else 0) := Lib.hid (by rw [e1]; rfl)
  have HZ2 : Hid ((0 : Int) = if sqW (valN A) (valN Y) then 1 else 0) := Lib.hid (by rw [e2]; rfl)
  have hzx : Hid (¬ TX = 0) := Lib.hid (by rw [HTX.out]; exact h.out.1)
  have hzy : Hid (¬ TY = 0) := Lib.hid (by rw [HTY.out]; exact h.out.2.1)
  clear h vX vY vA v1 e1 e2
  have hBl := hD0.1
  go_enter Tryd.func3, Tryd.ntmps3
  go_wp2_with (first
    | ((with_reducible refine at_dst 12 ?_); refine wpList_load_row rfl 22 _ rfl (w.heap.size) rfl 22 (arrC X) (0, 0) _ (heap_old _ (heap_new_at _ _ _ rfl)) under32 rfl (info32_of (arrC X) (arrC_size _)) ?_)
    | ((with_reducible refine at_dst 13 ?_); refine wpList_load_row rfl 22 _ rfl (w.heap.size + 1) rfl 22 (arrC Y) (0, 0) _ (heap_new_at _ _ _ (by simp only [alloc_size, setRow_size])) under32 rfl (info32_of (arrC Y) (arrC_size _)) ?_))
  refine (FieldSqrt_to X Y R1 1 HR1 HZ1 B _ (hD0.later (below_alloc (below_alloc (Below.refl _ w) _) _)) (hD1.later (below_alloc (below_alloc (Below.refl _ w) _) _))).mono ?_
  rintro e w1 ⟨rfl, hC1⟩
  have hs1 : w.heap.size + 1 + 1 ≤ w1.heap.size := by have := hC1.size; (try simp only [alloc_size, setRow_size] at this); omega
  replace h2 : w1.heap[w.heap.size]? = some (.cells (arrC X) 22 (0, 0)) := (heap_call hC1 (heap_old _ (heap_new_at _ _ _ rfl)))
  replace h3 : w1.heap[w.heap.size + 1]? = some (.cells (arrC Y) 22 (0, 0)) := (heap_call hC1 (heap_new_at _ _ _ (by simp only [alloc_size, setRow_size])))
  have hBw1 : Hid (Below w.heap.size w w1) := Lib.hid (below_call (below_alloc (below_alloc (Below.refl _ w) _) _) hC1)
  clear hC1
  go_wp2_with (first
    | ((with_reducible refine at_store 5 ?_); refine wpList_store_row rfl 22 _ _ rfl (w1.heap.size) (arrC R1) rfl rfl 22 (zL) (heap_new_at _ _ _ rfl) (info32_of (arrC R1) (arrC_size _)) (zL_size.trans (arrC_size _).symm) (arrC_one _) ?_))
  refine wp_named ?_
  intro w2 ew2
  have hs2 : w1.heap.size + 1 ≤ w2.heap.size := by rw [ew2]; (try simp only [alloc_size, setRow_size]); omega
  replace h2 : w2.heap[w.heap.size]? = some (.cells (arrC X) 22 (0, 0)) := by rw [ew2]; exact (heap_row _ (by omega) (heap_old _ h2))
  replace h3 : w2.heap[w.heap.size + 1]? = some (.cells (arrC Y) 22 (0, 0)) := by rw [ew2]; exact (heap_row _ (by omega) (heap_old _ h3))
  replace h5 : w2.heap[w1.heap.size]? = some (.cells (arrC R1) 22 (0, 0)) := by rw [ew2]; exact (setRow_heap _ _ _ _ _ _ (heap_new_at _ _ _ rfl))
  have hBw2 : Hid (Below w.heap.size w w2) := Lib.hid (by rw [ew2]; exact (below_setRow (below_alloc hBw1.out _) (by omega) _))
  clear ew2
  go_cut [8] (fun s8 wx => s8 = .int .i64 0 ∧ Hid (wx.heap[w.heap.size]? = some (.cells (arrC X) 22 (0, 0))) ∧ Hid (wx.heap[w.heap.size + 1]? = some (.cells (arrC Y) 22 (0, 0))) ∧ Hid (wx.heap[w1.heap.size]? = some (.cells (arrC R1) 22 (0, 0))) ∧ Hid (Below w.heap.size w wx) ∧ Hid (w2.heap.size ≤ wx.heap.size))
  case first =>
    refine wp_region_noPanic ?_
    refine wp_region_held_drew (S := Keep (w2.heap.size) w2) (by kernel_rfl) (Keep.start _ _) ?_
    intro hS
    obtain ⟨w3, ed⟩ : ∃ u : World, u = w2.drew := ⟨_, rfl⟩
    rw [← ed] at hS ⊢
    have xh2 : w3.heap[w.heap.size]? = some (.cells (arrC X) 22 (0, 0)) := by rw [ed]; exact h2
    have xh3 : w3.heap[w.heap.size + 1]? = some (.cells (arrC Y) 22 (0, 0)) := by rw [ed]; exact h3
    have xh5 : w3.heap[w1.heap.size]? = some (.cells (arrC R1) 22 (0, 0)) := by rw [ed]; exact h5
    clear ed
    have hSz := hS.size
    clear xh2
    clear xh3
    clear xh5
    refine takeAt (i := 0) (v := .agg (arrC X)) rfl (some 18) rfl (by kernel_rfl) (by kernel_rfl) (by kernel_rfl) (fun _ _ _ h => h) (take_row rfl _ _ rfl (w.heap.size) rfl _ _ _ h2 (Nat.ne_of_lt (heap_lt h2)) under32 rfl (info32_of (arrC X) (arrC_size _))) hS ?_
    simp only [Act.put, List.setIfInBounds_toArray, List.set_cons_zero, List.set_cons_succ]
    refine takeAt (i := 1) (v := .agg (arrC X)) rfl (some 19) rfl (by kernel_rfl) (by kernel_rfl) (by kernel_rfl) (fun _ _ _ h => h) (take_row rfl _ _ rfl (w.heap.size) rfl _ _ _ h2 (Nat.ne_of_lt (heap_lt h2)) under32 rfl (info32_of (arrC X) (arrC_size _))) hS ?_
    simp only [Act.put, List.setIfInBounds_toArray, List.set_cons_zero, List.set_cons_succ]
    refine takeAt (i := 3) (v := .agg (arrC Y)) rfl (some 21) rfl (by kernel_rfl) (by kernel_rfl) (by kernel_rfl) (fun _ _ _ h => h) (take_row rfl _ _ rfl (w.heap.size + 1) rfl _ _ _ h3 (Nat.ne_of_lt (heap_lt h3)) under32 rfl (info32_of (arrC Y) (arrC_size _))) hS ?_
    simp only [Act.put, List.setIfInBounds_toArray, List.set_cons_zero, List.set_cons_succ]
    refine wpAnyH_ready (rs := [2, 8]) (by kernel_rfl) (by simp) ?_
    refine (AllReadyH.cons rfl ?_ (AllReadyH.cons rfl ?_ AllReadyH.nil))
    · intro K hK
      refine ready_call rfl (some 20) rfl 6 #[.agg (arrC X), .agg (arrC X)] (by go_simp) ?_
      refine (FieldAdd_to X X A HA _).mono ?_
      rintro e w4 ⟨rfl, hC⟩
      refine ⟨_, rfl, ?_⟩
      simp only [Act.put, List.setIfInBounds_toArray, List.set_cons_zero, List.set_cons_succ]
      have hS := hS.call hC
      have hz4 := hC.size
      clear hC
      refine hK.out _ _ hS ?_
      clear hK K
      intro _
      have hSz := hS.size
      refine wpAnyH_ready (rs := [4, 8]) (by kernel_rfl) (by simp) ?_
      refine (AllReadyH.cons rfl ?_ (AllReadyH.cons rfl ?_ AllReadyH.nil))
      · intro K hK
        refine ready_call rfl (some 22) rfl 5 #[.agg (arrC A), .agg (arrC Y)] (by go_simp) ?_
        refine (FieldSqrt_to A Y R2 0 HR2 HZ2 B _ (hD0.later (hBw2.out.trans (hS.below (by omega) hBw2.out.size))) (hD1.later (hBw2.out.trans (hS.below (by omega) hBw2.out.size)))).mono ?_
        rintro e w5 ⟨rfl, hC⟩
        refine ⟨_, rfl, ?_⟩
        simp only [Act.put, List.setIfInBounds_toArray, List.set_cons_zero, List.set_cons_succ]
        have hS := hS.call hC
        have hz5 := hC.size
        clear hC
        refine hK.out _ _ hS ?_
        clear hK K
        intro _
        have hSz := hS.size
        refine takeAt (i := 5) (v := .tuple #[.agg (arrC R2), .int .i64 0]) rfl (some 17) rfl (by kernel_rfl) (by kernel_rfl) (by kernel_rfl) (fun _ _ _ h => h) (take_run rfl (fun _ _ => by go_simp)) hS ?_
        simp only [Act.put, List.setIfInBounds_toArray, List.set_cons_zero, List.set_cons_succ]
        refine takeAt (i := 6) (v := .agg (arrC R2)) rfl (some 23) rfl (by kernel_rfl) (by kernel_rfl) (by kernel_rfl) (fun _ _ _ h => h) (take_run rfl (fun _ _ => by go_simp)) hS ?_
        simp only [Act.put, List.setIfInBounds_toArray, List.set_cons_zero, List.set_cons_succ]
        refine takeAt (i := 7) (v := .int .i64 0) rfl (some 24) rfl (by kernel_rfl) (by kernel_rfl) (by kernel_rfl) (fun _ _ _ h => h) (take_run rfl (fun _ _ => by go_simp)) hS ?_
        simp only [Act.put, List.setIfInBounds_toArray, List.set_cons_zero, List.set_cons_succ]
        refine wpAnyH_ready (rs := [8]) (by kernel_rfl) (by simp) ?_
        refine (AllReadyH.cons rfl ?_ AllReadyH.nil)
        intro K hK
        refine ready_run rfl (some 7) rfl (.pointer (some ⟨w5.heap.size, 0, none⟩)) (w5.alloc (.cells zL 22)) (by go_simp; try rfl) ?_
        simp only [Act.put, List.setIfInBounds_toArray, List.set_cons_zero, List.set_cons_succ]
        obtain ⟨w6, ea⟩ : ∃ u : World, u = w5.alloc (.cells zL 22) := ⟨_, rfl⟩
        rw [← ea]
        have hS := hS.alloc (.cells zL 22)
        rw [← ea] at hS
        have hz6 : w5.heap.size + 1 ≤ w6.heap.size := by rw [ea, alloc_size]; omega
        have hy6 : w2.heap.size ≤ w5.heap.size := hSz
        have xh7 : w6.heap[w5.heap.size]? = some (.cells (zL) 22 (0, 0)) := by rw [ea]; exact heap_new_at _ _ _ rfl
        clear ea
        refine hK.out _ _ hS ?_
        clear hK K
        intro _
        have hSz := hS.size
        refine wpAnyH_ready (rs := [9]) (by kernel_rfl) (by simp) ?_
        refine (AllReadyH.cons rfl ?_ AllReadyH.nil)
        intro K hK
        rw [if_pos (by rfl)]
        refine wp_store_row 22 _ _ rfl (w5.heap.size) (arrC R2) rfl rfl 22 (zL) xh7 (info32_of (arrC R2) (arrC_size _)) (zL_size.trans (arrC_size _).symm) (arrC_one _) ?_
        refine put_at (none) rfl ?_
        simp only [Act.put, List.setIfInBounds_toArray, List.set_cons_zero, List.set_cons_succ]
        have xh7 : (w6.setRow (w5.heap.size) (arrC R2)).heap[w5.heap.size]? = some (.cells (arrC R2) 22 (0, 0)) := (setRow_heap _ _ _ _ _ _ xh7)
        have hS := hS.storeNew (arrC R2) (show w2.heap.size ≤ w5.heap.size by omega)
        generalize w6.setRow (w5.heap.size) (arrC R2) = w7 at *
        refine hK.out _ _ hS ?_
        clear hK K
        intro _
        have hSz := hS.size
        refine takeAt (i := 10) (v := .int .i64 0) rfl (some 8) rfl (by kernel_rfl) (by kernel_rfl) (by kernel_rfl) (fun _ _ _ h => h) (take_run rfl (fun _ _ => by go_simp)) hS ?_
        simp only [Act.put, List.setIfInBounds_toArray, List.set_cons_zero, List.set_cons_succ]
        refine wpAnyH_done (by kernel_rfl) ?_ _
        refine NoPanic.normal ?_
        have hsz := hS.size
        have h2 : w7.heap[w.heap.size]? = some (.cells (arrC X) 22 (0, 0)) := hS.old h2 (Nat.ne_of_lt (heap_lt h2))
        have h3 : w7.heap[w.heap.size + 1]? = some (.cells (arrC Y) 22 (0, 0)) := hS.old h3 (Nat.ne_of_lt (heap_lt h3))
        have h5 : w7.heap[w1.heap.size]? = some (.cells (arrC R1) 22 (0, 0)) := hS.old h5 (Nat.ne_of_lt (heap_lt h5))
        have h7 := xh7
        have hBw7 : Hid (Below w.heap.size w w7) := Lib.hid (hBw2.out.trans (hS.below (by omega) hBw2.out.size))
        clear hS
        go_wp2_with fail
        go_meet
        exact ⟨rfl, Lib.hid h2, Lib.hid h3, Lib.hid h5, Lib.hid hBw7.out, Lib.hid (show w2.heap.size ≤ w7.heap.size by omega)⟩
      · intro K hK
        refine ready_run rfl (some 7) rfl (.pointer (some ⟨w4.heap.size, 0, none⟩)) (w4.alloc (.cells zL 22)) (by go_simp; try rfl) ?_
        simp only [Act.put, List.setIfInBounds_toArray, List.set_cons_zero, List.set_cons_succ]
        obtain ⟨w9, ea⟩ : ∃ u : World, u = w4.alloc (.cells zL 22) := ⟨_, rfl⟩
        rw [← ea]
        have hS := hS.alloc (.cells zL 22)
        rw [← ea] at hS
        have hz9 : w4.heap.size + 1 ≤ w9.heap.size := by rw [ea, alloc_size]; omega
        have hy9 : w2.heap.size ≤ w4.heap.size := hSz
        have xh7 : w9.heap[w4.heap.size]? = some (.cells (zL) 22 (0, 0)) := by rw [ea]; exact heap_new_at _ _ _ rfl
        clear ea
        refine hK.out _ _ hS ?_
        clear hK K
        intro _
        have hSz := hS.size
        refine wpAnyH_ready (rs := [4]) (by kernel_rfl) (by simp) ?_
        refine (AllReadyH.cons rfl ?_ AllReadyH.nil)
        intro K hK
        refine ready_call rfl (some 22) rfl 5 #[.agg (arrC A), .agg (arrC Y)] (by go_simp) ?_
        refine (FieldSqrt_to A Y R2 0 HR2 HZ2 B _ (hD0.later (hBw2.out.trans (hS.below (by omega) hBw2.out.size))) (hD1.later (hBw2.out.trans (hS.below (by omega) hBw2.out.size)))).mono ?_
        rintro e w10 ⟨rfl, hC⟩
        refine ⟨_, rfl, ?_⟩
        simp only [Act.put, List.setIfInBounds_toArray, List.set_cons_zero, List.set_cons_succ]
        have xh7 : w10.heap[w4.heap.size]? = some (.cells (zL) 22 (0, 0)) := (heap_call hC xh7)
        have hS := hS.call hC
        have hz10 := hC.size
        clear hC
        refine hK.out _ _ hS ?_
        clear hK K
        intro _
        have hSz := hS.size
        refine takeAt (i := 5) (v := .tuple #[.agg (arrC R2), .int .i64 0]) rfl (some 17) rfl (by kernel_rfl) (by kernel_rfl) (by kernel_rfl) (fun _ _ _ h => h) (take_run rfl (fun _ _ => by go_simp)) hS ?_
        simp only [Act.put, List.setIfInBounds_toArray, List.set_cons_zero, List.set_cons_succ]
        refine takeAt (i := 6) (v := .agg (arrC R2)) rfl (some 23) rfl (by kernel_rfl) (by kernel_rfl) (by kernel_rfl) (fun _ _ _ h => h) (take_run rfl (fun _ _ => by go_simp)) hS ?_
        simp only [Act.put, List.setIfInBounds_toArray, List.set_cons_zero, List.set_cons_succ]
        refine takeAt (i := 7) (v := .int .i64 0) rfl (some 24) rfl (by kernel_rfl) (by kernel_rfl) (by kernel_rfl) (fun _ _ _ h => h) (take_run rfl (fun _ _ => by go_simp)) hS ?_
        simp only [Act.put, List.setIfInBounds_toArray, List.set_cons_zero, List.set_cons_succ]
        refine wpAnyH_ready (rs := [9]) (by kernel_rfl) (by simp) ?_
        refine (AllReadyH.cons rfl ?_ AllReadyH.nil)
        intro K hK
        rw [if_pos (by rfl)]
        refine wp_store_row 22 _ _ rfl (w4.heap.size) (arrC R2) rfl rfl 22 (zL) xh7 (info32_of (arrC R2) (arrC_size _)) (zL_size.trans (arrC_size _).symm) (arrC_one _) ?_
        refine put_at (none) rfl ?_
        simp only [Act.put, List.setIfInBounds_toArray, List.set_cons_zero, List.set_cons_succ]
        have xh7 : (w10.setRow (w4.heap.size) (arrC R2)).heap[w4.heap.size]? = some (.cells (arrC R2) 22 (0, 0)) := (setRow_heap _ _ _ _ _ _ xh7)
        have hS := hS.storeNew (arrC R2) (show w2.heap.size ≤ w4.heap.size by omega)
        generalize w10.setRow (w4.heap.size) (arrC R2) = w11 at *
        refine hK.out _ _ hS ?_
        clear hK K
        intro _
        have hSz := hS.size
        refine takeAt (i := 10) (v := .int .i64 0) rfl (some 8) rfl (by kernel_rfl) (by kernel_rfl) (by kernel_rfl) (fun _ _ _ h => h) (take_run rfl (fun _ _ => by go_simp)) hS ?_
        simp only [Act.put, List.setIfInBounds_toArray, List.set_cons_zero, List.set_cons_succ]
        refine wpAnyH_done (by kernel_rfl) ?_ _
        refine NoPanic.normal ?_
        have hsz := hS.size
        have h2 : w11.heap[w.heap.size]? = some (.cells (arrC X) 22 (0, 0)) := hS.old h2 (Nat.ne_of_lt (heap_lt h2))
        have h3 : w11.heap[w.heap.size + 1]? = some (.cells (arrC Y) 22 (0, 0)) := hS.old h3 (Nat.ne_of_lt (heap_lt h3))
        have h5 : w11.heap[w1.heap.size]? = some (.cells (arrC R1) 22 (0, 0)) := hS.old h5 (Nat.ne_of_lt (heap_lt h5))
        have h7 := xh7
        have hBw11 : Hid (Below w.heap.size w w11) := Lib.hid (hBw2.out.trans (hS.below (by omega) hBw2.out.size))
        clear hS
        go_wp2_with fail
        go_meet
        exact ⟨rfl, Lib.hid h2, Lib.hid h3, Lib.hid h5, Lib.hid hBw11.out, Lib.hid (show w2.heap.size ≤ w11.heap.size by omega)⟩
    · intro K hK
      refine ready_run rfl (some 7) rfl (.pointer (some ⟨w3.heap.size, 0, none⟩)) (w3.alloc (.cells zL 22)) (by go_simp; try rfl) ?_
      simp only [Act.put, List.setIfInBounds_toArray, List.set_cons_zero, List.set_cons_succ]
      obtain ⟨w13, ea⟩ : ∃ u : World, u = w3.alloc (.cells zL 22) := ⟨_, rfl⟩
      rw [← ea]
      have hS := hS.alloc (.cells zL 22)
      rw [← ea] at hS
      have hz13 : w3.heap.size + 1 ≤ w13.heap.size := by rw [ea, alloc_size]; omega
      have hy13 : w2.heap.size ≤ w3.heap.size := hSz
      have xh7 : w13.heap[w3.heap.size]? = some (.cells (zL) 22 (0, 0)) := by rw [ea]; exact heap_new_at _ _ _ rfl
      clear ea
      refine hK.out _ _ hS ?_
      clear hK K
      intro _
      have hSz := hS.size
      refine wpAnyH_ready (rs := [2]) (by kernel_rfl) (by simp) ?_
      refine (AllReadyH.cons rfl ?_ AllReadyH.nil)
      intro K hK
      refine ready_call rfl (some 20) rfl 6 #[.agg (arrC X), .agg (arrC X)] (by go_simp) ?_
      refine (FieldAdd_to X X A HA _).mono ?_
      rintro e w14 ⟨rfl, hC⟩
      refine ⟨_, rfl, ?_⟩
      simp only [Act.put, List.setIfInBounds_toArray, List.set_cons_zero, List.set_cons_succ]
      have xh7 : w14.heap[w3.heap.size]? = some (.cells (zL) 22 (0, 0)) := (heap_call hC xh7)
      have hS := hS.call hC
      have hz14 := hC.size
      clear hC
      refine hK.out _ _ hS ?_
      clear hK K
      intro _
      have hSz := hS.size
      refine wpAnyH_ready (rs := [4]) (by kernel_rfl) (by simp) ?_
      refine (AllReadyH.cons rfl ?_ AllReadyH.nil)
      intro K hK
      refine ready_call rfl (some 22) rfl 5 #[.agg (arrC A), .agg (arrC Y)] (by go_simp) ?_
      refine (FieldSqrt_to A Y R2 0 HR2 HZ2 B _ (hD0.later (hBw2.out.trans (hS.below (by omega) hBw2.out.size))) (hD1.later (hBw2.out.trans (hS.below (by omega) hBw2.out.size)))).mono ?_
      rintro e w15 ⟨rfl, hC⟩
      refine ⟨_, rfl, ?_⟩
      simp only [Act.put, List.setIfInBounds_toArray, List.set_cons_zero, List.set_cons_succ]
      have xh7 : w15.heap[w3.heap.size]? = some (.cells (zL) 22 (0, 0)) := (heap_call hC xh7)
      have hS := hS.call hC
      have hz15 := hC.size
      clear hC
      refine hK.out _ _ hS ?_
      clear hK K
      intro _
      have hSz := hS.size
      refine takeAt (i := 5) (v := .tuple #[.agg (arrC R2), .int .i64 0]) rfl (some 17) rfl (by kernel_rfl) (by kernel_rfl) (by kernel_rfl) (fun _ _ _ h => h) (take_run rfl (fun _ _ => by go_simp)) hS ?_
      simp only [Act.put, List.setIfInBounds_toArray, List.set_cons_zero, List.set_cons_succ]
      refine takeAt (i := 6) (v := .agg (arrC R2)) rfl (some 23) rfl (by kernel_rfl) (by kernel_rfl) (by kernel_rfl) (fun _ _ _ h => h) (take_run rfl (fun _ _ => by go_simp)) hS ?_
      simp only [Act.put, List.setIfInBounds_toArray, List.set_cons_zero, List.set_cons_succ]
      refine takeAt (i := 7) (v := .int .i64 0) rfl (some 24) rfl (by kernel_rfl) (by kernel_rfl) (by kernel_rfl) (fun _ _ _ h => h) (take_run rfl (fun _ _ => by go_simp)) hS ?_
      simp only [Act.put, List.setIfInBounds_toArray, List.set_cons_zero, List.set_cons_succ]
      refine wpAnyH_ready (rs := [9]) (by kernel_rfl) (by simp) ?_
      refine (AllReadyH.cons rfl ?_ AllReadyH.nil)
      intro K hK
      rw [if_pos (by rfl)]
      refine wp_store_row 22 _ _ rfl (w3.heap.size) (arrC R2) rfl rfl 22 (zL) xh7 (info32_of (arrC R2) (arrC_size _)) (zL_size.trans (arrC_size _).symm) (arrC_one _) ?_
      refine put_at (none) rfl ?_
      simp only [Act.put, List.setIfInBounds_toArray, List.set_cons_zero, List.set_cons_succ]
      have xh7 : (w15.setRow (w3.heap.size) (arrC R2)).heap[w3.heap.size]? = some (.cells (arrC R2) 22 (0, 0)) := (setRow_heap _ _ _ _ _ _ xh7)
      have hS := hS.storeNew (arrC R2) (show w2.heap.size ≤ w3.heap.size by omega)
      generalize w15.setRow (w3.heap.size) (arrC R2) = w16 at *
      refine hK.out _ _ hS ?_
      clear hK K
      intro _
      have hSz := hS.size
      refine takeAt (i := 10) (v := .int .i64 0) rfl (some 8) rfl (by kernel_rfl) (by kernel_rfl) (by kernel_rfl) (fun _ _ _ h => h) (take_run rfl (fun _ _ => by go_simp)) hS ?_
      simp only [Act.put, List.setIfInBounds_toArray, List.set_cons_zero, List.set_cons_succ]
      refine wpAnyH_done (by kernel_rfl) ?_ _
      refine NoPanic.normal ?_
      have hsz := hS.size
      have h2 : w16.heap[w.heap.size]? = some (.cells (arrC X) 22 (0, 0)) := hS.old h2 (Nat.ne_of_lt (heap_lt h2))
      have h3 : w16.heap[w.heap.size + 1]? = some (.cells (arrC Y) 22 (0, 0)) := hS.old h3 (Nat.ne_of_lt (heap_lt h3))
      have h5 : w16.heap[w1.heap.size]? = some (.cells (arrC R1) 22 (0, 0)) := hS.old h5 (Nat.ne_of_lt (heap_lt h5))
      have h7 := xh7
      have hBw16 : Hid (Below w.heap.size w w16) := Lib.hid (hBw2.out.trans (hS.below (by omega) hBw2.out.size))
      clear hS
      go_wp2_with fail
      go_meet
      exact ⟨rfl, Lib.hid h2, Lib.hid h3, Lib.hid h5, Lib.hid hBw16.out, Lib.hid (show w2.heap.size ≤ w16.heap.size by omega)⟩
  case rest =>
    obtain ⟨rfl, Hh2, Hh3, Hh5, hBw18, Hsz18⟩ := hcut
    obtain ⟨w18, rfl⟩ : ∃ u : World, u = wc := ⟨_, rfl⟩
    have h2 := Hh2.out
    have h3 := Hh3.out
    have h5 := Hh5.out
    have hsz18 := Hsz18.out
    go_wp2_with (first
      | ((with_reducible refine at_dst 25 ?_); refine wpList_load_row rfl 22 _ rfl (w.heap.size) rfl 22 (arrC X) (0, 0) _ h2 under32 rfl (info32_of (arrC X) (arrC_size _)) ?_))
    refine (isZero_false X TX HTX hzx _).mono ?_
    rintro e w19 ⟨rfl, hC19⟩
    have hs19 : w18.heap.size ≤ w19.heap.size := by have := hC19.size; (try simp only [alloc_size, setRow_size] at this); omega
    replace h2 : w19.heap[w.heap.size]? = some (.cells (arrC X) 22 (0, 0)) := (heap_call hC19 h2)
    replace h3 : w19.heap[w.heap.size + 1]? = some (.cells (arrC Y) 22 (0, 0)) := (heap_call hC19 h3)
    replace h5 : w19.heap[w1.heap.size]? = some (.cells (arrC R1) 22 (0, 0)) := (heap_call hC19 h5)
    have hBw19 : Hid (Below w.heap.size w w19) := Lib.hid (below_call hBw18.out hC19)
    clear hC19
    go_wp2_with (first
      | ((with_reducible refine at_dst 28 ?_); refine load_guarded rfl 22 _ rfl (w.heap.size + 1) rfl 22 (arrC Y) (0, 0) _ h3 under32 rfl (info32_of (arrC Y) (arrC_size _)) ?_))
    refine (isZero_false Y TY HTY hzy _).mono ?_
    rintro e w20 ⟨rfl, hC20⟩
    have hs20 : w19.heap.size ≤ w20.heap.size := by have := hC20.size; (try simp only [alloc_size, setRow_size] at this); omega
    replace h2 : w20.heap[w.heap.size]? = some (.cells (arrC X) 22 (0, 0)) := (heap_call hC20 h2)
    replace h3 : w20.heap[w.heap.size + 1]? = some (.cells (arrC Y) 22 (0, 0)) := (heap_call hC20 h3)
    replace h5 : w20.heap[w1.heap.size]? = some (.cells (arrC R1) 22 (0, 0)) := (heap_call hC20 h5)
    have hBw20 : Hid (Below w.heap.size w w20) := Lib.hid (below_call hBw19.out hC20)
    clear hC20
    go_wp2
    go_ret
    exact ⟨rfl, hBw20.out⟩

set_option maxHeartbeats 4000000 in
theorem SqOr_no (X Y : Nat) (h : Hid (¬ valN X = 0 ∧ ¬ valN Y = 0 ∧ sqW (valN X) (valN Y) = false)) (B : Nat) (w : World) (hD0 : Var 1 z5 B w) (hD1 : Var 0 i5 B w) :
    Calls Tryd.prog 3 #[.agg (arrC X), .agg (arrC Y)] w fun e w' => e = .returned (.bool true) ∧ Below w.heap.size w w' := by
  obtain ⟨A, qA⟩ : ∃ u : Nat, u = (valN X + valN X) % pF := ⟨_, rfl⟩
  have HA := Lib.hid qA; clear qA
  obtain ⟨R1, qR1⟩ : ∃ u : Nat, u = sqR (valN X) (valN Y) := ⟨_, rfl⟩
  have HR1 := Lib.hid qR1; clear qR1
  obtain ⟨R2, qR2⟩ : ∃ u : Nat, u = sqR (valN A) (valN Y) := ⟨_, rfl⟩
  have HR2 := Lib.hid qR2; clear qR2
  obtain ⟨R3, qR3⟩ : ∃ u : Nat, u = sqR (valN 1) (valN 1) := ⟨_, rfl⟩
  have HR3 := Lib.hid qR3; clear qR3
  obtain ⟨TX, qTX⟩ : ∃ u : Nat, u = valN X := ⟨_, rfl⟩
  have HTX := Lib.hid qTX; clear qTX
  obtain ⟨TY, qTY⟩ : ∃ u : Nat, u = valN Y := ⟨_, rfl⟩
  have HTY := Lib.hid qTY; clear qTY
  have vX := valN_lt X; have vY := valN_lt Y
  have vA : valN A = A := valN_of_lt _ (by rw [HA.out]; exact mod_lt_p _)
  have v1 : valN 1 = 1 := valN_of_lt _ (by unfold pF; omega)
  have HZ3 : Hid ((1 : Int) = if sqW (valN 1) (valN 1) then 1 else 0) := Lib.hid (by rw [v1, one_way]; rfl)
  have e1 : sqW (valN X) (valN Y) = false := by exact h.out.2.2
  have e2 : sqW (valN A) (valN Y) = true := by rw [vA, HA.out, sq_two _ _ vX vY h.out.1 h.out.2.1, h.out.2.2]; rfl
  have HZ1 : Hid ((0 : Int) = if sqW (valN X) (valN Y) then 1 else 0) := Lib.hid (by rw [e1]; rfl)
  have HZ2 : Hid ((1 : Int) = if sqW (valN A) (valN Y) then 1 else 0) := Lib.hid (by rw [e2]; rfl)
  have hzx : Hid (¬ TX = 0) := Lib.hid (by rw [HTX.out]; exact h.out.1)
  have hzy : Hid (¬ TY = 0) := Lib.hid (by rw [HTY.out]; exact h.out.2.1)
  clear h vX vY vA v1 e1 e2
  have hBl := hD0.1
  go_enter Tryd.func3, Tryd.ntmps3
  go_wp2_with (first
    | ((with_reducible refine at_dst 12 ?_); refine wpList_load_row rfl 22 _ rfl (w.heap.size) rfl 22 (arrC X) (0, 0) _ (heap_old _ (heap_new_at _ _ _ rfl)) under32 rfl (info32_of (arrC X) (arrC_size _)) ?_)
    | ((with_reducible refine at_dst 13 ?_); refine wpList_load_row rfl 22 _ rfl (w.heap.size + 1) rfl 22 (arrC Y) (0, 0) _ (heap_new_at _ _ _ (by simp only [alloc_size, setRow_size])) under32 rfl (info32_of (arrC Y) (arrC_size _)) ?_))
  refine (FieldSqrt_to X Y R1 0 HR1 HZ1 B _ (hD0.later (below_alloc (below_alloc (Below.refl _ w) _) _)) (hD1.later (below_alloc (below_alloc (Below.refl _ w) _) _))).mono ?_
  rintro e w1 ⟨rfl, hC1⟩
  have hs1 : w.heap.size + 1 + 1 ≤ w1.heap.size := by have := hC1.size; (try simp only [alloc_size, setRow_size] at this); omega
  replace h2 : w1.heap[w.heap.size]? = some (.cells (arrC X) 22 (0, 0)) := (heap_call hC1 (heap_old _ (heap_new_at _ _ _ rfl)))
  replace h3 : w1.heap[w.heap.size + 1]? = some (.cells (arrC Y) 22 (0, 0)) := (heap_call hC1 (heap_new_at _ _ _ (by simp only [alloc_size, setRow_size])))
  have hBw1 : Hid (Below w.heap.size w w1) := Lib.hid (below_call (below_alloc (below_alloc (Below.refl _ w) _) _) hC1)
  clear hC1
  go_wp2_with (first
    | ((with_reducible refine at_store 5 ?_); refine wpList_store_row rfl 22 _ _ rfl (w1.heap.size) (arrC R1) rfl rfl 22 (zL) (heap_new_at _ _ _ rfl) (info32_of (arrC R1) (arrC_size _)) (zL_size.trans (arrC_size _).symm) (arrC_one _) ?_))
  refine wp_named ?_
  intro w2 ew2
  have hs2 : w1.heap.size + 1 ≤ w2.heap.size := by rw [ew2]; (try simp only [alloc_size, setRow_size]); omega
  replace h2 : w2.heap[w.heap.size]? = some (.cells (arrC X) 22 (0, 0)) := by rw [ew2]; exact (heap_row _ (by omega) (heap_old _ h2))
  replace h3 : w2.heap[w.heap.size + 1]? = some (.cells (arrC Y) 22 (0, 0)) := by rw [ew2]; exact (heap_row _ (by omega) (heap_old _ h3))
  replace h5 : w2.heap[w1.heap.size]? = some (.cells (arrC R1) 22 (0, 0)) := by rw [ew2]; exact (setRow_heap _ _ _ _ _ _ (heap_new_at _ _ _ rfl))
  have hBw2 : Hid (Below w.heap.size w w2) := Lib.hid (by rw [ew2]; exact (below_setRow (below_alloc hBw1.out _) (by omega) _))
  clear ew2
  go_cut [8] (fun s8 wx => s8 = .int .i64 1 ∧ Hid (wx.heap[w.heap.size]? = some (.cells (arrC X) 22 (0, 0))) ∧ Hid (wx.heap[w.heap.size + 1]? = some (.cells (arrC Y) 22 (0, 0))) ∧ Hid (wx.heap[w1.heap.size]? = some (.cells (arrC R1) 22 (0, 0))) ∧ Hid (Below w.heap.size w wx) ∧ Hid (w2.heap.size ≤ wx.heap.size))
  case first =>
    refine wp_region_noPanic ?_
    refine wp_region_held_drew (S := Keep (w2.heap.size) w2) (by kernel_rfl) (Keep.start _ _) ?_
    intro hS
    obtain ⟨w3, ed⟩ : ∃ u : World, u = w2.drew := ⟨_, rfl⟩
    rw [← ed] at hS ⊢
    have xh2 : w3.heap[w.heap.size]? = some (.cells (arrC X) 22 (0, 0)) := by rw [ed]; exact h2
    have xh3 : w3.heap[w.heap.size + 1]? = some (.cells (arrC Y) 22 (0, 0)) := by rw [ed]; exact h3
    have xh5 : w3.heap[w1.heap.size]? = some (.cells (arrC R1) 22 (0, 0)) := by rw [ed]; exact h5
    clear ed
    have hSz := hS.size
    clear xh2
    clear xh3
    clear xh5
    refine takeAt (i := 0) (v := .agg (arrC X)) rfl (some 18) rfl (by kernel_rfl) (by kernel_rfl) (by kernel_rfl) (fun _ _ _ h => h) (take_row rfl _ _ rfl (w.heap.size) rfl _ _ _ h2 (Nat.ne_of_lt (heap_lt h2)) under32 rfl (info32_of (arrC X) (arrC_size _))) hS ?_
    simp only [Act.put, List.setIfInBounds_toArray, List.set_cons_zero, List.set_cons_succ]
    refine takeAt (i := 1) (v := .agg (arrC X)) rfl (some 19) rfl (by kernel_rfl) (by kernel_rfl) (by kernel_rfl) (fun _ _ _ h => h) (take_row rfl _ _ rfl (w.heap.size) rfl _ _ _ h2 (Nat.ne_of_lt (heap_lt h2)) under32 rfl (info32_of (arrC X) (arrC_size _))) hS ?_
    simp only [Act.put, List.setIfInBounds_toArray, List.set_cons_zero, List.set_cons_succ]
    refine takeAt (i := 3) (v := .agg (arrC Y)) rfl (some 21) rfl (by kernel_rfl) (by kernel_rfl) (by kernel_rfl) (fun _ _ _ h => h) (take_row rfl _ _ rfl (w.heap.size + 1) rfl _ _ _ h3 (Nat.ne_of_lt (heap_lt h3)) under32 rfl (info32_of (arrC Y) (arrC_size _))) hS ?_
    simp only [Act.put, List.setIfInBounds_toArray, List.set_cons_zero, List.set_cons_succ]
    refine wpAnyH_ready (rs := [2, 8]) (by kernel_rfl) (by simp) ?_
    refine (AllReadyH.cons rfl ?_ (AllReadyH.cons rfl ?_ AllReadyH.nil))
    · intro K hK
      refine ready_call rfl (some 20) rfl 6 #[.agg (arrC X), .agg (arrC X)] (by go_simp) ?_
      refine (FieldAdd_to X X A HA _).mono ?_
      rintro e w4 ⟨rfl, hC⟩
      refine ⟨_, rfl, ?_⟩
      simp only [Act.put, List.setIfInBounds_toArray, List.set_cons_zero, List.set_cons_succ]
      have hS := hS.call hC
      have hz4 := hC.size
      clear hC
      refine hK.out _ _ hS ?_
      clear hK K
      intro _
      have hSz := hS.size
      refine wpAnyH_ready (rs := [4, 8]) (by kernel_rfl) (by simp) ?_
      refine (AllReadyH.cons rfl ?_ (AllReadyH.cons rfl ?_ AllReadyH.nil))
      · intro K hK
        refine ready_call rfl (some 22) rfl 5 #[.agg (arrC A), .agg (arrC Y)] (by go_simp) ?_
        refine (FieldSqrt_to A Y R2 1 HR2 HZ2 B _ (hD0.later (hBw2.out.trans (hS.below (by omega) hBw2.out.size))) (hD1.later (hBw2.out.trans (hS.below (by omega) hBw2.out.size)))).mono ?_
        rintro e w5 ⟨rfl, hC⟩
        refine ⟨_, rfl, ?_⟩
        simp only [Act.put, List.setIfInBounds_toArray, List.set_cons_zero, List.set_cons_succ]
        have hS := hS.call hC
        have hz5 := hC.size
        clear hC
        refine hK.out _ _ hS ?_
        clear hK K
        intro _
        have hSz := hS.size
        refine takeAt (i := 5) (v := .tuple #[.agg (arrC R2), .int .i64 1]) rfl (some 17) rfl (by kernel_rfl) (by kernel_rfl) (by kernel_rfl) (fun _ _ _ h => h) (take_run rfl (fun _ _ => by go_simp)) hS ?_
        simp only [Act.put, List.setIfInBounds_toArray, List.set_cons_zero, List.set_cons_succ]
        refine takeAt (i := 6) (v := .agg (arrC R2)) rfl (some 23) rfl (by kernel_rfl) (by kernel_rfl) (by kernel_rfl) (fun _ _ _ h => h) (take_run rfl (fun _ _ => by go_simp)) hS ?_
        simp only [Act.put, List.setIfInBounds_toArray, List.set_cons_zero, List.set_cons_succ]
        refine takeAt (i := 7) (v := .int .i64 1) rfl (some 24) rfl (by kernel_rfl) (by kernel_rfl) (by kernel_rfl) (fun _ _ _ h => h) (take_run rfl (fun _ _ => by go_simp)) hS ?_
        simp only [Act.put, List.setIfInBounds_toArray, List.set_cons_zero, List.set_cons_succ]
        refine wpAnyH_ready (rs := [8]) (by kernel_rfl) (by simp) ?_
        refine (AllReadyH.cons rfl ?_ AllReadyH.nil)
        intro K hK
        refine ready_run rfl (some 7) rfl (.pointer (some ⟨w5.heap.size, 0, none⟩)) (w5.alloc (.cells zL 22)) (by go_simp; try rfl) ?_
        simp only [Act.put, List.setIfInBounds_toArray, List.set_cons_zero, List.set_cons_succ]
        obtain ⟨w6, ea⟩ : ∃ u : World, u = w5.alloc (.cells zL 22) := ⟨_, rfl⟩
        rw [← ea]
        have hS := hS.alloc (.cells zL 22)
        rw [← ea] at hS
        have hz6 : w5.heap.size + 1 ≤ w6.heap.size := by rw [ea, alloc_size]; omega
        have hy6 : w2.heap.size ≤ w5.heap.size := hSz
        have xh7 : w6.heap[w5.heap.size]? = some (.cells (zL) 22 (0, 0)) := by rw [ea]; exact heap_new_at _ _ _ rfl
        clear ea
        refine hK.out _ _ hS ?_
        clear hK K
        intro _
        have hSz := hS.size
        refine wpAnyH_ready (rs := [9]) (by kernel_rfl) (by simp) ?_
        refine (AllReadyH.cons rfl ?_ AllReadyH.nil)
        intro K hK
        rw [if_pos (by rfl)]
        refine wp_store_row 22 _ _ rfl (w5.heap.size) (arrC R2) rfl rfl 22 (zL) xh7 (info32_of (arrC R2) (arrC_size _)) (zL_size.trans (arrC_size _).symm) (arrC_one _) ?_
        refine put_at (none) rfl ?_
        simp only [Act.put, List.setIfInBounds_toArray, List.set_cons_zero, List.set_cons_succ]
        have xh7 : (w6.setRow (w5.heap.size) (arrC R2)).heap[w5.heap.size]? = some (.cells (arrC R2) 22 (0, 0)) := (setRow_heap _ _ _ _ _ _ xh7)
        have hS := hS.storeNew (arrC R2) (show w2.heap.size ≤ w5.heap.size by omega)
        generalize w6.setRow (w5.heap.size) (arrC R2) = w7 at *
        refine hK.out _ _ hS ?_
        clear hK K
        intro _
        have hSz := hS.size
        refine takeAt (i := 10) (v := .int .i64 1) rfl (some 8) rfl (by kernel_rfl) (by kernel_rfl) (by kernel_rfl) (fun _ _ _ h => h) (take_run rfl (fun _ _ => by go_simp)) hS ?_
        simp only [Act.put, List.setIfInBounds_toArray, List.set_cons_zero, List.set_cons_succ]
        refine wpAnyH_done (by kernel_rfl) ?_ _
        refine NoPanic.normal ?_
        have hsz := hS.size
        have h2 : w7.heap[w.heap.size]? = some (.cells (arrC X) 22 (0, 0)) := hS.old h2 (Nat.ne_of_lt (heap_lt h2))
        have h3 : w7.heap[w.heap.size + 1]? = some (.cells (arrC Y) 22 (0, 0)) := hS.old h3 (Nat.ne_of_lt (heap_lt h3))
        have h5 : w7.heap[w1.heap.size]? = some (.cells (arrC R1) 22 (0, 0)) := hS.old h5 (Nat.ne_of_lt (heap_lt h5))
        have h7 := xh7
        have hBw7 : Hid (Below w.heap.size w w7) := Lib.hid (hBw2.out.trans (hS.below (by omega) hBw2.out.size))
        clear hS
        go_wp2_with fail
        go_meet
        exact ⟨rfl, Lib.hid h2, Lib.hid h3, Lib.hid h5, Lib.hid hBw7.out, Lib.hid (show w2.heap.size ≤ w7.heap.size by omega)⟩
      · intro K hK
        refine ready_run rfl (some 7) rfl (.pointer (some ⟨w4.heap.size, 0, none⟩)) (w4.alloc (.cells zL 22)) (by go_simp; try rfl) ?_
        simp only [Act.put, List.setIfInBounds_toArray, List.set_cons_zero, List.set_cons_succ]
        obtain ⟨w9, ea⟩ : ∃ u : World, u = w4.alloc (.cells zL 22) := ⟨_, rfl⟩
        rw [← ea]
        have hS := hS.alloc (.cells zL 22)
        rw [← ea] at hS
        have hz9 : w4.heap.size + 1 ≤ w9.heap.size := by rw [ea, alloc_size]; omega
        have hy9 : w2.heap.size ≤ w4.heap.size := hSz
        have xh7 : w9.heap[w4.heap.size]? = some (.cells (zL) 22 (0, 0)) := by rw [ea]; exact heap_new_at _ _ _ rfl
        clear ea
        refine hK.out _ _ hS ?_
        clear hK K
        intro _
        have hSz := hS.size
        refine wpAnyH_ready (rs := [4]) (by kernel_rfl) (by simp) ?_
        refine (AllReadyH.cons rfl ?_ AllReadyH.nil)
        intro K hK
        refine ready_call rfl (some 22) rfl 5 #[.agg (arrC A), .agg (arrC Y)] (by go_simp) ?_
        refine (FieldSqrt_to A Y R2 1 HR2 HZ2 B _ (hD0.later (hBw2.out.trans (hS.below (by omega) hBw2.out.size))) (hD1.later (hBw2.out.trans (hS.below (by omega) hBw2.out.size)))).mono ?_
        rintro e w10 ⟨rfl, hC⟩
        refine ⟨_, rfl, ?_⟩
        simp only [Act.put, List.setIfInBounds_toArray, List.set_cons_zero, List.set_cons_succ]
        have xh7 : w10.heap[w4.heap.size]? = some (.cells (zL) 22 (0, 0)) := (heap_call hC xh7)
        have hS := hS.call hC
        have hz10 := hC.size
        clear hC
        refine hK.out _ _ hS ?_
        clear hK K
        intro _
        have hSz := hS.size
        refine takeAt (i := 5) (v := .tuple #[.agg (arrC R2), .int .i64 1]) rfl (some 17) rfl (by kernel_rfl) (by kernel_rfl) (by kernel_rfl) (fun _ _ _ h => h) (take_run rfl (fun _ _ => by go_simp)) hS ?_
        simp only [Act.put, List.setIfInBounds_toArray, List.set_cons_zero, List.set_cons_succ]
        refine takeAt (i := 6) (v := .agg (arrC R2)) rfl (some 23) rfl (by kernel_rfl) (by kernel_rfl) (by kernel_rfl) (fun _ _ _ h => h) (take_run rfl (fun _ _ => by go_simp)) hS ?_
        simp only [Act.put, List.setIfInBounds_toArray, List.set_cons_zero, List.set_cons_succ]
        refine takeAt (i := 7) (v := .int .i64 1) rfl (some 24) rfl (by kernel_rfl) (by kernel_rfl) (by kernel_rfl) (fun _ _ _ h => h) (take_run rfl (fun _ _ => by go_simp)) hS ?_
        simp only [Act.put, List.setIfInBounds_toArray, List.set_cons_zero, List.set_cons_succ]
        refine wpAnyH_ready (rs := [9]) (by kernel_rfl) (by simp) ?_
        refine (AllReadyH.cons rfl ?_ AllReadyH.nil)
        intro K hK
        rw [if_pos (by rfl)]
        refine wp_store_row 22 _ _ rfl (w4.heap.size) (arrC R2) rfl rfl 22 (zL) xh7 (info32_of (arrC R2) (arrC_size _)) (zL_size.trans (arrC_size _).symm) (arrC_one _) ?_
        refine put_at (none) rfl ?_
        simp only [Act.put, List.setIfInBounds_toArray, List.set_cons_zero, List.set_cons_succ]
        have xh7 : (w10.setRow (w4.heap.size) (arrC R2)).heap[w4.heap.size]? = some (.cells (arrC R2) 22 (0, 0)) := (setRow_heap _ _ _ _ _ _ xh7)
        have hS := hS.storeNew (arrC R2) (show w2.heap.size ≤ w4.heap.size by omega)
        generalize w10.setRow (w4.heap.size) (arrC R2) = w11 at *
        refine hK.out _ _ hS ?_
        clear hK K
        intro _
        have hSz := hS.size
        refine takeAt (i := 10) (v := .int .i64 1) rfl (some 8) rfl (by kernel_rfl) (by kernel_rfl) (by kernel_rfl) (fun _ _ _ h => h) (take_run rfl (fun _ _ => by go_simp)) hS ?_
        simp only [Act.put, List.setIfInBounds_toArray, List.set_cons_zero, List.set_cons_succ]
        refine wpAnyH_done (by kernel_rfl) ?_ _
        refine NoPanic.normal ?_
        have hsz := hS.size
        have h2 : w11.heap[w.heap.size]? = some (.cells (arrC X) 22 (0, 0)) := hS.old h2 (Nat.ne_of_lt (heap_lt h2))
        have h3 : w11.heap[w.heap.size + 1]? = some (.cells (arrC Y) 22 (0, 0)) := hS.old h3 (Nat.ne_of_lt (heap_lt h3))
        have h5 : w11.heap[w1.heap.size]? = some (.cells (arrC R1) 22 (0, 0)) := hS.old h5 (Nat.ne_of_lt (heap_lt h5))
        have h7 := xh7
        have hBw11 : Hid (Below w.heap.size w w11) := Lib.hid (hBw2.out.trans (hS.below (by omega) hBw2.out.size))
        clear hS
        go_wp2_with fail
        go_meet
        exact ⟨rfl, Lib.hid h2, Lib.hid h3, Lib.hid h5, Lib.hid hBw11.out, Lib.hid (show w2.heap.size ≤ w11.heap.size by omega)⟩
    · intro K hK
      refine ready_run rfl (some 7) rfl (.pointer (some ⟨w3.heap.size, 0, none⟩)) (w3.alloc (.cells zL 22)) (by go_simp; try rfl) ?_
      simp only [Act.put, List.setIfInBounds_toArray, List.set_cons_zero, List.set_cons_succ]
      obtain ⟨w13, ea⟩ : ∃ u : World, u = w3.alloc (.cells zL 22) := ⟨_, rfl⟩
      rw [← ea]
      have hS := hS.alloc (.cells zL 22)
      rw [← ea] at hS
      have hz13 : w3.heap.size + 1 ≤ w13.heap.size := by rw [ea, alloc_size]; omega
      have hy13 : w2.heap.size ≤ w3.heap.size := hSz
      have xh7 : w13.heap[w3.heap.size]? = some (.cells (zL) 22 (0, 0)) := by rw [ea]; exact heap_new_at _ _ _ rfl
      clear ea
      refine hK.out _ _ hS ?_
      clear hK K
      intro _
      have hSz := hS.size
      refine wpAnyH_ready (rs := [2]) (by kernel_rfl) (by simp) ?_
      refine (AllReadyH.cons rfl ?_ AllReadyH.nil)
      intro K hK
      refine ready_call rfl (some 20) rfl 6 #[.agg (arrC X), .agg (arrC X)] (by go_simp) ?_
      refine (FieldAdd_to X X A HA _).mono ?_
      rintro e w14 ⟨rfl, hC⟩
      refine ⟨_, rfl, ?_⟩
      simp only [Act.put, List.setIfInBounds_toArray, List.set_cons_zero, List.set_cons_succ]
      have xh7 : w14.heap[w3.heap.size]? = some (.cells (zL) 22 (0, 0)) := (heap_call hC xh7)
      have hS := hS.call hC
      have hz14 := hC.size
      clear hC
      refine hK.out _ _ hS ?_
      clear hK K
      intro _
      have hSz := hS.size
      refine wpAnyH_ready (rs := [4]) (by kernel_rfl) (by simp) ?_
      refine (AllReadyH.cons rfl ?_ AllReadyH.nil)
      intro K hK
      refine ready_call rfl (some 22) rfl 5 #[.agg (arrC A), .agg (arrC Y)] (by go_simp) ?_
      refine (FieldSqrt_to A Y R2 1 HR2 HZ2 B _ (hD0.later (hBw2.out.trans (hS.below (by omega) hBw2.out.size))) (hD1.later (hBw2.out.trans (hS.below (by omega) hBw2.out.size)))).mono ?_
      rintro e w15 ⟨rfl, hC⟩
      refine ⟨_, rfl, ?_⟩
      simp only [Act.put, List.setIfInBounds_toArray, List.set_cons_zero, List.set_cons_succ]
      have xh7 : w15.heap[w3.heap.size]? = some (.cells (zL) 22 (0, 0)) := (heap_call hC xh7)
      have hS := hS.call hC
      have hz15 := hC.size
      clear hC
      refine hK.out _ _ hS ?_
      clear hK K
      intro _
      have hSz := hS.size
      refine takeAt (i := 5) (v := .tuple #[.agg (arrC R2), .int .i64 1]) rfl (some 17) rfl (by kernel_rfl) (by kernel_rfl) (by kernel_rfl) (fun _ _ _ h => h) (take_run rfl (fun _ _ => by go_simp)) hS ?_
      simp only [Act.put, List.setIfInBounds_toArray, List.set_cons_zero, List.set_cons_succ]
      refine takeAt (i := 6) (v := .agg (arrC R2)) rfl (some 23) rfl (by kernel_rfl) (by kernel_rfl) (by kernel_rfl) (fun _ _ _ h => h) (take_run rfl (fun _ _ => by go_simp)) hS ?_
      simp only [Act.put, List.setIfInBounds_toArray, List.set_cons_zero, List.set_cons_succ]
      refine takeAt (i := 7) (v := .int .i64 1) rfl (some 24) rfl (by kernel_rfl) (by kernel_rfl) (by kernel_rfl) (fun _ _ _ h => h) (take_run rfl (fun _ _ => by go_simp)) hS ?_
      simp only [Act.put, List.setIfInBounds_toArray, List.set_cons_zero, List.set_cons_succ]
      refine wpAnyH_ready (rs := [9]) (by kernel_rfl) (by simp) ?_
      refine (AllReadyH.cons rfl ?_ AllReadyH.nil)
      intro K hK
      rw [if_pos (by rfl)]
      refine wp_store_row 22 _ _ rfl (w3.heap.size) (arrC R2) rfl rfl 22 (zL) xh7 (info32_of (arrC R2) (arrC_size _)) (zL_size.trans (arrC_size _).symm) (arrC_one _) ?_
      refine put_at (none) rfl ?_
      simp only [Act.put, List.setIfInBounds_toArray, List.set_cons_zero, List.set_cons_succ]
      have xh7 : (w15.setRow (w3.heap.size) (arrC R2)).heap[w3.heap.size]? = some (.cells (arrC R2) 22 (0, 0)) := (setRow_heap _ _ _ _ _ _ xh7)
      have hS := hS.storeNew (arrC R2) (show w2.heap.size ≤ w3.heap.size by omega)
      generalize w15.setRow (w3.heap.size) (arrC R2) = w16 at *
      refine hK.out _ _ hS ?_
      clear hK K
      intro _
      have hSz := hS.size
      refine takeAt (i := 10) (v := .int .i64 1) rfl (some 8) rfl (by kernel_rfl) (by kernel_rfl) (by kernel_rfl) (fun _ _ _ h => h) (take_run rfl (fun _ _ => by go_simp)) hS ?_
      simp only [Act.put, List.setIfInBounds_toArray, List.set_cons_zero, List.set_cons_succ]
      refine wpAnyH_done (by kernel_rfl) ?_ _
      refine NoPanic.normal ?_
      have hsz := hS.size
      have h2 : w16.heap[w.heap.size]? = some (.cells (arrC X) 22 (0, 0)) := hS.old h2 (Nat.ne_of_lt (heap_lt h2))
      have h3 : w16.heap[w.heap.size + 1]? = some (.cells (arrC Y) 22 (0, 0)) := hS.old h3 (Nat.ne_of_lt (heap_lt h3))
      have h5 : w16.heap[w1.heap.size]? = some (.cells (arrC R1) 22 (0, 0)) := hS.old h5 (Nat.ne_of_lt (heap_lt h5))
      have h7 := xh7
      have hBw16 : Hid (Below w.heap.size w w16) := Lib.hid (hBw2.out.trans (hS.below (by omega) hBw2.out.size))
      clear hS
      go_wp2_with fail
      go_meet
      exact ⟨rfl, Lib.hid h2, Lib.hid h3, Lib.hid h5, Lib.hid hBw16.out, Lib.hid (show w2.heap.size ≤ w16.heap.size by omega)⟩
  case rest =>
    obtain ⟨rfl, Hh2, Hh3, Hh5, hBw18, Hsz18⟩ := hcut
    obtain ⟨w18, rfl⟩ : ∃ u : World, u = wc := ⟨_, rfl⟩
    have h2 := Hh2.out
    have h3 := Hh3.out
    have h5 := Hh5.out
    have hsz18 := Hsz18.out
    go_wp2_with (first
      | ((with_reducible refine at_dst 25 ?_); refine wpList_load_row rfl 22 _ rfl (w.heap.size) rfl 22 (arrC X) (0, 0) _ h2 under32 rfl (info32_of (arrC X) (arrC_size _)) ?_))
    refine (isZero_false X TX HTX hzx _).mono ?_
    rintro e w19 ⟨rfl, hC19⟩
    have hs19 : w18.heap.size ≤ w19.heap.size := by have := hC19.size; (try simp only [alloc_size, setRow_size] at this); omega
    replace h2 : w19.heap[w.heap.size]? = some (.cells (arrC X) 22 (0, 0)) := (heap_call hC19 h2)
    replace h3 : w19.heap[w.heap.size + 1]? = some (.cells (arrC Y) 22 (0, 0)) := (heap_call hC19 h3)
    replace h5 : w19.heap[w1.heap.size]? = some (.cells (arrC R1) 22 (0, 0)) := (heap_call hC19 h5)
    have hBw19 : Hid (Below w.heap.size w w19) := Lib.hid (below_call hBw18.out hC19)
    clear hC19
    go_wp2_with (first
      | ((with_reducible refine at_dst 28 ?_); refine load_guarded rfl 22 _ rfl (w.heap.size + 1) rfl 22 (arrC Y) (0, 0) _ h3 under32 rfl (info32_of (arrC Y) (arrC_size _)) ?_))
    refine (isZero_false Y TY HTY hzy _).mono ?_
    rintro e w20 ⟨rfl, hC20⟩
    have hs20 : w19.heap.size ≤ w20.heap.size := by have := hC20.size; (try simp only [alloc_size, setRow_size] at this); omega
    replace h2 : w20.heap[w.heap.size]? = some (.cells (arrC X) 22 (0, 0)) := (heap_call hC20 h2)
    replace h3 : w20.heap[w.heap.size + 1]? = some (.cells (arrC Y) 22 (0, 0)) := (heap_call hC20 h3)
    replace h5 : w20.heap[w1.heap.size]? = some (.cells (arrC R1) 22 (0, 0)) := (heap_call hC20 h5)
    have hBw20 : Hid (Below w.heap.size w w20) := Lib.hid (below_call hBw19.out hC20)
    clear hC20
    go_wp2
    go_ret
    exact ⟨rfl, hBw20.out⟩

theorem SqOr_walk (X : Nat) (_ : X < 256 ^ 32) (Y : Nat) (_ : Y < 256 ^ 32) (B : Nat) (w : World) (hD0 : Var 1 z5 B w) (hD1 : Var 0 i5 B w) : Calls Tryd.prog 3 #[.agg (arrC X), .agg (arrC Y)] w fun e w' => e = .returned (.bool true) ∧ Below w.heap.size w w' := by
  by_cases h0 : valN X = 0
  · exact SqOr_u0 X Y (Lib.hid h0) B w hD0 hD1
  · by_cases h1 : valN Y = 0
    · exact SqOr_v0 X Y (Lib.hid ⟨h0, h1⟩) B w hD0 hD1
    · cases h2 : sqW (valN X) (valN Y)
      · exact SqOr_no X Y (Lib.hid ⟨h0, h1, h2⟩) B w hD0 hD1
      · exact SqOr_yes X Y (Lib.hid ⟨h0, h1, h2⟩) B w hD0 hD1

end Go.Proofs.YtmabidcocdflkaaDoor
