/- FnFieldEqualBytes: the walk. -/
import Derived.Test.YtfkodiefldljgaaLK
namespace Go.Proofs.Ytfkodiefldljgaa
open Go.RowKit

set_option maxHeartbeats 2000000 in
theorem EqualBytes_same (X Y R : Nat) (HR : Hid (R = valN X)) (HY : Hid (R = valN Y)) (w : World) :
    Calls Try.prog 5 #[.agg (arrC X), .agg (arrC Y)] w fun e w' => e = .returned (.bool true) ∧ Below w.heap.size w w' := by
  have lR : R < 256 ^ 32 := by rw [HR.out]; exact lt32p _ (valN_lt _)
  have HZ : Hid ((1 : Int) = if valN X = valN Y then 1 else 0) := Lib.hid (by rw [if_pos (HR.out.symm.trans HY.out)])
  go_enter Try.func5, Try.ntmps5
  go_wp2_with fail
  refine wp_named ?_
  intro w1 ew1
  have hs1 : w.heap.size + 1 + 1 ≤ w1.heap.size := by rw [ew1]; (try simp only [alloc_size, setRow_size]); omega
  have h2 : w1.heap[w.heap.size]? = some (.cells (arrC X) 22 (0, 0)) := by rw [ew1]; exact (heap_old _ (heap_new_at _ _ _ rfl))
  have h3 : w1.heap[w.heap.size + 1]? = some (.cells (arrC Y) 22 (0, 0)) := by rw [ew1]; exact (heap_new_at _ _ _ (by simp only [alloc_size, setRow_size]))
  have hBw1 : Hid (Below w.heap.size w w1) := Lib.hid (by rw [ew1]; exact (below_alloc (below_alloc (Below.refl _ w) _) _))
  clear ew1
  go_cut [5] (fun s5 wx => ∃ g5 : Nat, s5 = .pointer (some ⟨g5, 0, none⟩) ∧ Hid (w1.heap.size ≤ g5) ∧ Hid (wx.heap[g5]? = some (.cells (arrC R) 22 (0, 0))) ∧ Hid (wx.heap[w.heap.size]? = some (.cells (arrC X) 22 (0, 0))) ∧ Hid (wx.heap[w.heap.size + 1]? = some (.cells (arrC Y) 22 (0, 0))) ∧ Hid (Below w.heap.size w wx) ∧ Hid (w1.heap.size ≤ wx.heap.size))
  case first =>
    refine wp_region_noPanic ?_
    refine wp_region_held_drew (S := Keep (w1.heap.size) w1) (by kernel_rfl) (Keep.start _ _) ?_
    intro hS
    obtain ⟨w2, ed⟩ : ∃ u : World, u = w1.drew := ⟨_, rfl⟩
    rw [← ed] at hS ⊢
    have xh2 : w2.heap[w.heap.size]? = some (.cells (arrC X) 22 (0, 0)) := by rw [ed]; exact h2
    have xh3 : w2.heap[w.heap.size + 1]? = some (.cells (arrC Y) 22 (0, 0)) := by rw [ed]; exact h3
    clear ed
    have hSz := hS.size
    clear xh2
    clear xh3
    refine takeAt (i := 1) (v := .agg (arrC X)) rfl (some 11) rfl (by kernel_rfl) (by kernel_rfl) (by kernel_rfl) (fun _ _ _ h => h) (take_row rfl _ _ rfl (w.heap.size) rfl _ _ _ h2 (Nat.ne_of_lt (heap_lt h2)) under32 rfl (info32_of (arrC X) (arrC_size _))) hS ?_
    simp only [Act.put, List.setIfInBounds_toArray, List.set_cons_zero, List.set_cons_succ]
    refine wpAnyH_ready (rs := [0, 7]) (by kernel_rfl) (by simp) ?_
    refine (AllReadyH.cons rfl ?_ (AllReadyH.cons rfl ?_ AllReadyH.nil))
    · intro K hK
      refine ready_call rfl (some 10) rfl 13 #[] (by go_simp) ?_
      refine (zero_v _).mono ?_
      rintro e w3 ⟨rfl, hC⟩
      refine ⟨_, rfl, ?_⟩
      simp only [Act.put, List.setIfInBounds_toArray, List.set_cons_zero, List.set_cons_succ]
      have hS := hS.call hC
      have hz3 := hC.size
      clear hC
      refine hK.out _ _ hS ?_
      clear hK K
      intro _
      have hSz := hS.size
      refine wpAnyH_ready (rs := [2, 7]) (by kernel_rfl) (by simp) ?_
      refine (AllReadyH.cons rfl ?_ (AllReadyH.cons rfl ?_ AllReadyH.nil))
      · intro K hK
        refine ready_call rfl (some 12) rfl 17 #[.agg (arrC X)] (by go_simp) ?_
        refine (slice_any X _).mono ?_
        rintro e w4 ⟨b1, c1, rfl, hcb1, hlb1, hC, xhr1⟩
        refine ⟨_, rfl, ?_⟩
        simp only [Act.put, List.setIfInBounds_toArray, List.set_cons_zero, List.set_cons_succ]
        have hS := hS.call hC
        have hz4 := hC.size
        clear hC
        refine hK.out _ _ hS ?_
        clear hK K
        intro _
        have hSz := hS.size
        refine wpAnyH_ready (rs := [3, 7]) (by kernel_rfl) (by simp) ?_
        refine (AllReadyH.cons rfl ?_ (AllReadyH.cons rfl ?_ AllReadyH.nil))
        · intro K hK
          refine ready_call rfl (some 13) rfl 16 #[.agg (arrC 0), .slice (some ⟨b1, 0, none⟩) 32 c1] (by go_simp) ?_
          refine (FieldSetBytes_to 0 X b1 c1 hcb1 R HR _ xhr1).mono ?_
          rintro e w5 ⟨rfl, hC⟩
          refine ⟨_, rfl, ?_⟩
          simp only [Act.put, List.setIfInBounds_toArray, List.set_cons_zero, List.set_cons_succ]
          have xhr1 : Row w5 b1 0 32 (byV X) := (Row.below_all xhr1 hC)
          have hS := hS.call hC
          have hz5 := hC.size
          clear hC
          refine hK.out _ _ hS ?_
          clear hK K
          intro _
          have hSz := hS.size
          refine takeAt (i := 4) (v := .tuple #[.agg (arrC R), .bool true]) rfl (some 9) rfl (by kernel_rfl) (by kernel_rfl) (by kernel_rfl) (fun _ _ _ h => h) (take_run rfl (fun _ _ => by go_simp)) hS ?_
          simp only [Act.put, List.setIfInBounds_toArray, List.set_cons_zero, List.set_cons_succ]
          refine takeAt (i := 5) (v := .agg (arrC R)) rfl (some 14) rfl (by kernel_rfl) (by kernel_rfl) (by kernel_rfl) (fun _ _ _ h => h) (take_run rfl (fun _ _ => by go_simp)) hS ?_
          simp only [Act.put, List.setIfInBounds_toArray, List.set_cons_zero, List.set_cons_succ]
          refine takeAt (i := 6) (v := .bool true) rfl (some 15) rfl (by kernel_rfl) (by kernel_rfl) (by kernel_rfl) (fun _ _ _ h => h) (take_run rfl (fun _ _ => by go_simp)) hS ?_
          simp only [Act.put, List.setIfInBounds_toArray, List.set_cons_zero, List.set_cons_succ]
          refine wpAnyH_ready (rs := [7]) (by kernel_rfl) (by simp) ?_
          refine (AllReadyH.cons rfl ?_ AllReadyH.nil)
          intro K hK
          refine ready_run rfl (some 5) rfl (.pointer (some ⟨w5.heap.size, 0, none⟩)) (w5.alloc (.cells zL 22)) (by go_simp; try rfl) ?_
          simp only [Act.put, List.setIfInBounds_toArray, List.set_cons_zero, List.set_cons_succ]
          obtain ⟨w6, ea⟩ : ∃ u : World, u = w5.alloc (.cells zL 22) := ⟨_, rfl⟩
          rw [← ea]
          have hS := hS.alloc (.cells zL 22)
          rw [← ea] at hS
          have hz6 : w5.heap.size + 1 ≤ w6.heap.size := by rw [ea, alloc_size]; omega
          have hy6 : w1.heap.size ≤ w5.heap.size := hSz
          have xh5 : w6.heap[w5.heap.size]? = some (.cells (zL) 22 (0, 0)) := by rw [ea]; exact heap_new_at _ _ _ rfl
          clear ea
          refine hK.out _ _ hS ?_
          clear hK K
          intro _
          have hSz := hS.size
          refine wpAnyH_ready (rs := [8]) (by kernel_rfl) (by simp) ?_
          refine (AllReadyH.cons rfl ?_ AllReadyH.nil)
          intro K hK
          rw [if_pos (by rfl)]
          refine wp_store_row 22 _ _ rfl (w5.heap.size) (arrC R) rfl rfl 22 (zL) xh5 (info32_of (arrC R) (arrC_size _)) (zL_size.trans (arrC_size _).symm) (arrC_one _) ?_
          refine put_at (none) rfl ?_
          simp only [Act.put, List.setIfInBounds_toArray, List.set_cons_zero, List.set_cons_succ]
          have xh5 : (w6.setRow (w5.heap.size) (arrC R)).heap[w5.heap.size]? = some (.cells (arrC R) 22 (0, 0)) := (setRow_heap _ _ _ _ _ _ xh5)
          have hS := hS.storeNew (arrC R) (show w1.heap.size ≤ w5.heap.size by omega)
          generalize w6.setRow (w5.heap.size) (arrC R) = w7 at *
          refine hK.out _ _ hS ?_
          clear hK K
          intro _
          have hSz := hS.size
          refine takeAt (i := 9) (v := .bool true) rfl (some 6) rfl (by kernel_rfl) (by kernel_rfl) (by kernel_rfl) (fun _ _ _ h => h) (take_run rfl (fun _ _ => by go_simp)) hS ?_
          simp only [Act.put, List.setIfInBounds_toArray, List.set_cons_zero, List.set_cons_succ]
          refine wpAnyH_done (by kernel_rfl) ?_ _
          refine NoPanic.normal ?_
          have hsz := hS.size
          have h2 : w7.heap[w.heap.size]? = some (.cells (arrC X) 22 (0, 0)) := hS.old h2 (Nat.ne_of_lt (heap_lt h2))
          have h3 : w7.heap[w.heap.size + 1]? = some (.cells (arrC Y) 22 (0, 0)) := hS.old h3 (Nat.ne_of_lt (heap_lt h3))
          have h5 := xh5
          have hBw7 : Hid (Below w.heap.size w w7) := Lib.hid (hBw1.out.trans (hS.below (by omega) hBw1.out.size))
          clear hS
          go_wp2_with fail
          go_meet
          exact ⟨w5.heap.size, rfl, Lib.hid (show w1.heap.size ≤ w5.heap.size by omega), Lib.hid h5, Lib.hid h2, Lib.hid h3, Lib.hid hBw7.out, Lib.hid (show w1.heap.size ≤ w7.heap.size by omega)⟩
        · intro K hK
          refine ready_run rfl (some 5) rfl (.pointer (some ⟨w4.heap.size, 0, none⟩)) (w4.alloc (.cells zL 22)) (by go_simp; try rfl) ?_
          simp only [Act.put, List.setIfInBounds_toArray, List.set_cons_zero, List.set_cons_succ]
          obtain ⟨w9, ea⟩ : ∃ u : World, u = w4.alloc (.cells zL 22) := ⟨_, rfl⟩
          rw [← ea]
          have xhr1 : Row w9 b1 0 32 (byV X) := by rw [ea]; exact (Row.alloc xhr1 _)
          have hS := hS.alloc (.cells zL 22)
          rw [← ea] at hS
          have hz9 : w4.heap.size + 1 ≤ w9.heap.size := by rw [ea, alloc_size]; omega
          have hy9 : w1.heap.size ≤ w4.heap.size := hSz
          have xh5 : w9.heap[w4.heap.size]? = some (.cells (zL) 22 (0, 0)) := by rw [ea]; exact heap_new_at _ _ _ rfl
          clear ea
          refine hK.out _ _ hS ?_
          clear hK K
          intro _
          have hSz := hS.size
          refine wpAnyH_ready (rs := [3]) (by kernel_rfl) (by simp) ?_
          refine (AllReadyH.cons rfl ?_ AllReadyH.nil)
          intro K hK
          refine ready_call rfl (some 13) rfl 16 #[.agg (arrC 0), .slice (some ⟨b1, 0, none⟩) 32 c1] (by go_simp) ?_
          refine (FieldSetBytes_to 0 X b1 c1 hcb1 R HR _ xhr1).mono ?_
          rintro e w10 ⟨rfl, hC⟩
          refine ⟨_, rfl, ?_⟩
          simp only [Act.put, List.setIfInBounds_toArray, List.set_cons_zero, List.set_cons_succ]
          have xhr1 : Row w10 b1 0 32 (byV X) := (Row.below_all xhr1 hC)
          have xh5 : w10.heap[w4.heap.size]? = some (.cells (zL) 22 (0, 0)) := (heap_call hC xh5)
          have hS := hS.call hC
          have hz10 := hC.size
          clear hC
          refine hK.out _ _ hS ?_
          clear hK K
          intro _
          have hSz := hS.size
          refine takeAt (i := 4) (v := .tuple #[.agg (arrC R), .bool true]) rfl (some 9) rfl (by kernel_rfl) (by kernel_rfl) (by kernel_rfl) (fun _ _ _ h => h) (take_run rfl (fun _ _ => by go_simp)) hS ?_
          simp only [Act.put, List.setIfInBounds_toArray, List.set_cons_zero, List.set_cons_succ]
          refine takeAt (i := 5) (v := .agg (arrC R)) rfl (some 14) rfl (by kernel_rfl) (by kernel_rfl) (by kernel_rfl) (fun _ _ _ h => h) (take_run rfl (fun _ _ => by go_simp)) hS ?_
          simp only [Act.put, List.setIfInBounds_toArray, List.set_cons_zero, List.set_cons_succ]
          refine takeAt (i := 6) (v := .bool true) rfl (some 15) rfl (by kernel_rfl) (by kernel_rfl) (by kernel_rfl) (fun _ _ _ h => h) (take_run rfl (fun _ _ => by go_simp)) hS ?_
          simp only [Act.put, List.setIfInBounds_toArray, List.set_cons_zero, List.set_cons_succ]
          refine wpAnyH_ready (rs := [8]) (by kernel_rfl) (by simp) ?_
          refine (AllReadyH.cons rfl ?_ AllReadyH.nil)
          intro K hK
          rw [if_pos (by rfl)]
          refine wp_store_row 22 _ _ rfl (w4.heap.size) (arrC R) rfl rfl 22 (zL) xh5 (info32_of (arrC R) (arrC_size _)) (zL_size.trans (arrC_size _).symm) (arrC_one _) ?_
          refine put_at (none) rfl ?_
          simp only [Act.put, List.setIfInBounds_toArray, List.set_cons_zero, List.set_cons_succ]
          have xh5 : (w10.setRow (w4.heap.size) (arrC R)).heap[w4.heap.size]? = some (.cells (arrC R) 22 (0, 0)) := (setRow_heap _ _ _ _ _ _ xh5)
          have hS := hS.storeNew (arrC R) (show w1.heap.size ≤ w4.heap.size by omega)
          generalize w10.setRow (w4.heap.size) (arrC R) = w11 at *
          refine hK.out _ _ hS ?_
          clear hK K
          intro _
          have hSz := hS.size
          refine takeAt (i := 9) (v := .bool true) rfl (some 6) rfl (by kernel_rfl) (by kernel_rfl) (by kernel_rfl) (fun _ _ _ h => h) (take_run rfl (fun _ _ => by go_simp)) hS ?_
          simp only [Act.put, List.setIfInBounds_toArray, List.set_cons_zero, List.set_cons_succ]
          refine wpAnyH_done (by kernel_rfl) ?_ _
          refine NoPanic.normal ?_
          have hsz := hS.size
          have h2 : w11.heap[w.heap.size]? = some (.cells (arrC X) 22 (0, 0)) := hS.old h2 (Nat.ne_of_lt (heap_lt h2))
          have h3 : w11.heap[w.heap.size + 1]? = some (.cells (arrC Y) 22 (0, 0)) := hS.old h3 (Nat.ne_of_lt (heap_lt h3))
          have h5 := xh5
          have hBw11 : Hid (Below w.heap.size w w11) := Lib.hid (hBw1.out.trans (hS.below (by omega) hBw1.out.size))
          clear hS
          go_wp2_with fail
          go_meet
          exact ⟨w4.heap.size, rfl, Lib.hid (show w1.heap.size ≤ w4.heap.size by omega), Lib.hid h5, Lib.hid h2, Lib.hid h3, Lib.hid hBw11.out, Lib.hid (show w1.heap.size ≤ w11.heap.size by omega)⟩
      · intro K hK
        refine ready_run rfl (some 5) rfl (.pointer (some ⟨w3.heap.size, 0, none⟩)) (w3.alloc (.cells zL 22)) (by go_simp; try rfl) ?_
        simp only [Act.put, List.setIfInBounds_toArray, List.set_cons_zero, List.set_cons_succ]
        obtain ⟨w13, ea⟩ : ∃ u : World, u = w3.alloc (.cells zL 22) := ⟨_, rfl⟩
        rw [← ea]
        have hS := hS.alloc (.cells zL 22)
        rw [← ea] at hS
        have hz13 : w3.heap.size + 1 ≤ w13.heap.size := by rw [ea, alloc_size]; omega
        have hy13 : w1.heap.size ≤ w3.heap.size := hSz
        have xh5 : w13.heap[w3.heap.size]? = some (.cells (zL) 22 (0, 0)) := by rw [ea]; exact heap_new_at _ _ _ rfl
        clear ea
        refine hK.out _ _ hS ?_
        clear hK K
        intro _
        have hSz := hS.size
        refine wpAnyH_ready (rs := [2]) (by kernel_rfl) (by simp) ?_
        refine (AllReadyH.cons rfl ?_ AllReadyH.nil)
        intro K hK
        refine ready_call rfl (some 12) rfl 17 #[.agg (arrC X)] (by go_simp) ?_
        refine (slice_any X _).mono ?_
        rintro e w14 ⟨b1, c1, rfl, hcb1, hlb1, hC, xhr1⟩
        refine ⟨_, rfl, ?_⟩
        simp only [Act.put, List.setIfInBounds_toArray, List.set_cons_zero, List.set_cons_succ]
        have xh5 : w14.heap[w3.heap.size]? = some (.cells (zL) 22 (0, 0)) := (heap_call hC xh5)
        have hS := hS.call hC
        have hz14 := hC.size
        clear hC
        refine hK.out _ _ hS ?_
        clear hK K
        intro _
        have hSz := hS.size
        refine wpAnyH_ready (rs := [3]) (by kernel_rfl) (by simp) ?_
        refine (AllReadyH.cons rfl ?_ AllReadyH.nil)
        intro K hK
        refine ready_call rfl (some 13) rfl 16 #[.agg (arrC 0), .slice (some ⟨b1, 0, none⟩) 32 c1] (by go_simp) ?_
        refine (FieldSetBytes_to 0 X b1 c1 hcb1 R HR _ xhr1).mono ?_
        rintro e w15 ⟨rfl, hC⟩
        refine ⟨_, rfl, ?_⟩
        simp only [Act.put, List.setIfInBounds_toArray, List.set_cons_zero, List.set_cons_succ]
        have xh5 : w15.heap[w3.heap.size]? = some (.cells (zL) 22 (0, 0)) := (heap_call hC xh5)
        have xhr1 : Row w15 b1 0 32 (byV X) := (Row.below_all xhr1 hC)
        have hS := hS.call hC
        have hz15 := hC.size
        clear hC
        refine hK.out _ _ hS ?_
        clear hK K
        intro _
        have hSz := hS.size
        refine takeAt (i := 4) (v := .tuple #[.agg (arrC R), .bool true]) rfl (some 9) rfl (by kernel_rfl) (by kernel_rfl) (by kernel_rfl) (fun _ _ _ h => h) (take_run rfl (fun _ _ => by go_simp)) hS ?_
        simp only [Act.put, List.setIfInBounds_toArray, List.set_cons_zero, List.set_cons_succ]
        refine takeAt (i := 5) (v := .agg (arrC R)) rfl (some 14) rfl (by kernel_rfl) (by kernel_rfl) (by kernel_rfl) (fun _ _ _ h => h) (take_run rfl (fun _ _ => by go_simp)) hS ?_
        simp only [Act.put, List.setIfInBounds_toArray, List.set_cons_zero, List.set_cons_succ]
        refine takeAt (i := 6) (v := .bool true) rfl (some 15) rfl (by kernel_rfl) (by kernel_rfl) (by kernel_rfl) (fun _ _ _ h => h) (take_run rfl (fun _ _ => by go_simp)) hS ?_
        simp only [Act.put, List.setIfInBounds_toArray, List.set_cons_zero, List.set_cons_succ]
        refine wpAnyH_ready (rs := [8]) (by kernel_rfl) (by simp) ?_
        refine (AllReadyH.cons rfl ?_ AllReadyH.nil)
        intro K hK
        rw [if_pos (by rfl)]
        refine wp_store_row 22 _ _ rfl (w3.heap.size) (arrC R) rfl rfl 22 (zL) xh5 (info32_of (arrC R) (arrC_size _)) (zL_size.trans (arrC_size _).symm) (arrC_one _) ?_
        refine put_at (none) rfl ?_
        simp only [Act.put, List.setIfInBounds_toArray, List.set_cons_zero, List.set_cons_succ]
        have xh5 : (w15.setRow (w3.heap.size) (arrC R)).heap[w3.heap.size]? = some (.cells (arrC R) 22 (0, 0)) := (setRow_heap _ _ _ _ _ _ xh5)
        have hS := hS.storeNew (arrC R) (show w1.heap.size ≤ w3.heap.size by omega)
        generalize w15.setRow (w3.heap.size) (arrC R) = w16 at *
        refine hK.out _ _ hS ?_
        clear hK K
        intro _
        have hSz := hS.size
        refine takeAt (i := 9) (v := .bool true) rfl (some 6) rfl (by kernel_rfl) (by kernel_rfl) (by kernel_rfl) (fun _ _ _ h => h) (take_run rfl (fun _ _ => by go_simp)) hS ?_
        simp only [Act.put, List.setIfInBounds_toArray, List.set_cons_zero, List.set_cons_succ]
        refine wpAnyH_done (by kernel_rfl) ?_ _
        refine NoPanic.normal ?_
        have hsz := hS.size
        have h2 : w16.heap[w.heap.size]? = some (.cells (arrC X) 22 (0, 0)) := hS.old h2 (Nat.ne_of_lt (heap_lt h2))
        have h3 : w16.heap[w.heap.size + 1]? = some (.cells (arrC Y) 22 (0, 0)) := hS.old h3 (Nat.ne_of_lt (heap_lt h3))
        have h5 := xh5
        have hBw16 : Hid (Below w.heap.size w w16) := Lib.hid (hBw1.out.trans (hS.below (by omega) hBw1.out.size))
        clear hS
        go_wp2_with fail
        go_meet
        exact ⟨w3.heap.size, rfl, Lib.hid (show w1.heap.size ≤ w3.heap.size by omega), Lib.hid h5, Lib.hid h2, Lib.hid h3, Lib.hid hBw16.out, Lib.hid (show w1.heap.size ≤ w16.heap.size by omega)⟩
    · intro K hK
      refine ready_run rfl (some 5) rfl (.pointer (some ⟨w2.heap.size, 0, none⟩)) (w2.alloc (.cells zL 22)) (by go_simp; try rfl) ?_
      simp only [Act.put, List.setIfInBounds_toArray, List.set_cons_zero, List.set_cons_succ]
      obtain ⟨w18, ea⟩ : ∃ u : World, u = w2.alloc (.cells zL 22) := ⟨_, rfl⟩
      rw [← ea]
      have hS := hS.alloc (.cells zL 22)
      rw [← ea] at hS
      have hz18 : w2.heap.size + 1 ≤ w18.heap.size := by rw [ea, alloc_size]; omega
      have hy18 : w1.heap.size ≤ w2.heap.size := hSz
      have xh5 : w18.heap[w2.heap.size]? = some (.cells (zL) 22 (0, 0)) := by rw [ea]; exact heap_new_at _ _ _ rfl
      clear ea
      refine hK.out _ _ hS ?_
      clear hK K
      intro _
      have hSz := hS.size
      refine wpAnyH_ready (rs := [0]) (by kernel_rfl) (by simp) ?_
      refine (AllReadyH.cons rfl ?_ AllReadyH.nil)
      intro K hK
      refine ready_call rfl (some 10) rfl 13 #[] (by go_simp) ?_
      refine (zero_v _).mono ?_
      rintro e w19 ⟨rfl, hC⟩
      refine ⟨_, rfl, ?_⟩
      simp only [Act.put, List.setIfInBounds_toArray, List.set_cons_zero, List.set_cons_succ]
      have xh5 : w19.heap[w2.heap.size]? = some (.cells (zL) 22 (0, 0)) := (heap_call hC xh5)
      have hS := hS.call hC
      have hz19 := hC.size
      clear hC
      refine hK.out _ _ hS ?_
      clear hK K
      intro _
      have hSz := hS.size
      refine wpAnyH_ready (rs := [2]) (by kernel_rfl) (by simp) ?_
      refine (AllReadyH.cons rfl ?_ AllReadyH.nil)
      intro K hK
      refine ready_call rfl (some 12) rfl 17 #[.agg (arrC X)] (by go_simp) ?_
      refine (slice_any X _).mono ?_
      rintro e w20 ⟨b1, c1, rfl, hcb1, hlb1, hC, xhr1⟩
      refine ⟨_, rfl, ?_⟩
      simp only [Act.put, List.setIfInBounds_toArray, List.set_cons_zero, List.set_cons_succ]
      have xh5 : w20.heap[w2.heap.size]? = some (.cells (zL) 22 (0, 0)) := (heap_call hC xh5)
      have hS := hS.call hC
      have hz20 := hC.size
      clear hC
      refine hK.out _ _ hS ?_
      clear hK K
      intro _
      have hSz := hS.size
      refine wpAnyH_ready (rs := [3]) (by kernel_rfl) (by simp) ?_
      refine (AllReadyH.cons rfl ?_ AllReadyH.nil)
      intro K hK
      refine ready_call rfl (some 13) rfl 16 #[.agg (arrC 0), .slice (some ⟨b1, 0, none⟩) 32 c1] (by go_simp) ?_
      refine (FieldSetBytes_to 0 X b1 c1 hcb1 R HR _ xhr1).mono ?_
      rintro e w21 ⟨rfl, hC⟩
      refine ⟨_, rfl, ?_⟩
      simp only [Act.put, List.setIfInBounds_toArray, List.set_cons_zero, List.set_cons_succ]
      have xh5 : w21.heap[w2.heap.size]? = some (.cells (zL) 22 (0, 0)) := (heap_call hC xh5)
      have xhr1 : Row w21 b1 0 32 (byV X) := (Row.below_all xhr1 hC)
      have hS := hS.call hC
      have hz21 := hC.size
      clear hC
      refine hK.out _ _ hS ?_
      clear hK K
      intro _
      have hSz := hS.size
      refine takeAt (i := 4) (v := .tuple #[.agg (arrC R), .bool true]) rfl (some 9) rfl (by kernel_rfl) (by kernel_rfl) (by kernel_rfl) (fun _ _ _ h => h) (take_run rfl (fun _ _ => by go_simp)) hS ?_
      simp only [Act.put, List.setIfInBounds_toArray, List.set_cons_zero, List.set_cons_succ]
      refine takeAt (i := 5) (v := .agg (arrC R)) rfl (some 14) rfl (by kernel_rfl) (by kernel_rfl) (by kernel_rfl) (fun _ _ _ h => h) (take_run rfl (fun _ _ => by go_simp)) hS ?_
      simp only [Act.put, List.setIfInBounds_toArray, List.set_cons_zero, List.set_cons_succ]
      refine takeAt (i := 6) (v := .bool true) rfl (some 15) rfl (by kernel_rfl) (by kernel_rfl) (by kernel_rfl) (fun _ _ _ h => h) (take_run rfl (fun _ _ => by go_simp)) hS ?_
      simp only [Act.put, List.setIfInBounds_toArray, List.set_cons_zero, List.set_cons_succ]
      refine wpAnyH_ready (rs := [8]) (by kernel_rfl) (by simp) ?_
      refine (AllReadyH.cons rfl ?_ AllReadyH.nil)
      intro K hK
      rw [if_pos (by rfl)]
      refine wp_store_row 22 _ _ rfl (w2.heap.size) (arrC R) rfl rfl 22 (zL) xh5 (info32_of (arrC R) (arrC_size _)) (zL_size.trans (arrC_size _).symm) (arrC_one _) ?_
      refine put_at (none) rfl ?_
      simp only [Act.put, List.setIfInBounds_toArray, List.set_cons_zero, List.set_cons_succ]
      have xh5 : (w21.setRow (w2.heap.size) (arrC R)).heap[w2.heap.size]? = some (.cells (arrC R) 22 (0, 0)) := (setRow_heap _ _ _ _ _ _ xh5)
      have hS := hS.storeNew (arrC R) (show w1.heap.size ≤ w2.heap.size by omega)
      generalize w21.setRow (w2.heap.size) (arrC R) = w22 at *
      refine hK.out _ _ hS ?_
      clear hK K
      intro _
      have hSz := hS.size
      refine takeAt (i := 9) (v := .bool true) rfl (some 6) rfl (by kernel_rfl) (by kernel_rfl) (by kernel_rfl) (fun _ _ _ h => h) (take_run rfl (fun _ _ => by go_simp)) hS ?_
      simp only [Act.put, List.setIfInBounds_toArray, List.set_cons_zero, List.set_cons_succ]
      refine wpAnyH_done (by kernel_rfl) ?_ _
      refine NoPanic.normal ?_
      have hsz := hS.size
      have h2 : w22.heap[w.heap.size]? = some (.cells (arrC X) 22 (0, 0)) := hS.old h2 (Nat.ne_of_lt (heap_lt h2))
      have h3 : w22.heap[w.heap.size + 1]? = some (.cells (arrC Y) 22 (0, 0)) := hS.old h3 (Nat.ne_of_lt (heap_lt h3))
      have h5 := xh5
      have hBw22 : Hid (Below w.heap.size w w22) := Lib.hid (hBw1.out.trans (hS.below (by omega) hBw1.out.size))
      clear hS
      go_wp2_with fail
      go_meet
      exact ⟨w2.heap.size, rfl, Lib.hid (show w1.heap.size ≤ w2.heap.size by omega), Lib.hid h5, Lib.hid h2, Lib.hid h3, Lib.hid hBw22.out, Lib.hid (show w1.heap.size ≤ w22.heap.size by omega)⟩
  case rest =>
    obtain ⟨g5, rfl, Hg5, Hh5, Hh2, Hh3, hBw24, Hsz24⟩ := hcut
    obtain ⟨w24, rfl⟩ : ∃ u : World, u = wc := ⟨_, rfl⟩
    have hgl5 := Hg5.out
    have h5 := Hh5.out
    have hgu5 := heap_lt h5
    have h2 := Hh2.out
    have h3 := Hh3.out
    have hsz24 := Hsz24.out
    go_wp2_with fail
    refine wp_named ?_
    intro w25 ew25
    have hs25 : w24.heap.size ≤ w25.heap.size := by rw [ew25]; (try simp only [alloc_size, setRow_size]); omega
    have h2 : w25.heap[w.heap.size]? = some (.cells (arrC X) 22 (0, 0)) := by rw [ew25]; exact h2
    have h3 : w25.heap[w.heap.size + 1]? = some (.cells (arrC Y) 22 (0, 0)) := by rw [ew25]; exact h3
    have h5 : w25.heap[g5]? = some (.cells (arrC R) 22 (0, 0)) := by rw [ew25]; exact h5
    have hBw25 : Hid (Below w.heap.size w w25) := Lib.hid (by rw [ew25]; exact hBw24.out)
    clear ew25
    go_cut [7] (fun s7 wx => ∃ g7 : Nat, s7 = .pointer (some ⟨g7, 0, none⟩) ∧ Hid (w25.heap.size ≤ g7) ∧ Hid (wx.heap[g7]? = some (.cells (arrC R) 22 (0, 0))) ∧ Hid (wx.heap[w.heap.size]? = some (.cells (arrC X) 22 (0, 0))) ∧ Hid (wx.heap[w.heap.size + 1]? = some (.cells (arrC Y) 22 (0, 0))) ∧ Hid (wx.heap[g5]? = some (.cells (arrC R) 22 (0, 0))) ∧ Hid (Below w.heap.size w wx) ∧ Hid (w25.heap.size ≤ wx.heap.size))
    case first =>
      refine wp_region_noPanic ?_
      refine wp_region_held_drew (S := Keep (w25.heap.size) w25) (by kernel_rfl) (Keep.start _ _) ?_
      intro hS
      obtain ⟨w26, ed⟩ : ∃ u : World, u = w25.drew := ⟨_, rfl⟩
      rw [← ed] at hS ⊢
      have xh2 : w26.heap[w.heap.size]? = some (.cells (arrC X) 22 (0, 0)) := by rw [ed]; exact h2
      have xh3 : w26.heap[w.heap.size + 1]? = some (.cells (arrC Y) 22 (0, 0)) := by rw [ed]; exact h3
      have xh5 : w26.heap[g5]? = some (.cells (arrC R) 22 (0, 0)) := by rw [ed]; exact h5
      clear ed
      have hSz := hS.size
      clear xh2
      clear xh3
      clear xh5
      refine takeAt (i := 1) (v := .agg (arrC Y)) rfl (some 18) rfl (by kernel_rfl) (by kernel_rfl) (by kernel_rfl) (fun _ _ _ h => h) (take_row rfl _ _ rfl (w.heap.size + 1) rfl _ _ _ h3 (Nat.ne_of_lt (heap_lt h3)) under32 rfl (info32_of (arrC Y) (arrC_size _))) hS ?_
      simp only [Act.put, List.setIfInBounds_toArray, List.set_cons_zero, List.set_cons_succ]
      refine wpAnyH_ready (rs := [0, 7]) (by kernel_rfl) (by simp) ?_
      refine (AllReadyH.cons rfl ?_ (AllReadyH.cons rfl ?_ AllReadyH.nil))
      · intro K hK
        refine ready_call rfl (some 17) rfl 13 #[] (by go_simp) ?_
        refine (zero_v _).mono ?_
        rintro e w27 ⟨rfl, hC⟩
        refine ⟨_, rfl, ?_⟩
        simp only [Act.put, List.setIfInBounds_toArray, List.set_cons_zero, List.set_cons_succ]
        have hS := hS.call hC
        have hz27 := hC.size
        clear hC
        refine hK.out _ _ hS ?_
        clear hK K
        intro _
        have hSz := hS.size
        refine wpAnyH_ready (rs := [2, 7]) (by kernel_rfl) (by simp) ?_
        refine (AllReadyH.cons rfl ?_ (AllReadyH.cons rfl ?_ AllReadyH.nil))
        · intro K hK
          refine ready_call rfl (some 19) rfl 17 #[.agg (arrC Y)] (by go_simp) ?_
          refine (slice_any Y _).mono ?_
          rintro e w28 ⟨b2, c2, rfl, hcb2, hlb2, hC, xhr2⟩
          refine ⟨_, rfl, ?_⟩
          simp only [Act.put, List.setIfInBounds_toArray, List.set_cons_zero, List.set_cons_succ]
          have hS := hS.call hC
          have hz28 := hC.size
          clear hC
          refine hK.out _ _ hS ?_
          clear hK K
          intro _
          have hSz := hS.size
          refine wpAnyH_ready (rs := [3, 7]) (by kernel_rfl) (by simp) ?_
          refine (AllReadyH.cons rfl ?_ (AllReadyH.cons rfl ?_ AllReadyH.nil))
          · intro K hK
            refine ready_call rfl (some 20) rfl 16 #[.agg (arrC 0), .slice (some ⟨b2, 0, none⟩) 32 c2] (by go_simp) ?_
            refine (FieldSetBytes_to 0 Y b2 c2 hcb2 R HY _ xhr2).mono ?_
            rintro e w29 ⟨rfl, hC⟩
            refine ⟨_, rfl, ?_⟩
            simp only [Act.put, List.setIfInBounds_toArray, List.set_cons_zero, List.set_cons_succ]
            have xhr2 : Row w29 b2 0 32 (byV Y) := (Row.below_all xhr2 hC)
            have hS := hS.call hC
            have hz29 := hC.size
            clear hC
            refine hK.out _ _ hS ?_
            clear hK K
            intro _
            have hSz := hS.size
            refine takeAt (i := 4) (v := .tuple #[.agg (arrC R), .bool true]) rfl (some 16) rfl (by kernel_rfl) (by kernel_rfl) (by kernel_rfl) (fun _ _ _ h => h) (take_run rfl (fun _ _ => by go_simp)) hS ?_
            simp only [Act.put, List.setIfInBounds_toArray, List.set_cons_zero, List.set_cons_succ]
            refine takeAt (i := 5) (v := .agg (arrC R)) rfl (some 21) rfl (by kernel_rfl) (by kernel_rfl) (by kernel_rfl) (fun _ _ _ h => h) (take_run rfl (fun _ _ => by go_simp)) hS ?_
            simp only [Act.put, List.setIfInBounds_toArray, List.set_cons_zero, List.set_cons_succ]
            refine takeAt (i := 6) (v := .bool true) rfl (some 22) rfl (by kernel_rfl) (by kernel_rfl) (by kernel_rfl) (fun _ _ _ h => h) (take_run rfl (fun _ _ => by go_simp)) hS ?_
            simp only [Act.put, List.setIfInBounds_toArray, List.set_cons_zero, List.set_cons_succ]
            refine wpAnyH_ready (rs := [7]) (by kernel_rfl) (by simp) ?_
            refine (AllReadyH.cons rfl ?_ AllReadyH.nil)
            intro K hK
            refine ready_run rfl (some 7) rfl (.pointer (some ⟨w29.heap.size, 0, none⟩)) (w29.alloc (.cells zL 22)) (by go_simp; try rfl) ?_
            simp only [Act.put, List.setIfInBounds_toArray, List.set_cons_zero, List.set_cons_succ]
            obtain ⟨w30, ea⟩ : ∃ u : World, u = w29.alloc (.cells zL 22) := ⟨_, rfl⟩
            rw [← ea]
            have hS := hS.alloc (.cells zL 22)
            rw [← ea] at hS
            have hz30 : w29.heap.size + 1 ≤ w30.heap.size := by rw [ea, alloc_size]; omega
            have hy30 : w25.heap.size ≤ w29.heap.size := hSz
            have xh7 : w30.heap[w29.heap.size]? = some (.cells (zL) 22 (0, 0)) := by rw [ea]; exact heap_new_at _ _ _ rfl
            clear ea
            refine hK.out _ _ hS ?_
            clear hK K
            intro _
            have hSz := hS.size
            refine wpAnyH_ready (rs := [8]) (by kernel_rfl) (by simp) ?_
            refine (AllReadyH.cons rfl ?_ AllReadyH.nil)
            intro K hK
            rw [if_pos (by rfl)]
            refine wp_store_row 22 _ _ rfl (w29.heap.size) (arrC R) rfl rfl 22 (zL) xh7 (info32_of (arrC R) (arrC_size _)) (zL_size.trans (arrC_size _).symm) (arrC_one _) ?_
            refine put_at (none) rfl ?_
            simp only [Act.put, List.setIfInBounds_toArray, List.set_cons_zero, List.set_cons_succ]
            have xh7 : (w30.setRow (w29.heap.size) (arrC R)).heap[w29.heap.size]? = some (.cells (arrC R) 22 (0, 0)) := (setRow_heap _ _ _ _ _ _ xh7)
            have hS := hS.storeNew (arrC R) (show w25.heap.size ≤ w29.heap.size by omega)
            generalize w30.setRow (w29.heap.size) (arrC R) = w31 at *
            refine hK.out _ _ hS ?_
            clear hK K
            intro _
            have hSz := hS.size
            refine takeAt (i := 9) (v := .bool true) rfl (some 8) rfl (by kernel_rfl) (by kernel_rfl) (by kernel_rfl) (fun _ _ _ h => h) (take_run rfl (fun _ _ => by go_simp)) hS ?_
            simp only [Act.put, List.setIfInBounds_toArray, List.set_cons_zero, List.set_cons_succ]
            refine wpAnyH_done (by kernel_rfl) ?_ _
            refine NoPanic.normal ?_
            have hsz := hS.size
            have h2 : w31.heap[w.heap.size]? = some (.cells (arrC X) 22 (0, 0)) := hS.old h2 (Nat.ne_of_lt (heap_lt h2))
            have h3 : w31.heap[w.heap.size + 1]? = some (.cells (arrC Y) 22 (0, 0)) := hS.old h3 (Nat.ne_of_lt (heap_lt h3))
            have h5 : w31.heap[g5]? = some (.cells (arrC R) 22 (0, 0)) := hS.old h5 (Nat.ne_of_lt (heap_lt h5))
            have h7 := xh7
            have hBw31 : Hid (Below w.heap.size w w31) := Lib.hid (hBw25.out.trans (hS.below (by omega) hBw25.out.size))
            clear hS
            go_wp2_with fail
            go_meet
            exact ⟨w29.heap.size, rfl, Lib.hid (show w25.heap.size ≤ w29.heap.size by omega), Lib.hid h7, Lib.hid h2, Lib.hid h3, Lib.hid h5, Lib.hid hBw31.out, Lib.hid (show w25.heap.size ≤ w31.heap.size by omega)⟩
          · intro K hK
            refine ready_run rfl (some 7) rfl (.pointer (some ⟨w28.heap.size, 0, none⟩)) (w28.alloc (.cells zL 22)) (by go_simp; try rfl) ?_
            simp only [Act.put, List.setIfInBounds_toArray, List.set_cons_zero, List.set_cons_succ]
            obtain ⟨w33, ea⟩ : ∃ u : World, u = w28.alloc (.cells zL 22) := ⟨_, rfl⟩
            rw [← ea]
            have xhr2 : Row w33 b2 0 32 (byV Y) := by rw [ea]; exact (Row.alloc xhr2 _)
            have hS := hS.alloc (.cells zL 22)
            rw [← ea] at hS
            have hz33 : w28.heap.size + 1 ≤ w33.heap.size := by rw [ea, alloc_size]; omega
            have hy33 : w25.heap.size ≤ w28.heap.size := hSz
            have xh7 : w33.heap[w28.heap.size]? = some (.cells (zL) 22 (0, 0)) := by rw [ea]; exact heap_new_at _ _ _ rfl
            clear ea
            refine hK.out _ _ hS ?_
            clear hK K
            intro _
            have hSz := hS.size
            refine wpAnyH_ready (rs := [3]) (by kernel_rfl) (by simp) ?_
            refine (AllReadyH.cons rfl ?_ AllReadyH.nil)
            intro K hK
            refine ready_call rfl (some 20) rfl 16 #[.agg (arrC 0), .slice (some ⟨b2, 0, none⟩) 32 c2] (by go_simp) ?_
            refine (FieldSetBytes_to 0 Y b2 c2 hcb2 R HY _ xhr2).mono ?_
            rintro e w34 ⟨rfl, hC⟩
            refine ⟨_, rfl, ?_⟩
            simp only [Act.put, List.setIfInBounds_toArray, List.set_cons_zero, List.set_cons_succ]
            have xhr2 : Row w34 b2 0 32 (byV Y) := (Row.below_all xhr2 hC)
            have xh7 : w34.heap[w28.heap.size]? = some (.cells (zL) 22 (0, 0)) := (heap_call hC xh7)
            have hS := hS.call hC
            have hz34 := hC.size
            clear hC
            refine hK.out _ _ hS ?_
            clear hK K
            intro _
            have hSz := hS.size
            refine takeAt (i := 4) (v := .tuple #[.agg (arrC R), .bool true]) rfl (some 16) rfl (by kernel_rfl) (by kernel_rfl) (by kernel_rfl) (fun _ _ _ h => h) (take_run rfl (fun _ _ => by go_simp)) hS ?_
            simp only [Act.put, List.setIfInBounds_toArray, List.set_cons_zero, List.set_cons_succ]
            refine takeAt (i := 5) (v := .agg (arrC R)) rfl (some 21) rfl (by kernel_rfl) (by kernel_rfl) (by kernel_rfl) (fun _ _ _ h => h) (take_run rfl (fun _ _ => by go_simp)) hS ?_
            simp only [Act.put, List.setIfInBounds_toArray, List.set_cons_zero, List.set_cons_succ]
            refine takeAt (i := 6) (v := .bool true) rfl (some 22) rfl (by kernel_rfl) (by kernel_rfl) (by kernel_rfl) (fun _ _ _ h => h) (take_run rfl (fun _ _ => by go_simp)) hS ?_
            simp only [Act.put, List.setIfInBounds_toArray, List.set_cons_zero, List.set_cons_succ]
            refine wpAnyH_ready (rs := [8]) (by kernel_rfl) (by simp) ?_
            refine (AllReadyH.cons rfl ?_ AllReadyH.nil)
            intro K hK
            rw [if_pos (by rfl)]
            refine wp_store_row 22 _ _ rfl (w28.heap.size) (arrC R) rfl rfl 22 (zL) xh7 (info32_of (arrC R) (arrC_size _)) (zL_size.trans (arrC_size _).symm) (arrC_one _) ?_
            refine put_at (none) rfl ?_
            simp only [Act.put, List.setIfInBounds_toArray, List.set_cons_zero, List.set_cons_succ]
            have xh7 : (w34.setRow (w28.heap.size) (arrC R)).heap[w28.heap.size]? = some (.cells (arrC R) 22 (0, 0)) := (setRow_heap _ _ _ _ _ _ xh7)
            have hS := hS.storeNew (arrC R) (show w25.heap.size ≤ w28.heap.size by omega)
            generalize w34.setRow (w28.heap.size) (arrC R) = w35 at *
            refine hK.out _ _ hS ?_
            clear hK K
            intro _
            have hSz := hS.size
            refine takeAt (i := 9) (v := .bool true) rfl (some 8) rfl (by kernel_rfl) (by kernel_rfl) (by kernel_rfl) (fun _ _ _ h => h) (take_run rfl (fun _ _ => by go_simp)) hS ?_
            simp only [Act.put, List.setIfInBounds_toArray, List.set_cons_zero, List.set_cons_succ]
            refine wpAnyH_done (by kernel_rfl) ?_ _
            refine NoPanic.normal ?_
            have hsz := hS.size
            have h2 : w35.heap[w.heap.size]? = some (.cells (arrC X) 22 (0, 0)) := hS.old h2 (Nat.ne_of_lt (heap_lt h2))
            have h3 : w35.heap[w.heap.size + 1]? = some (.cells (arrC Y) 22 (0, 0)) := hS.old h3 (Nat.ne_of_lt (heap_lt h3))
            have h5 : w35.heap[g5]? = some (.cells (arrC R) 22 (0, 0)) := hS.old h5 (Nat.ne_of_lt (heap_lt h5))
            have h7 := xh7
            have hBw35 : Hid (Below w.heap.size w w35) := Lib.hid (hBw25.out.trans (hS.below (by omega) hBw25.out.size))
            clear hS
            go_wp2_with fail
            go_meet
            exact ⟨w28.heap.size, rfl, Lib.hid (show w25.heap.size ≤ w28.heap.size by omega), Lib.hid h7, Lib.hid h2, Lib.hid h3, Lib.hid h5, Lib.hid hBw35.out, Lib.hid (show w25.heap.size ≤ w35.heap.size by omega)⟩
        · intro K hK
          refine ready_run rfl (some 7) rfl (.pointer (some ⟨w27.heap.size, 0, none⟩)) (w27.alloc (.cells zL 22)) (by go_simp; try rfl) ?_
          simp only [Act.put, List.setIfInBounds_toArray, List.set_cons_zero, List.set_cons_succ]
          obtain ⟨w37, ea⟩ : ∃ u : World, u = w27.alloc (.cells zL 22) := ⟨_, rfl⟩
          rw [← ea]
          have hS := hS.alloc (.cells zL 22)
          rw [← ea] at hS
          have hz37 : w27.heap.size + 1 ≤ w37.heap.size := by rw [ea, alloc_size]; omega
          have hy37 : w25.heap.size ≤ w27.heap.size := hSz
          have xh7 : w37.heap[w27.heap.size]? = some (.cells (zL) 22 (0, 0)) := by rw [ea]; exact heap_new_at _ _ _ rfl
          clear ea
          refine hK.out _ _ hS ?_
          clear hK K
          intro _
          have hSz := hS.size
          refine wpAnyH_ready (rs := [2]) (by kernel_rfl) (by simp) ?_
          refine (AllReadyH.cons rfl ?_ AllReadyH.nil)
          intro K hK
          refine ready_call rfl (some 19) rfl 17 #[.agg (arrC Y)] (by go_simp) ?_
          refine (slice_any Y _).mono ?_
          rintro e w38 ⟨b2, c2, rfl, hcb2, hlb2, hC, xhr2⟩
          refine ⟨_, rfl, ?_⟩
          simp only [Act.put, List.setIfInBounds_toArray, List.set_cons_zero, List.set_cons_succ]
          have xh7 : w38.heap[w27.heap.size]? = some (.cells (zL) 22 (0, 0)) := (heap_call hC xh7)
          have hS := hS.call hC
          have hz38 := hC.size
          clear hC
          refine hK.out _ _ hS ?_
          clear hK K
          intro _
          have hSz := hS.size
          refine wpAnyH_ready (rs := [3]) (by kernel_rfl) (by simp) ?_
          refine (AllReadyH.cons rfl ?_ AllReadyH.nil)
          intro K hK
          refine ready_call rfl (some 20) rfl 16 #[.agg (arrC 0), .slice (some ⟨b2, 0, none⟩) 32 c2] (by go_simp) ?_
          refine (FieldSetBytes_to 0 Y b2 c2 hcb2 R HY _ xhr2).mono ?_
          rintro e w39 ⟨rfl, hC⟩
          refine ⟨_, rfl, ?_⟩
          simp only [Act.put, List.setIfInBounds_toArray, List.set_cons_zero, List.set_cons_succ]
          have xh7 : w39.heap[w27.heap.size]? = some (.cells (zL) 22 (0, 0)) := (heap_call hC xh7)
          have xhr2 : Row w39 b2 0 32 (byV Y) := (Row.below_all xhr2 hC)
          have hS := hS.call hC
          have hz39 := hC.size
          clear hC
          refine hK.out _ _ hS ?_
          clear hK K
          intro _
          have hSz := hS.size
          refine takeAt (i := 4) (v := .tuple #[.agg (arrC R), .bool true]) rfl (some 16) rfl (by kernel_rfl) (by kernel_rfl) (by kernel_rfl) (fun _ _ _ h => h) (take_run rfl (fun _ _ => by go_simp)) hS ?_
          simp only [Act.put, List.setIfInBounds_toArray, List.set_cons_zero, List.set_cons_succ]
          refine takeAt (i := 5) (v := .agg (arrC R)) rfl (some 21) rfl (by kernel_rfl) (by kernel_rfl) (by kernel_rfl) (fun _ _ _ h => h) (take_run rfl (fun _ _ => by go_simp)) hS ?_
          simp only [Act.put, List.setIfInBounds_toArray, List.set_cons_zero, List.set_cons_succ]
          refine takeAt (i := 6) (v := .bool true) rfl (some 22) rfl (by kernel_rfl) (by kernel_rfl) (by kernel_rfl) (fun _ _ _ h => h) (take_run rfl (fun _ _ => by go_simp)) hS ?_
          simp only [Act.put, List.setIfInBounds_toArray, List.set_cons_zero, List.set_cons_succ]
          refine wpAnyH_ready (rs := [8]) (by kernel_rfl) (by simp) ?_
          refine (AllReadyH.cons rfl ?_ AllReadyH.nil)
          intro K hK
          rw [if_pos (by rfl)]
          refine wp_store_row 22 _ _ rfl (w27.heap.size) (arrC R) rfl rfl 22 (zL) xh7 (info32_of (arrC R) (arrC_size _)) (zL_size.trans (arrC_size _).symm) (arrC_one _) ?_
          refine put_at (none) rfl ?_
          simp only [Act.put, List.setIfInBounds_toArray, List.set_cons_zero, List.set_cons_succ]
          have xh7 : (w39.setRow (w27.heap.size) (arrC R)).heap[w27.heap.size]? = some (.cells (arrC R) 22 (0, 0)) := (setRow_heap _ _ _ _ _ _ xh7)
          have hS := hS.storeNew (arrC R) (show w25.heap.size ≤ w27.heap.size by omega)
          generalize w39.setRow (w27.heap.size) (arrC R) = w40 at *
          refine hK.out _ _ hS ?_
          clear hK K
          intro _
          have hSz := hS.size
          refine takeAt (i := 9) (v := .bool true) rfl (some 8) rfl (by kernel_rfl) (by kernel_rfl) (by kernel_rfl) (fun _ _ _ h => h) (take_run rfl (fun _ _ => by go_simp)) hS ?_
          simp only [Act.put, List.setIfInBounds_toArray, List.set_cons_zero, List.set_cons_succ]
          refine wpAnyH_done (by kernel_rfl) ?_ _
          refine NoPanic.normal ?_
          have hsz := hS.size
          have h2 : w40.heap[w.heap.size]? = some (.cells (arrC X) 22 (0, 0)) := hS.old h2 (Nat.ne_of_lt (heap_lt h2))
          have h3 : w40.heap[w.heap.size + 1]? = some (.cells (arrC Y) 22 (0, 0)) := hS.old h3 (Nat.ne_of_lt (heap_lt h3))
          have h5 : w40.heap[g5]? = some (.cells (arrC R) 22 (0, 0)) := hS.old h5 (Nat.ne_of_lt (heap_lt h5))
          have h7 := xh7
          have hBw40 : Hid (Below w.heap.size w w40) := Lib.hid (hBw25.out.trans (hS.below (by omega) hBw25.out.size))
          clear hS
          go_wp2_with fail
          go_meet
          exact ⟨w27.heap.size, rfl, Lib.hid (show w25.heap.size ≤ w27.heap.size by omega), Lib.hid h7, Lib.hid h2, Lib.hid h3, Lib.hid h5, Lib.hid hBw40.out, Lib.hid (show w25.heap.size ≤ w40.heap.size by omega)⟩
      · intro K hK
        refine ready_run rfl (some 7) rfl (.pointer (some ⟨w26.heap.size, 0, none⟩)) (w26.alloc (.cells zL 22)) (by go_simp; try rfl) ?_
        simp only [Act.put, List.setIfInBounds_toArray, List.set_cons_zero, List.set_cons_succ]
        obtain ⟨w42, ea⟩ : ∃ u : World, u = w26.alloc (.cells zL 22) := ⟨_, rfl⟩
        rw [← ea]
        have hS := hS.alloc (.cells zL 22)
        rw [← ea] at hS
        have hz42 : w26.heap.size + 1 ≤ w42.heap.size := by rw [ea, alloc_size]; omega
        have hy42 : w25.heap.size ≤ w26.heap.size := hSz
        have xh7 : w42.heap[w26.heap.size]? = some (.cells (zL) 22 (0, 0)) := by rw [ea]; exact heap_new_at _ _ _ rfl
        clear ea
        refine hK.out _ _ hS ?_
        clear hK K
        intro _
        have hSz := hS.size
        refine wpAnyH_ready (rs := [0]) (by kernel_rfl) (by simp) ?_
        refine (AllReadyH.cons rfl ?_ AllReadyH.nil)
        intro K hK
        refine ready_call rfl (some 17) rfl 13 #[] (by go_simp) ?_
        refine (zero_v _).mono ?_
        rintro e w43 ⟨rfl, hC⟩
        refine ⟨_, rfl, ?_⟩
        simp only [Act.put, List.setIfInBounds_toArray, List.set_cons_zero, List.set_cons_succ]
        have xh7 : w43.heap[w26.heap.size]? = some (.cells (zL) 22 (0, 0)) := (heap_call hC xh7)
        have hS := hS.call hC
        have hz43 := hC.size
        clear hC
        refine hK.out _ _ hS ?_
        clear hK K
        intro _
        have hSz := hS.size
        refine wpAnyH_ready (rs := [2]) (by kernel_rfl) (by simp) ?_
        refine (AllReadyH.cons rfl ?_ AllReadyH.nil)
        intro K hK
        refine ready_call rfl (some 19) rfl 17 #[.agg (arrC Y)] (by go_simp) ?_
        refine (slice_any Y _).mono ?_
        rintro e w44 ⟨b2, c2, rfl, hcb2, hlb2, hC, xhr2⟩
        refine ⟨_, rfl, ?_⟩
        simp only [Act.put, List.setIfInBounds_toArray, List.set_cons_zero, List.set_cons_succ]
        have xh7 : w44.heap[w26.heap.size]? = some (.cells (zL) 22 (0, 0)) := (heap_call hC xh7)
        have hS := hS.call hC
        have hz44 := hC.size
        clear hC
        refine hK.out _ _ hS ?_
        clear hK K
        intro _
        have hSz := hS.size
        refine wpAnyH_ready (rs := [3]) (by kernel_rfl) (by simp) ?_
        refine (AllReadyH.cons rfl ?_ AllReadyH.nil)
        intro K hK
        refine ready_call rfl (some 20) rfl 16 #[.agg (arrC 0), .slice (some ⟨b2, 0, none⟩) 32 c2] (by go_simp) ?_
        refine (FieldSetBytes_to 0 Y b2 c2 hcb2 R HY _ xhr2).mono ?_
        rintro e w45 ⟨rfl, hC⟩
        refine ⟨_, rfl, ?_⟩
        simp only [Act.put, List.setIfInBounds_toArray, List.set_cons_zero, List.set_cons_succ]
        have xh7 : w45.heap[w26.heap.size]? = some (.cells (zL) 22 (0, 0)) := (heap_call hC xh7)
        have xhr2 : Row w45 b2 0 32 (byV Y) := (Row.below_all xhr2 hC)
        have hS := hS.call hC
        have hz45 := hC.size
        clear hC
        refine hK.out _ _ hS ?_
        clear hK K
        intro _
        have hSz := hS.size
        refine takeAt (i := 4) (v := .tuple #[.agg (arrC R), .bool true]) rfl (some 16) rfl (by kernel_rfl) (by kernel_rfl) (by kernel_rfl) (fun _ _ _ h => h) (take_run rfl (fun _ _ => by go_simp)) hS ?_
        simp only [Act.put, List.setIfInBounds_toArray, List.set_cons_zero, List.set_cons_succ]
        refine takeAt (i := 5) (v := .agg (arrC R)) rfl (some 21) rfl (by kernel_rfl) (by kernel_rfl) (by kernel_rfl) (fun _ _ _ h => h) (take_run rfl (fun _ _ => by go_simp)) hS ?_
        simp only [Act.put, List.setIfInBounds_toArray, List.set_cons_zero, List.set_cons_succ]
        refine takeAt (i := 6) (v := .bool true) rfl (some 22) rfl (by kernel_rfl) (by kernel_rfl) (by kernel_rfl) (fun _ _ _ h => h) (take_run rfl (fun _ _ => by go_simp)) hS ?_
        simp only [Act.put, List.setIfInBounds_toArray, List.set_cons_zero, List.set_cons_succ]
        refine wpAnyH_ready (rs := [8]) (by kernel_rfl) (by simp) ?_
        refine (AllReadyH.cons rfl ?_ AllReadyH.nil)
        intro K hK
        rw [if_pos (by rfl)]
        refine wp_store_row 22 _ _ rfl (w26.heap.size) (arrC R) rfl rfl 22 (zL) xh7 (info32_of (arrC R) (arrC_size _)) (zL_size.trans (arrC_size _).symm) (arrC_one _) ?_
        refine put_at (none) rfl ?_
        simp only [Act.put, List.setIfInBounds_toArray, List.set_cons_zero, List.set_cons_succ]
        have xh7 : (w45.setRow (w26.heap.size) (arrC R)).heap[w26.heap.size]? = some (.cells (arrC R) 22 (0, 0)) := (setRow_heap _ _ _ _ _ _ xh7)
        have hS := hS.storeNew (arrC R) (show w25.heap.size ≤ w26.heap.size by omega)
        generalize w45.setRow (w26.heap.size) (arrC R) = w46 at *
        refine hK.out _ _ hS ?_
        clear hK K
        intro _
        have hSz := hS.size
        refine takeAt (i := 9) (v := .bool true) rfl (some 8) rfl (by kernel_rfl) (by kernel_rfl) (by kernel_rfl) (fun _ _ _ h => h) (take_run rfl (fun _ _ => by go_simp)) hS ?_
        simp only [Act.put, List.setIfInBounds_toArray, List.set_cons_zero, List.set_cons_succ]
        refine wpAnyH_done (by kernel_rfl) ?_ _
        refine NoPanic.normal ?_
        have hsz := hS.size
        have h2 : w46.heap[w.heap.size]? = some (.cells (arrC X) 22 (0, 0)) := hS.old h2 (Nat.ne_of_lt (heap_lt h2))
        have h3 : w46.heap[w.heap.size + 1]? = some (.cells (arrC Y) 22 (0, 0)) := hS.old h3 (Nat.ne_of_lt (heap_lt h3))
        have h5 : w46.heap[g5]? = some (.cells (arrC R) 22 (0, 0)) := hS.old h5 (Nat.ne_of_lt (heap_lt h5))
        have h7 := xh7
        have hBw46 : Hid (Below w.heap.size w w46) := Lib.hid (hBw25.out.trans (hS.below (by omega) hBw25.out.size))
        clear hS
        go_wp2_with fail
        go_meet
        exact ⟨w26.heap.size, rfl, Lib.hid (show w25.heap.size ≤ w26.heap.size by omega), Lib.hid h7, Lib.hid h2, Lib.hid h3, Lib.hid h5, Lib.hid hBw46.out, Lib.hid (show w25.heap.size ≤ w46.heap.size by omega)⟩
    case rest =>
      obtain ⟨g7, rfl, Hg7, Hh7, Hh2, Hh3, Hh5, hBw48, Hsz48⟩ := hcut
      obtain ⟨w48, rfl⟩ : ∃ u : World, u = wc := ⟨_, rfl⟩
      have hgl7 := Hg7.out
      have h7 := Hh7.out
      have hgu7 := heap_lt h7
      have h2 := Hh2.out
      have h3 := Hh3.out
      have h5 := Hh5.out
      have hsz48 := Hsz48.out
      go_wp2_with fail
      refine wp_named ?_
      intro w49 ew49
      have hs49 : w48.heap.size ≤ w49.heap.size := by rw [ew49]; (try simp only [alloc_size, setRow_size]); omega
      have h2 : w49.heap[w.heap.size]? = some (.cells (arrC X) 22 (0, 0)) := by rw [ew49]; exact h2
      have h3 : w49.heap[w.heap.size + 1]? = some (.cells (arrC Y) 22 (0, 0)) := by rw [ew49]; exact h3
      have h5 : w49.heap[g5]? = some (.cells (arrC R) 22 (0, 0)) := by rw [ew49]; exact h5
      have h7 : w49.heap[g7]? = some (.cells (arrC R) 22 (0, 0)) := by rw [ew49]; exact h7
      have hBw49 : Hid (Below w.heap.size w w49) := Lib.hid (by rw [ew49]; exact hBw48.out)
      clear ew49
      refine wp_region_quiet (C := Below w49.heap.size w49) (by kernel_rfl) (by kernel_rfl) (Below.refl _ _).drew ?_
      simp only [List.toList_toArray]
      refine wpQuiet_step (fun K hK => ?_); rw [if_pos (by rfl)]
      refine ⟨.agg (arrC X), fun w' hC => qload _ _ rfl (w.heap.size) rfl _ _ _ h2 under32 rfl (info32_of (arrC X) (arrC_size _)) hC, hK _ ?_⟩; clear hK K
      simp only [Act.put, List.setIfInBounds_toArray, List.set_cons_zero, List.set_cons_succ]
      refine wpQuiet_step (fun K hK => ?_); rw [if_pos (by rfl)]
      refine ⟨.agg (arrC Y), fun w' hC => qload _ _ rfl (w.heap.size + 1) rfl _ _ _ h3 under32 rfl (info32_of (arrC Y) (arrC_size _)) hC, hK _ ?_⟩; clear hK K
      simp only [Act.put, List.setIfInBounds_toArray, List.set_cons_zero, List.set_cons_succ]
      refine wpQuiet_step (fun K hK => ?_); rw [if_pos (by rfl)]
      refine ⟨.int .i64 1, fun w' hC => qcall 18 #[.agg (arrC X), .agg (arrC Y)] (by go_simp) hC (FieldEqual_any X Y 1 HZ w'), hK _ ?_⟩; clear hK K
      simp only [Act.put, List.setIfInBounds_toArray, List.set_cons_zero, List.set_cons_succ]
      refine wpQuiet_step (fun K hK => ?_); rw [if_pos (by rfl)]
      refine ⟨.bool true, fun w' hC => qrun (by go_simp), hK _ ?_⟩; clear hK K
      simp only [Act.put, List.setIfInBounds_toArray, List.set_cons_zero, List.set_cons_succ]
      refine wpQuiet_step (fun K hK => ?_); rw [if_pos (by rfl)]
      refine ⟨.agg (arrC R), fun w' hC => qload _ _ rfl (g5) rfl _ _ _ h5 under32 rfl (info32_of (arrC R) (arrC_size _)) hC, hK _ ?_⟩; clear hK K
      simp only [Act.put, List.setIfInBounds_toArray, List.set_cons_zero, List.set_cons_succ]
      refine wpQuiet_step (fun K hK => ?_); rw [if_pos (by rfl)]
      refine ⟨.agg (arrC R), fun w' hC => qload _ _ rfl (g7) rfl _ _ _ h7 under32 rfl (info32_of (arrC R) (arrC_size _)) hC, hK _ ?_⟩; clear hK K
      simp only [Act.put, List.setIfInBounds_toArray, List.set_cons_zero, List.set_cons_succ]
      refine wpQuiet_step (fun K hK => ?_); rw [if_pos (by rfl)]
      refine ⟨.bool true, fun w' hC => qrun (by go_simp; rw [run_eq_arr _ _ lR lR]; simp), hK _ ?_⟩; clear hK K
      simp only [Act.put, List.setIfInBounds_toArray, List.set_cons_zero, List.set_cons_succ]
      refine wpQuiet_step (fun K hK => ?_); rw [if_pos (by rfl)]
      refine ⟨.bool true, fun w' hC => qrun (by go_simp), hK _ ?_⟩; clear hK K
      simp only [Act.put, List.setIfInBounds_toArray, List.set_cons_zero, List.set_cons_succ]
      refine wpQuiet_step (fun K hK => ?_); rw [if_pos (by rfl)]
      refine ⟨.bool true, fun w' hC => qrun (by go_simp), hK _ ?_⟩; clear hK K
      simp only [Act.put, List.setIfInBounds_toArray, List.set_cons_zero, List.set_cons_succ]
      refine wpQuiet_step (fun K hK => ?_); rw [if_pos (by rfl)]
      refine ⟨.agg (arrC X), fun w' hC => qload _ _ rfl (w.heap.size) rfl _ _ _ h2 under32 rfl (info32_of (arrC X) (arrC_size _)) hC, hK _ ?_⟩; clear hK K
      simp only [Act.put, List.setIfInBounds_toArray, List.set_cons_zero, List.set_cons_succ]
      refine wpQuiet_step (fun K hK => ?_); rw [if_pos (by rfl)]
      refine ⟨.agg (arrC Y), fun w' hC => qload _ _ rfl (w.heap.size + 1) rfl _ _ _ h3 under32 rfl (info32_of (arrC Y) (arrC_size _)) hC, hK _ ?_⟩; clear hK K
      simp only [Act.put, List.setIfInBounds_toArray, List.set_cons_zero, List.set_cons_succ]
      refine wpQuiet_step (fun K hK => ?_); rw [if_pos (by rfl)]
      refine ⟨.int .i64 1, fun w' hC => qcall 18 #[.agg (arrC X), .agg (arrC Y)] (by go_simp) hC (FieldEqual_any X Y 1 HZ w'), hK _ ?_⟩; clear hK K
      simp only [Act.put, List.setIfInBounds_toArray, List.set_cons_zero, List.set_cons_succ]
      refine wpQuiet_step (fun K hK => ?_); rw [if_pos (by rfl)]
      refine ⟨.bool false, fun w' hC => qrun (by go_simp), hK _ ?_⟩; clear hK K
      simp only [Act.put, List.setIfInBounds_toArray, List.set_cons_zero, List.set_cons_succ]
      refine wpQuiet_step (fun K hK => ?_); rw [if_pos (by rfl)]
      refine ⟨.agg (arrC R), fun w' hC => qload _ _ rfl (g5) rfl _ _ _ h5 under32 rfl (info32_of (arrC R) (arrC_size _)) hC, hK _ ?_⟩; clear hK K
      simp only [Act.put, List.setIfInBounds_toArray, List.set_cons_zero, List.set_cons_succ]
      refine wpQuiet_step (fun K hK => ?_); rw [if_pos (by rfl)]
      refine ⟨.agg (arrC R), fun w' hC => qload _ _ rfl (g7) rfl _ _ _ h7 under32 rfl (info32_of (arrC R) (arrC_size _)) hC, hK _ ?_⟩; clear hK K
      simp only [Act.put, List.setIfInBounds_toArray, List.set_cons_zero, List.set_cons_succ]
      refine wpQuiet_step (fun K hK => ?_); rw [if_pos (by rfl)]
      refine ⟨.bool false, fun w' hC => qrun (by go_simp; rw [run_eq_arr _ _ lR lR]; simp), hK _ ?_⟩; clear hK K
      simp only [Act.put, List.setIfInBounds_toArray, List.set_cons_zero, List.set_cons_succ]
      refine wpQuiet_step (fun K hK => ?_); rw [if_pos (by rfl)]
      refine ⟨.bool true, fun w' hC => qrun (by go_simp), hK _ ?_⟩; clear hK K
      simp only [Act.put, List.setIfInBounds_toArray, List.set_cons_zero, List.set_cons_succ]
      refine wpQuiet_step (fun K hK => ?_); rw [if_pos (by rfl)]
      refine ⟨.bool true, fun w' hC => qrun (by go_simp), hK _ ?_⟩; clear hK K
      simp only [Act.put, List.setIfInBounds_toArray, List.set_cons_zero, List.set_cons_succ]
      refine wpQuiet_step (fun K hK => ?_); rw [if_pos (by rfl)]
      refine ⟨.bool true, fun w' hC => qrun (by go_simp), hK _ ?_⟩; clear hK K
      simp only [Act.put, List.setIfInBounds_toArray, List.set_cons_zero, List.set_cons_succ]
      refine wpQuiet_nil ?_
      intro w50 hC
      have hs50 := hC.size
      have h2 : w50.heap[w.heap.size]? = some (.cells (arrC X) 22 (0, 0)) := (heap_call hC h2)
      have h3 : w50.heap[w.heap.size + 1]? = some (.cells (arrC Y) 22 (0, 0)) := (heap_call hC h3)
      have h5 : w50.heap[g5]? = some (.cells (arrC R) 22 (0, 0)) := (heap_call hC h5)
      have h7 : w50.heap[g7]? = some (.cells (arrC R) 22 (0, 0)) := (heap_call hC h7)
      have hBw50 : Hid (Below w.heap.size w w50) := Lib.hid (below_call hBw49.out hC)
      clear hC
      go_wp2
      go_ret
      exact ⟨rfl, hBw50.out⟩

set_option maxHeartbeats 2000000 in
theorem EqualBytes_other (X Y R S : Nat) (HR : Hid (R = valN X)) (HY : Hid (S = valN Y)) (hne : ¬ R = S) (w : World) :
    Calls Try.prog 5 #[.agg (arrC X), .agg (arrC Y)] w fun e w' => e = .returned (.bool true) ∧ Below w.heap.size w w' := by
  have lR : R < 256 ^ 32 := by rw [HR.out]; exact lt32p _ (valN_lt _)
  have lS : S < 256 ^ 32 := by rw [HY.out]; exact lt32p _ (valN_lt _)
  have HZ : Hid ((0 : Int) = if valN X = valN Y then 1 else 0) := Lib.hid (by rw [← HR.out, ← HY.out, if_neg hne])
  go_enter Try.func5, Try.ntmps5
  go_wp2_with fail
  refine wp_named ?_
  intro w1 ew1
  have hs1 : w.heap.size + 1 + 1 ≤ w1.heap.size := by rw [ew1]; (try simp only [alloc_size, setRow_size]); omega
  have h2 : w1.heap[w.heap.size]? = some (.cells (arrC X) 22 (0, 0)) := by rw [ew1]; exact (heap_old _ (heap_new_at _ _ _ rfl))
  have h3 : w1.heap[w.heap.size + 1]? = some (.cells (arrC Y) 22 (0, 0)) := by rw [ew1]; exact (heap_new_at _ _ _ (by simp only [alloc_size, setRow_size]))
  have hBw1 : Hid (Below w.heap.size w w1) := Lib.hid (by rw [ew1]; exact (below_alloc (below_alloc (Below.refl _ w) _) _))
  clear ew1
  go_cut [5] (fun s5 wx => ∃ g5 : Nat, s5 = .pointer (some ⟨g5, 0, none⟩) ∧ Hid (w1.heap.size ≤ g5) ∧ Hid (wx.heap[g5]? = some (.cells (arrC R) 22 (0, 0))) ∧ Hid (wx.heap[w.heap.size]? = some (.cells (arrC X) 22 (0, 0))) ∧ Hid (wx.heap[w.heap.size + 1]? = some (.cells (arrC Y) 22 (0, 0))) ∧ Hid (Below w.heap.size w wx) ∧ Hid (w1.heap.size ≤ wx.heap.size))
  case first =>
    refine wp_region_noPanic ?_
    refine wp_region_held_drew (S := Keep (w1.heap.size) w1) (by kernel_rfl) (Keep.start _ _) ?_
    intro hS
    obtain ⟨w2, ed⟩ : ∃ u : World, u = w1.drew := ⟨_, rfl⟩
    rw [← ed] at hS ⊢
    have xh2 : w2.heap[w.heap.size]? = some (.cells (arrC X) 22 (0, 0)) := by rw [ed]; exact h2
    have xh3 : w2.heap[w.heap.size + 1]? = some (.cells (arrC Y) 22 (0, 0)) := by rw [ed]; exact h3
    clear ed
    have hSz := hS.size
    clear xh2
    clear xh3
    refine takeAt (i := 1) (v := .agg (arrC X)) rfl (some 11) rfl (by kernel_rfl) (by kernel_rfl) (by kernel_rfl) (fun _ _ _ h => h) (take_row rfl _ _ rfl (w.heap.size) rfl _ _ _ h2 (Nat.ne_of_lt (heap_lt h2)) under32 rfl (info32_of (arrC X) (arrC_size _))) hS ?_
    simp only [Act.put, List.setIfInBounds_toArray, List.set_cons_zero, List.set_cons_succ]
    refine wpAnyH_ready (rs := [0, 7]) (by kernel_rfl) (by simp) ?_
    refine (AllReadyH.cons rfl ?_ (AllReadyH.cons rfl ?_ AllReadyH.nil))
    · intro K hK
      refine ready_call rfl (some 10) rfl 13 #[] (by go_simp) ?_
      refine (zero_v _).mono ?_
      rintro e w3 ⟨rfl, hC⟩
      refine ⟨_, rfl, ?_⟩
      simp only [Act.put, List.setIfInBounds_toArray, List.set_cons_zero, List.set_cons_succ]
      have hS := hS.call hC
      have hz3 := hC.size
      clear hC
      refine hK.out _ _ hS ?_
      clear hK K
      intro _
      have hSz := hS.size
      refine wpAnyH_ready (rs := [2, 7]) (by kernel_rfl) (by simp) ?_
      refine (AllReadyH.cons rfl ?_ (AllReadyH.cons rfl ?_ AllReadyH.nil))
      · intro K hK
        refine ready_call rfl (some 12) rfl 17 #[.agg (arrC X)] (by go_simp) ?_
        refine (slice_any X _).mono ?_
        rintro e w4 ⟨b1, c1, rfl, hcb1, hlb1, hC, xhr1⟩
        refine ⟨_, rfl, ?_⟩
        simp only [Act.put, List.setIfInBounds_toArray, List.set_cons_zero, List.set_cons_succ]
        have hS := hS.call hC
        have hz4 := hC.size
        clear hC
        refine hK.out _ _ hS ?_
        clear hK K
        intro _
        have hSz := hS.size
        refine wpAnyH_ready (rs := [3, 7]) (by kernel_rfl) (by simp) ?_
        refine (AllReadyH.cons rfl ?_ (AllReadyH.cons rfl ?_ AllReadyH.nil))
        · intro K hK
          refine ready_call rfl (some 13) rfl 16 #[.agg (arrC 0), .slice (some ⟨b1, 0, none⟩) 32 c1] (by go_simp) ?_
          refine (FieldSetBytes_to 0 X b1 c1 hcb1 R HR _ xhr1).mono ?_
          rintro e w5 ⟨rfl, hC⟩
          refine ⟨_, rfl, ?_⟩
          simp only [Act.put, List.setIfInBounds_toArray, List.set_cons_zero, List.set_cons_succ]
          have xhr1 : Row w5 b1 0 32 (byV X) := (Row.below_all xhr1 hC)
          have hS := hS.call hC
          have hz5 := hC.size
          clear hC
          refine hK.out _ _ hS ?_
          clear hK K
          intro _
          have hSz := hS.size
          refine takeAt (i := 4) (v := .tuple #[.agg (arrC R), .bool true]) rfl (some 9) rfl (by kernel_rfl) (by kernel_rfl) (by kernel_rfl) (fun _ _ _ h => h) (take_run rfl (fun _ _ => by go_simp)) hS ?_
          simp only [Act.put, List.setIfInBounds_toArray, List.set_cons_zero, List.set_cons_succ]
          refine takeAt (i := 5) (v := .agg (arrC R)) rfl (some 14) rfl (by kernel_rfl) (by kernel_rfl) (by kernel_rfl) (fun _ _ _ h => h) (take_run rfl (fun _ _ => by go_simp)) hS ?_
          simp only [Act.put, List.setIfInBounds_toArray, List.set_cons_zero, List.set_cons_succ]
          refine takeAt (i := 6) (v := .bool true) rfl (some 15) rfl (by kernel_rfl) (by kernel_rfl) (by kernel_rfl) (fun _ _ _ h => h) (take_run rfl (fun _ _ => by go_simp)) hS ?_
          simp only [Act.put, List.setIfInBounds_toArray, List.set_cons_zero, List.set_cons_succ]
          refine wpAnyH_ready (rs := [7]) (by kernel_rfl) (by simp) ?_
          refine (AllReadyH.cons rfl ?_ AllReadyH.nil)
          intro K hK
          refine ready_run rfl (some 5) rfl (.pointer (some ⟨w5.heap.size, 0, none⟩)) (w5.alloc (.cells zL 22)) (by go_simp; try rfl) ?_
          simp only [Act.put, List.setIfInBounds_toArray, List.set_cons_zero, List.set_cons_succ]
          obtain ⟨w6, ea⟩ : ∃ u : World, u = w5.alloc (.cells zL 22) := ⟨_, rfl⟩
          rw [← ea]
          have hS := hS.alloc (.cells zL 22)
          rw [← ea] at hS
          have hz6 : w5.heap.size + 1 ≤ w6.heap.size := by rw [ea, alloc_size]; omega
          have hy6 : w1.heap.size ≤ w5.heap.size := hSz
          have xh5 : w6.heap[w5.heap.size]? = some (.cells (zL) 22 (0, 0)) := by rw [ea]; exact heap_new_at _ _ _ rfl
          clear ea
          refine hK.out _ _ hS ?_
          clear hK K
          intro _
          have hSz := hS.size
          refine wpAnyH_ready (rs := [8]) (by kernel_rfl) (by simp) ?_
          refine (AllReadyH.cons rfl ?_ AllReadyH.nil)
          intro K hK
          rw [if_pos (by rfl)]
          refine wp_store_row 22 _ _ rfl (w5.heap.size) (arrC R) rfl rfl 22 (zL) xh5 (info32_of (arrC R) (arrC_size _)) (zL_size.trans (arrC_size _).symm) (arrC_one _) ?_
          refine put_at (none) rfl ?_
          simp only [Act.put, List.setIfInBounds_toArray, List.set_cons_zero, List.set_cons_succ]
          have xh5 : (w6.setRow (w5.heap.size) (arrC R)).heap[w5.heap.size]? = some (.cells (arrC R) 22 (0, 0)) := (setRow_heap _ _ _ _ _ _ xh5)
          have hS := hS.storeNew (arrC R) (show w1.heap.size ≤ w5.heap.size by omega)
          generalize w6.setRow (w5.heap.size) (arrC R) = w7 at *
          refine hK.out _ _ hS ?_
          clear hK K
          intro _
          have hSz := hS.size
          refine takeAt (i := 9) (v := .bool true) rfl (some 6) rfl (by kernel_rfl) (by kernel_rfl) (by kernel_rfl) (fun _ _ _ h => h) (take_run rfl (fun _ _ => by go_simp)) hS ?_
          simp only [Act.put, List.setIfInBounds_toArray, List.set_cons_zero, List.set_cons_succ]
          refine wpAnyH_done (by kernel_rfl) ?_ _
          refine NoPanic.normal ?_
          have hsz := hS.size
          have h2 : w7.heap[w.heap.size]? = some (.cells (arrC X) 22 (0, 0)) := hS.old h2 (Nat.ne_of_lt (heap_lt h2))
          have h3 : w7.heap[w.heap.size + 1]? = some (.cells (arrC Y) 22 (0, 0)) := hS.old h3 (Nat.ne_of_lt (heap_lt h3))
          have h5 := xh5
          have hBw7 : Hid (Below w.heap.size w w7) := Lib.hid (hBw1.out.trans (hS.below (by omega) hBw1.out.size))
          clear hS
          go_wp2_with fail
          go_meet
          exact ⟨w5.heap.size, rfl, Lib.hid (show w1.heap.size ≤ w5.heap.size by omega), Lib.hid h5, Lib.hid h2, Lib.hid h3, Lib.hid hBw7.out, Lib.hid (show w1.heap.size ≤ w7.heap.size by omega)⟩
        · intro K hK
          refine ready_run rfl (some 5) rfl (.pointer (some ⟨w4.heap.size, 0, none⟩)) (w4.alloc (.cells zL 22)) (by go_simp; try rfl) ?_
          simp only [Act.put, List.setIfInBounds_toArray, List.set_cons_zero, List.set_cons_succ]
          obtain ⟨w9, ea⟩ : ∃ u : World, u = w4.alloc (.cells zL 22) := ⟨_, rfl⟩
          rw [← ea]
          have xhr1 : Row w9 b1 0 32 (byV X) := by rw [ea]; exact (Row.alloc xhr1 _)
          have hS := hS.alloc (.cells zL 22)
          rw [← ea] at hS
          have hz9 : w4.heap.size + 1 ≤ w9.heap.size := by rw [ea, alloc_size]; omega
          have hy9 : w1.heap.size ≤ w4.heap.size := hSz
          have xh5 : w9.heap[w4.heap.size]? = some (.cells (zL) 22 (0, 0)) := by rw [ea]; exact heap_new_at _ _ _ rfl
          clear ea
          refine hK.out _ _ hS ?_
          clear hK K
          intro _
          have hSz := hS.size
          refine wpAnyH_ready (rs := [3]) (by kernel_rfl) (by simp) ?_
          refine (AllReadyH.cons rfl ?_ AllReadyH.nil)
          intro K hK
          refine ready_call rfl (some 13) rfl 16 #[.agg (arrC 0), .slice (some ⟨b1, 0, none⟩) 32 c1] (by go_simp) ?_
          refine (FieldSetBytes_to 0 X b1 c1 hcb1 R HR _ xhr1).mono ?_
          rintro e w10 ⟨rfl, hC⟩
          refine ⟨_, rfl, ?_⟩
          simp only [Act.put, List.setIfInBounds_toArray, List.set_cons_zero, List.set_cons_succ]
          have xhr1 : Row w10 b1 0 32 (byV X) := (Row.below_all xhr1 hC)
          have xh5 : w10.heap[w4.heap.size]? = some (.cells (zL) 22 (0, 0)) := (heap_call hC xh5)
          have hS := hS.call hC
          have hz10 := hC.size
          clear hC
          refine hK.out _ _ hS ?_
          clear hK K
          intro _
          have hSz := hS.size
          refine takeAt (i := 4) (v := .tuple #[.agg (arrC R), .bool true]) rfl (some 9) rfl (by kernel_rfl) (by kernel_rfl) (by kernel_rfl) (fun _ _ _ h => h) (take_run rfl (fun _ _ => by go_simp)) hS ?_
          simp only [Act.put, List.setIfInBounds_toArray, List.set_cons_zero, List.set_cons_succ]
          refine takeAt (i := 5) (v := .agg (arrC R)) rfl (some 14) rfl (by kernel_rfl) (by kernel_rfl) (by kernel_rfl) (fun _ _ _ h => h) (take_run rfl (fun _ _ => by go_simp)) hS ?_
          simp only [Act.put, List.setIfInBounds_toArray, List.set_cons_zero, List.set_cons_succ]
          refine takeAt (i := 6) (v := .bool true) rfl (some 15) rfl (by kernel_rfl) (by kernel_rfl) (by kernel_rfl) (fun _ _ _ h => h) (take_run rfl (fun _ _ => by go_simp)) hS ?_
          simp only [Act.put, List.setIfInBounds_toArray, List.set_cons_zero, List.set_cons_succ]
          refine wpAnyH_ready (rs := [8]) (by kernel_rfl) (by simp) ?_
          refine (AllReadyH.cons rfl ?_ AllReadyH.nil)
          intro K hK
          rw [if_pos (by rfl)]
          refine wp_store_row 22 _ _ rfl (w4.heap.size) (arrC R) rfl rfl 22 (zL) xh5 (info32_of (arrC R) (arrC_size _)) (zL_size.trans (arrC_size _).symm) (arrC_one _) ?_
          refine put_at (none) rfl ?_
          simp only [Act.put, List.setIfInBounds_toArray, List.set_cons_zero, List.set_cons_succ]
          have xh5 : (w10.setRow (w4.heap.size) (arrC R)).heap[w4.heap.size]? = some (.cells (arrC R) 22 (0, 0)) := (setRow_heap _ _ _ _ _ _ xh5)
          have hS := hS.storeNew (arrC R) (show w1.heap.size ≤ w4.heap.size by omega)
          generalize w10.setRow (w4.heap.size) (arrC R) = w11 at *
          refine hK.out _ _ hS ?_
          clear hK K
          intro _
          have hSz := hS.size
          refine takeAt (i := 9) (v := .bool true) rfl (some 6) rfl (by kernel_rfl) (by kernel_rfl) (by kernel_rfl) (fun _ _ _ h => h) (take_run rfl (fun _ _ => by go_simp)) hS ?_
          simp only [Act.put, List.setIfInBounds_toArray, List.set_cons_zero, List.set_cons_succ]
          refine wpAnyH_done (by kernel_rfl) ?_ _
          refine NoPanic.normal ?_
          have hsz := hS.size
          have h2 : w11.heap[w.heap.size]? = some (.cells (arrC X) 22 (0, 0)) := hS.old h2 (Nat.ne_of_lt (heap_lt h2))
          have h3 : w11.heap[w.heap.size + 1]? = some (.cells (arrC Y) 22 (0, 0)) := hS.old h3 (Nat.ne_of_lt (heap_lt h3))
          have h5 := xh5
          have hBw11 : Hid (Below w.heap.size w w11) := Lib.hid (hBw1.out.trans (hS.below (by omega) hBw1.out.size))
          clear hS
          go_wp2_with fail
          go_meet
          exact ⟨w4.heap.size, rfl, Lib.hid (show w1.heap.size ≤ w4.heap.size by omega), Lib.hid h5, Lib.hid h2, Lib.hid h3, Lib.hid hBw11.out, Lib.hid (show w1.heap.size ≤ w11.heap.size by omega)⟩
      · intro K hK
        refine ready_run rfl (some 5) rfl (.pointer (some ⟨w3.heap.size, 0, none⟩)) (w3.alloc (.cells zL 22)) (by go_simp; try rfl) ?_
        simp only [Act.put, List.setIfInBounds_toArray, List.set_cons_zero, List.set_cons_succ]
        obtain ⟨w13, ea⟩ : ∃ u : World, u = w3.alloc (.cells zL 22) := ⟨_, rfl⟩
        rw [← ea]
        have hS := hS.alloc (.cells zL 22)
        rw [← ea] at hS
        have hz13 : w3.heap.size + 1 ≤ w13.heap.size := by rw [ea, alloc_size]; omega
        have hy13 : w1.heap.size ≤ w3.heap.size := hSz
        have xh5 : w13.heap[w3.heap.size]? = some (.cells (zL) 22 (0, 0)) := by rw [ea]; exact heap_new_at _ _ _ rfl
        clear ea
        refine hK.out _ _ hS ?_
        clear hK K
        intro _
        have hSz := hS.size
        refine wpAnyH_ready (rs := [2]) (by kernel_rfl) (by simp) ?_
        refine (AllReadyH.cons rfl ?_ AllReadyH.nil)
        intro K hK
        refine ready_call rfl (some 12) rfl 17 #[.agg (arrC X)] (by go_simp) ?_
        refine (slice_any X _).mono ?_
        rintro e w14 ⟨b1, c1, rfl, hcb1, hlb1, hC, xhr1⟩
        refine ⟨_, rfl, ?_⟩
        simp only [Act.put, List.setIfInBounds_toArray, List.set_cons_zero, List.set_cons_succ]
        have xh5 : w14.heap[w3.heap.size]? = some (.cells (zL) 22 (0, 0)) := (heap_call hC xh5)
        have hS := hS.call hC
        have hz14 := hC.size
        clear hC
        refine hK.out _ _ hS ?_
        clear hK K
        intro _
        have hSz := hS.size
        refine wpAnyH_ready (rs := [3]) (by kernel_rfl) (by simp) ?_
        refine (AllReadyH.cons rfl ?_ AllReadyH.nil)
        intro K hK
        refine ready_call rfl (some 13) rfl 16 #[.agg (arrC 0), .slice (some ⟨b1, 0, none⟩) 32 c1] (by go_simp) ?_
        refine (FieldSetBytes_to 0 X b1 c1 hcb1 R HR _ xhr1).mono ?_
        rintro e w15 ⟨rfl, hC⟩
        refine ⟨_, rfl, ?_⟩
        simp only [Act.put, List.setIfInBounds_toArray, List.set_cons_zero, List.set_cons_succ]
        have xh5 : w15.heap[w3.heap.size]? = some (.cells (zL) 22 (0, 0)) := (heap_call hC xh5)
        have xhr1 : Row w15 b1 0 32 (byV X) := (Row.below_all xhr1 hC)
        have hS := hS.call hC
        have hz15 := hC.size
        clear hC
        refine hK.out _ _ hS ?_
        clear hK K
        intro _
        have hSz := hS.size
        refine takeAt (i := 4) (v := .tuple #[.agg (arrC R), .bool true]) rfl (some 9) rfl (by kernel_rfl) (by kernel_rfl) (by kernel_rfl) (fun _ _ _ h => h) (take_run rfl (fun _ _ => by go_simp)) hS ?_
        simp only [Act.put, List.setIfInBounds_toArray, List.set_cons_zero, List.set_cons_succ]
        refine takeAt (i := 5) (v := .agg (arrC R)) rfl (some 14) rfl (by kernel_rfl) (by kernel_rfl) (by kernel_rfl) (fun _ _ _ h => h) (take_run rfl (fun _ _ => by go_simp)) hS ?_
        simp only [Act.put, List.setIfInBounds_toArray, List.set_cons_zero, List.set_cons_succ]
        refine takeAt (i := 6) (v := .bool true) rfl (some 15) rfl (by kernel_rfl) (by kernel_rfl) (by kernel_rfl) (fun _ _ _ h => h) (take_run rfl (fun _ _ => by go_simp)) hS ?_
        simp only [Act.put, List.setIfInBounds_toArray, List.set_cons_zero, List.set_cons_succ]
        refine wpAnyH_ready (rs := [8]) (by kernel_rfl) (by simp) ?_
        refine (AllReadyH.cons rfl ?_ AllReadyH.nil)
        intro K hK
        rw [if_pos (by rfl)]
        refine wp_store_row 22 _ _ rfl (w3.heap.size) (arrC R) rfl rfl 22 (zL) xh5 (info32_of (arrC R) (arrC_size _)) (zL_size.trans (arrC_size _).symm) (arrC_one _) ?_
        refine put_at (none) rfl ?_
        simp only [Act.put, List.setIfInBounds_toArray, List.set_cons_zero, List.set_cons_succ]
        have xh5 : (w15.setRow (w3.heap.size) (arrC R)).heap[w3.heap.size]? = some (.cells (arrC R) 22 (0, 0)) := (setRow_heap _ _ _ _ _ _ xh5)
        have hS := hS.storeNew (arrC R) (show w1.heap.size ≤ w3.heap.size by omega)
        generalize w15.setRow (w3.heap.size) (arrC R) = w16 at *
        refine hK.out _ _ hS ?_
        clear hK K
        intro _
        have hSz := hS.size
        refine takeAt (i := 9) (v := .bool true) rfl (some 6) rfl (by kernel_rfl) (by kernel_rfl) (by kernel_rfl) (fun _ _ _ h => h) (take_run rfl (fun _ _ => by go_simp)) hS ?_
        simp only [Act.put, List.setIfInBounds_toArray, List.set_cons_zero, List.set_cons_succ]
        refine wpAnyH_done (by kernel_rfl) ?_ _
        refine NoPanic.normal ?_
        have hsz := hS.size
        have h2 : w16.heap[w.heap.size]? = some (.cells (arrC X) 22 (0, 0)) := hS.old h2 (Nat.ne_of_lt (heap_lt h2))
        have h3 : w16.heap[w.heap.size + 1]? = some (.cells (arrC Y) 22 (0, 0)) := hS.old h3 (Nat.ne_of_lt (heap_lt h3))
        have h5 := xh5
        have hBw16 : Hid (Below w.heap.size w w16) := Lib.hid (hBw1.out.trans (hS.below (by omega) hBw1.out.size))
        clear hS
        go_wp2_with fail
        go_meet
        exact ⟨w3.heap.size, rfl, Lib.hid (show w1.heap.size ≤ w3.heap.size by omega), Lib.hid h5, Lib.hid h2, Lib.hid h3, Lib.hid hBw16.out, Lib.hid (show w1.heap.size ≤ w16.heap.size by omega)⟩
    · intro K hK
      refine ready_run rfl (some 5) rfl (.pointer (some ⟨w2.heap.size, 0, none⟩)) (w2.alloc (.cells zL 22)) (by go_simp; try rfl) ?_
      simp only [Act.put, List.setIfInBounds_toArray, List.set_cons_zero, List.set_cons_succ]
      obtain ⟨w18, ea⟩ : ∃ u : World, u = w2.alloc (.cells zL 22) := ⟨_, rfl⟩
      rw [← ea]
      have hS := hS.alloc (.cells zL 22)
      rw [← ea] at hS
      have hz18 : w2.heap.size + 1 ≤ w18.heap.size := by rw [ea, alloc_size]; omega
      have hy18 : w1.heap.size ≤ w2.heap.size := hSz
      have xh5 : w18.heap[w2.heap.size]? = some (.cells (zL) 22 (0, 0)) := by rw [ea]; exact heap_new_at _ _ _ rfl
      clear ea
      refine hK.out _ _ hS ?_
      clear hK K
      intro _
      have hSz := hS.size
      refine wpAnyH_ready (rs := [0]) (by kernel_rfl) (by simp) ?_
      refine (AllReadyH.cons rfl ?_ AllReadyH.nil)
      intro K hK
      refine ready_call rfl (some 10) rfl 13 #[] (by go_simp) ?_
      refine (zero_v _).mono ?_
      rintro e w19 ⟨rfl, hC⟩
      refine ⟨_, rfl, ?_⟩
      simp only [Act.put, List.setIfInBounds_toArray, List.set_cons_zero, List.set_cons_succ]
      have xh5 : w19.heap[w2.heap.size]? = some (.cells (zL) 22 (0, 0)) := (heap_call hC xh5)
      have hS := hS.call hC
      have hz19 := hC.size
      clear hC
      refine hK.out _ _ hS ?_
      clear hK K
      intro _
      have hSz := hS.size
      refine wpAnyH_ready (rs := [2]) (by kernel_rfl) (by simp) ?_
      refine (AllReadyH.cons rfl ?_ AllReadyH.nil)
      intro K hK
      refine ready_call rfl (some 12) rfl 17 #[.agg (arrC X)] (by go_simp) ?_
      refine (slice_any X _).mono ?_
      rintro e w20 ⟨b1, c1, rfl, hcb1, hlb1, hC, xhr1⟩
      refine ⟨_, rfl, ?_⟩
      simp only [Act.put, List.setIfInBounds_toArray, List.set_cons_zero, List.set_cons_succ]
      have xh5 : w20.heap[w2.heap.size]? = some (.cells (zL) 22 (0, 0)) := (heap_call hC xh5)
      have hS := hS.call hC
      have hz20 := hC.size
      clear hC
      refine hK.out _ _ hS ?_
      clear hK K
      intro _
      have hSz := hS.size
      refine wpAnyH_ready (rs := [3]) (by kernel_rfl) (by simp) ?_
      refine (AllReadyH.cons rfl ?_ AllReadyH.nil)
      intro K hK
      refine ready_call rfl (some 13) rfl 16 #[.agg (arrC 0), .slice (some ⟨b1, 0, none⟩) 32 c1] (by go_simp) ?_
      refine (FieldSetBytes_to 0 X b1 c1 hcb1 R HR _ xhr1).mono ?_
      rintro e w21 ⟨rfl, hC⟩
      refine ⟨_, rfl, ?_⟩
      simp only [Act.put, List.setIfInBounds_toArray, List.set_cons_zero, List.set_cons_succ]
      have xh5 : w21.heap[w2.heap.size]? = some (.cells (zL) 22 (0, 0)) := (heap_call hC xh5)
      have xhr1 : Row w21 b1 0 32 (byV X) := (Row.below_all xhr1 hC)
      have hS := hS.call hC
      have hz21 := hC.size
      clear hC
      refine hK.out _ _ hS ?_
      clear hK K
      intro _
      have hSz := hS.size
      refine takeAt (i := 4) (v := .tuple #[.agg (arrC R), .bool true]) rfl (some 9) rfl (by kernel_rfl) (by kernel_rfl) (by kernel_rfl) (fun _ _ _ h => h) (take_run rfl (fun _ _ => by go_simp)) hS ?_
      simp only [Act.put, List.setIfInBounds_toArray, List.set_cons_zero, List.set_cons_succ]
      refine takeAt (i := 5) (v := .agg (arrC R)) rfl (some 14) rfl (by kernel_rfl) (by kernel_rfl) (by kernel_rfl) (fun _ _ _ h => h) (take_run rfl (fun _ _ => by go_simp)) hS ?_
      simp only [Act.put, List.setIfInBounds_toArray, List.set_cons_zero, List.set_cons_succ]
      refine takeAt (i := 6) (v := .bool true) rfl (some 15) rfl (by kernel_rfl) (by kernel_rfl) (by kernel_rfl) (fun _ _ _ h => h) (take_run rfl (fun _ _ => by go_simp)) hS ?_
      simp only [Act.put, List.setIfInBounds_toArray, List.set_cons_zero, List.set_cons_succ]
      refine wpAnyH_ready (rs := [8]) (by kernel_rfl) (by simp) ?_
      refine (AllReadyH.cons rfl ?_ AllReadyH.nil)
      intro K hK
      rw [if_pos (by rfl)]
      refine wp_store_row 22 _ _ rfl (w2.heap.size) (arrC R) rfl rfl 22 (zL) xh5 (info32_of (arrC R) (arrC_size _)) (zL_size.trans (arrC_size _).symm) (arrC_one _) ?_
      refine put_at (none) rfl ?_
      simp only [Act.put, List.setIfInBounds_toArray, List.set_cons_zero, List.set_cons_succ]
      have xh5 : (w21.setRow (w2.heap.size) (arrC R)).heap[w2.heap.size]? = some (.cells (arrC R) 22 (0, 0)) := (setRow_heap _ _ _ _ _ _ xh5)
      have hS := hS.storeNew (arrC R) (show w1.heap.size ≤ w2.heap.size by omega)
      generalize w21.setRow (w2.heap.size) (arrC R) = w22 at *
      refine hK.out _ _ hS ?_
      clear hK K
      intro _
      have hSz := hS.size
      refine takeAt (i := 9) (v := .bool true) rfl (some 6) rfl (by kernel_rfl) (by kernel_rfl) (by kernel_rfl) (fun _ _ _ h => h) (take_run rfl (fun _ _ => by go_simp)) hS ?_
      simp only [Act.put, List.setIfInBounds_toArray, List.set_cons_zero, List.set_cons_succ]
      refine wpAnyH_done (by kernel_rfl) ?_ _
      refine NoPanic.normal ?_
      have hsz := hS.size
      have h2 : w22.heap[w.heap.size]? = some (.cells (arrC X) 22 (0, 0)) := hS.old h2 (Nat.ne_of_lt (heap_lt h2))
      have h3 : w22.heap[w.heap.size + 1]? = some (.cells (arrC Y) 22 (0, 0)) := hS.old h3 (Nat.ne_of_lt (heap_lt h3))
      have h5 := xh5
      have hBw22 : Hid (Below w.heap.size w w22) := Lib.hid (hBw1.out.trans (hS.below (by omega) hBw1.out.size))
      clear hS
      go_wp2_with fail
      go_meet
      exact ⟨w2.heap.size, rfl, Lib.hid (show w1.heap.size ≤ w2.heap.size by omega), Lib.hid h5, Lib.hid h2, Lib.hid h3, Lib.hid hBw22.out, Lib.hid (show w1.heap.size ≤ w22.heap.size by omega)⟩
  case rest =>
    obtain ⟨g5, rfl, Hg5, Hh5, Hh2, Hh3, hBw24, Hsz24⟩ := hcut
    obtain ⟨w24, rfl⟩ : ∃ u : World, u = wc := ⟨_, rfl⟩
    have hgl5 := Hg5.out
    have h5 := Hh5.out
    have hgu5 := heap_lt h5
    have h2 := Hh2.out
    have h3 := Hh3.out
    have hsz24 := Hsz24.out
    go_wp2_with fail
    refine wp_named ?_
    intro w25 ew25
    have hs25 : w24.heap.size ≤ w25.heap.size := by rw [ew25]; (try simp only [alloc_size, setRow_size]); omega
    have h2 : w25.heap[w.heap.size]? = some (.cells (arrC X) 22 (0, 0)) := by rw [ew25]; exact h2
    have h3 : w25.heap[w.heap.size + 1]? = some (.cells (arrC Y) 22 (0, 0)) := by rw [ew25]; exact h3
    have h5 : w25.heap[g5]? = some (.cells (arrC R) 22 (0, 0)) := by rw [ew25]; exact h5
    have hBw25 : Hid (Below w.heap.size w w25) := Lib.hid (by rw [ew25]; exact hBw24.out)
    clear ew25
    go_cut [7] (fun s7 wx => ∃ g7 : Nat, s7 = .pointer (some ⟨g7, 0, none⟩) ∧ Hid (w25.heap.size ≤ g7) ∧ Hid (wx.heap[g7]? = some (.cells (arrC S) 22 (0, 0))) ∧ Hid (wx.heap[w.heap.size]? = some (.cells (arrC X) 22 (0, 0))) ∧ Hid (wx.heap[w.heap.size + 1]? = some (.cells (arrC Y) 22 (0, 0))) ∧ Hid (wx.heap[g5]? = some (.cells (arrC R) 22 (0, 0))) ∧ Hid (Below w.heap.size w wx) ∧ Hid (w25.heap.size ≤ wx.heap.size))
    case first =>
      refine wp_region_noPanic ?_
      refine wp_region_held_drew (S := Keep (w25.heap.size) w25) (by kernel_rfl) (Keep.start _ _) ?_
      intro hS
      obtain ⟨w26, ed⟩ : ∃ u : World, u = w25.drew := ⟨_, rfl⟩
      rw [← ed] at hS ⊢
      have xh2 : w26.heap[w.heap.size]? = some (.cells (arrC X) 22 (0, 0)) := by rw [ed]; exact h2
      have xh3 : w26.heap[w.heap.size + 1]? = some (.cells (arrC Y) 22 (0, 0)) := by rw [ed]; exact h3
      have xh5 : w26.heap[g5]? = some (.cells (arrC R) 22 (0, 0)) := by rw [ed]; exact h5
      clear ed
      have hSz := hS.size
      clear xh2
      clear xh3
      clear xh5
      refine takeAt (i := 1) (v := .agg (arrC Y)) rfl (some 18) rfl (by kernel_rfl) (by kernel_rfl) (by kernel_rfl) (fun _ _ _ h => h) (take_row rfl _ _ rfl (w.heap.size + 1) rfl _ _ _ h3 (Nat.ne_of_lt (heap_lt h3)) under32 rfl (info32_of (arrC Y) (arrC_size _))) hS ?_
      simp only [Act.put, List.setIfInBounds_toArray, List.set_cons_zero, List.set_cons_succ]
      refine wpAnyH_ready (rs := [0, 7]) (by kernel_rfl) (by simp) ?_
      refine (AllReadyH.cons rfl ?_ (AllReadyH.cons rfl ?_ AllReadyH.nil))
      · intro K hK
        refine ready_call rfl (some 17) rfl 13 #[] (by go_simp) ?_
        refine (zero_v _).mono ?_
        rintro e w27 ⟨rfl, hC⟩
        refine ⟨_, rfl, ?_⟩
        simp only [Act.put, List.setIfInBounds_toArray, List.set_cons_zero, List.set_cons_succ]
        have hS := hS.call hC
        have hz27 := hC.size
        clear hC
        refine hK.out _ _ hS ?_
        clear hK K
        intro _
        have hSz := hS.size
        refine wpAnyH_ready (rs := [2, 7]) (by kernel_rfl) (by simp) ?_
        refine (AllReadyH.cons rfl ?_ (AllReadyH.cons rfl ?_ AllReadyH.nil))
        · intro K hK
          refine ready_call rfl (some 19) rfl 17 #[.agg (arrC Y)] (by go_simp) ?_
          refine (slice_any Y _).mono ?_
          rintro e w28 ⟨b2, c2, rfl, hcb2, hlb2, hC, xhr2⟩
          refine ⟨_, rfl, ?_⟩
          simp only [Act.put, List.setIfInBounds_toArray, List.set_cons_zero, List.set_cons_succ]
          have hS := hS.call hC
          have hz28 := hC.size
          clear hC
          refine hK.out _ _ hS ?_
          clear hK K
          intro _
          have hSz := hS.size
          refine wpAnyH_ready (rs := [3, 7]) (by kernel_rfl) (by simp) ?_
          refine (AllReadyH.cons rfl ?_ (AllReadyH.cons rfl ?_ AllReadyH.nil))
          · intro K hK
            refine ready_call rfl (some 20) rfl 16 #[.agg (arrC 0), .slice (some ⟨b2, 0, none⟩) 32 c2] (by go_simp) ?_
            refine (FieldSetBytes_to 0 Y b2 c2 hcb2 S HY _ xhr2).mono ?_
            rintro e w29 ⟨rfl, hC⟩
            refine ⟨_, rfl, ?_⟩
            simp only [Act.put, List.setIfInBounds_toArray, List.set_cons_zero, List.set_cons_succ]
            have xhr2 : Row w29 b2 0 32 (byV Y) := (Row.below_all xhr2 hC)
            have hS := hS.call hC
            have hz29 := hC.size
            clear hC
            refine hK.out _ _ hS ?_
            clear hK K
            intro _
            have hSz := hS.size
            refine takeAt (i := 4) (v := .tuple #[.agg (arrC S), .bool true]) rfl (some 16) rfl (by kernel_rfl) (by kernel_rfl) (by kernel_rfl) (fun _ _ _ h => h) (take_run rfl (fun _ _ => by go_simp)) hS ?_
            simp only [Act.put, List.setIfInBounds_toArray, List.set_cons_zero, List.set_cons_succ]
            refine takeAt (i := 5) (v := .agg (arrC S)) rfl (some 21) rfl (by kernel_rfl) (by kernel_rfl) (by kernel_rfl) (fun _ _ _ h => h) (take_run rfl (fun _ _ => by go_simp)) hS ?_
            simp only [Act.put, List.setIfInBounds_toArray, List.set_cons_zero, List.set_cons_succ]
            refine takeAt (i := 6) (v := .bool true) rfl (some 22) rfl (by kernel_rfl) (by kernel_rfl) (by kernel_rfl) (fun _ _ _ h => h) (take_run rfl (fun _ _ => by go_simp)) hS ?_
            simp only [Act.put, List.setIfInBounds_toArray, List.set_cons_zero, List.set_cons_succ]
            refine wpAnyH_ready (rs := [7]) (by kernel_rfl) (by simp) ?_
            refine (AllReadyH.cons rfl ?_ AllReadyH.nil)
            intro K hK
            refine ready_run rfl (some 7) rfl (.pointer (some ⟨w29.heap.size, 0, none⟩)) (w29.alloc (.cells zL 22)) (by go_simp; try rfl) ?_
            simp only [Act.put, List.setIfInBounds_toArray, List.set_cons_zero, List.set_cons_succ]
            obtain ⟨w30, ea⟩ : ∃ u : World, u = w29.alloc (.cells zL 22) := ⟨_, rfl⟩
            rw [← ea]
            have hS := hS.alloc (.cells zL 22)
            rw [← ea] at hS
            have hz30 : w29.heap.size + 1 ≤ w30.heap.size := by rw [ea, alloc_size]; omega
            have hy30 : w25.heap.size ≤ w29.heap.size := hSz
            have xh7 : w30.heap[w29.heap.size]? = some (.cells (zL) 22 (0, 0)) := by rw [ea]; exact heap_new_at _ _ _ rfl
            clear ea
            refine hK.out _ _ hS ?_
            clear hK K
            intro _
            have hSz := hS.size
            refine wpAnyH_ready (rs := [8]) (by kernel_rfl) (by simp) ?_
            refine (AllReadyH.cons rfl ?_ AllReadyH.nil)
            intro K hK
            rw [if_pos (by rfl)]
            refine wp_store_row 22 _ _ rfl (w29.heap.size) (arrC S) rfl rfl 22 (zL) xh7 (info32_of (arrC S) (arrC_size _)) (zL_size.trans (arrC_size _).symm) (arrC_one _) ?_
            refine put_at (none) rfl ?_
            simp only [Act.put, List.setIfInBounds_toArray, List.set_cons_zero, List.set_cons_succ]
            have xh7 : (w30.setRow (w29.heap.size) (arrC S)).heap[w29.heap.size]? = some (.cells (arrC S) 22 (0, 0)) := (setRow_heap _ _ _ _ _ _ xh7)
            have hS := hS.storeNew (arrC S) (show w25.heap.size ≤ w29.heap.size by omega)
            generalize w30.setRow (w29.heap.size) (arrC S) = w31 at *
            refine hK.out _ _ hS ?_
            clear hK K
            intro _
            have hSz := hS.size
            refine takeAt (i := 9) (v := .bool true) rfl (some 8) rfl (by kernel_rfl) (by kernel_rfl) (by kernel_rfl) (fun _ _ _ h => h) (take_run rfl (fun _ _ => by go_simp)) hS ?_
            simp only [Act.put, List.setIfInBounds_toArray, List.set_cons_zero, List.set_cons_succ]
            refine wpAnyH_done (by kernel_rfl) ?_ _
            refine NoPanic.normal ?_
            have hsz := hS.size
            have h2 : w31.heap[w.heap.size]? = some (.cells (arrC X) 22 (0, 0)) := hS.old h2 (Nat.ne_of_lt (heap_lt h2))
            have h3 : w31.heap[w.heap.size + 1]? = some (.cells (arrC Y) 22 (0, 0)) := hS.old h3 (Nat.ne_of_lt (heap_lt h3))
            have h5 : w31.heap[g5]? = some (.cells (arrC R) 22 (0, 0)) := hS.old h5 (Nat.ne_of_lt (heap_lt h5))
            have h7 := xh7
            have hBw31 : Hid (Below w.heap.size w w31) := Lib.hid (hBw25.out.trans (hS.below (by omega) hBw25.out.size))
            clear hS
            go_wp2_with fail
            go_meet
            exact ⟨w29.heap.size, rfl, Lib.hid (show w25.heap.size ≤ w29.heap.size by omega), Lib.hid h7, Lib.hid h2, Lib.hid h3, Lib.hid h5, Lib.hid hBw31.out, Lib.hid (show w25.heap.size ≤ w31.heap.size by omega)⟩
          · intro K hK
            refine ready_run rfl (some 7) rfl (.pointer (some ⟨w28.heap.size, 0, none⟩)) (w28.alloc (.cells zL 22)) (by go_simp; try rfl) ?_
            simp only [Act.put, List.setIfInBounds_toArray, List.set_cons_zero, List.set_cons_succ]
            obtain ⟨w33, ea⟩ : ∃ u : World, u = w28.alloc (.cells zL 22) := ⟨_, rfl⟩
            rw [← ea]
            have xhr2 : Row w33 b2 0 32 (byV Y) := by rw [ea]; exact (Row.alloc xhr2 _)
            have hS := hS.alloc (.cells zL 22)
            rw [← ea] at hS
            have hz33 : w28.heap.size + 1 ≤ w33.heap.size := by rw [ea, alloc_size]; omega
            have hy33 : w25.heap.size ≤ w28.heap.size := hSz
            have xh7 : w33.heap[w28.heap.size]? = some (.cells (zL) 22 (0, 0)) := by rw [ea]; exact heap_new_at _ _ _ rfl
            clear ea
            refine hK.out _ _ hS ?_
            clear hK K
            intro _
            have hSz := hS.size
            refine wpAnyH_ready (rs := [3]) (by kernel_rfl) (by simp) ?_
            refine (AllReadyH.cons rfl ?_ AllReadyH.nil)
            intro K hK
            refine ready_call rfl (some 20) rfl 16 #[.agg (arrC 0), .slice (some ⟨b2, 0, none⟩) 32 c2] (by go_simp) ?_
            refine (FieldSetBytes_to 0 Y b2 c2 hcb2 S HY _ xhr2).mono ?_
            rintro e w34 ⟨rfl, hC⟩
            refine ⟨_, rfl, ?_⟩
            simp only [Act.put, List.setIfInBounds_toArray, List.set_cons_zero, List.set_cons_succ]
            have xhr2 : Row w34 b2 0 32 (byV Y) := (Row.below_all xhr2 hC)
            have xh7 : w34.heap[w28.heap.size]? = some (.cells (zL) 22 (0, 0)) := (heap_call hC xh7)
            have hS := hS.call hC
            have hz34 := hC.size
            clear hC
            refine hK.out _ _ hS ?_
            clear hK K
            intro _
            have hSz := hS.size
            refine takeAt (i := 4) (v := .tuple #[.agg (arrC S), .bool true]) rfl (some 16) rfl (by kernel_rfl) (by kernel_rfl) (by kernel_rfl) (fun _ _ _ h => h) (take_run rfl (fun _ _ => by go_simp)) hS ?_
            simp only [Act.put, List.setIfInBounds_toArray, List.set_cons_zero, List.set_cons_succ]
            refine takeAt (i := 5) (v := .agg (arrC S)) rfl (some 21) rfl (by kernel_rfl) (by kernel_rfl) (by kernel_rfl) (fun _ _ _ h => h) (take_run rfl (fun _ _ => by go_simp)) hS ?_
            simp only [Act.put, List.setIfInBounds_toArray, List.set_cons_zero, List.set_cons_succ]
            refine takeAt (i := 6) (v := .bool true) rfl (some 22) rfl (by kernel_rfl) (by kernel_rfl) (by kernel_rfl) (fun _ _ _ h => h) (take_run rfl (fun _ _ => by go_simp)) hS ?_
            simp only [Act.put, List.setIfInBounds_toArray, List.set_cons_zero, List.set_cons_succ]
            refine wpAnyH_ready (rs := [8]) (by kernel_rfl) (by simp) ?_
            refine (AllReadyH.cons rfl ?_ AllReadyH.nil)
            intro K hK
            rw [if_pos (by rfl)]
            refine wp_store_row 22 _ _ rfl (w28.heap.size) (arrC S) rfl rfl 22 (zL) xh7 (info32_of (arrC S) (arrC_size _)) (zL_size.trans (arrC_size _).symm) (arrC_one _) ?_
            refine put_at (none) rfl ?_
            simp only [Act.put, List.setIfInBounds_toArray, List.set_cons_zero, List.set_cons_succ]
            have xh7 : (w34.setRow (w28.heap.size) (arrC S)).heap[w28.heap.size]? = some (.cells (arrC S) 22 (0, 0)) := (setRow_heap _ _ _ _ _ _ xh7)
            have hS := hS.storeNew (arrC S) (show w25.heap.size ≤ w28.heap.size by omega)
            generalize w34.setRow (w28.heap.size) (arrC S) = w35 at *
            refine hK.out _ _ hS ?_
            clear hK K
            intro _
            have hSz := hS.size
            refine takeAt (i := 9) (v := .bool true) rfl (some 8) rfl (by kernel_rfl) (by kernel_rfl) (by kernel_rfl) (fun _ _ _ h => h) (take_run rfl (fun _ _ => by go_simp)) hS ?_
            simp only [Act.put, List.setIfInBounds_toArray, List.set_cons_zero, List.set_cons_succ]
            refine wpAnyH_done (by kernel_rfl) ?_ _
            refine NoPanic.normal ?_
            have hsz := hS.size
            have h2 : w35.heap[w.heap.size]? = some (.cells (arrC X) 22 (0, 0)) := hS.old h2 (Nat.ne_of_lt (heap_lt h2))
            have h3 : w35.heap[w.heap.size + 1]? = some (.cells (arrC Y) 22 (0, 0)) := hS.old h3 (Nat.ne_of_lt (heap_lt h3))
            have h5 : w35.heap[g5]? = some (.cells (arrC R) 22 (0, 0)) := hS.old h5 (Nat.ne_of_lt (heap_lt h5))
            have h7 := xh7
            have hBw35 : Hid (Below w.heap.size w w35) := Lib.hid (hBw25.out.trans (hS.below (by omega) hBw25.out.size))
            clear hS
            go_wp2_with fail
            go_meet
            exact ⟨w28.heap.size, rfl, Lib.hid (show w25.heap.size ≤ w28.heap.size by omega), Lib.hid h7, Lib.hid h2, Lib.hid h3, Lib.hid h5, Lib.hid hBw35.out, Lib.hid (show w25.heap.size ≤ w35.heap.size by omega)⟩
        · intro K hK
          refine ready_run rfl (some 7) rfl (.pointer (some ⟨w27.heap.size, 0, none⟩)) (w27.alloc (.cells zL 22)) (by go_simp; try rfl) ?_
          simp only [Act.put, List.setIfInBounds_toArray, List.set_cons_zero, List.set_cons_succ]
          obtain ⟨w37, ea⟩ : ∃ u : World, u = w27.alloc (.cells zL 22) := ⟨_, rfl⟩
          rw [← ea]
          have hS := hS.alloc (.cells zL 22)
          rw [← ea] at hS
          have hz37 : w27.heap.size + 1 ≤ w37.heap.size := by rw [ea, alloc_size]; omega
          have hy37 : w25.heap.size ≤ w27.heap.size := hSz
          have xh7 : w37.heap[w27.heap.size]? = some (.cells (zL) 22 (0, 0)) := by rw [ea]; exact heap_new_at _ _ _ rfl
          clear ea
          refine hK.out _ _ hS ?_
          clear hK K
          intro _
          have hSz := hS.size
          refine wpAnyH_ready (rs := [2]) (by kernel_rfl) (by simp) ?_
          refine (AllReadyH.cons rfl ?_ AllReadyH.nil)
          intro K hK
          refine ready_call rfl (some 19) rfl 17 #[.agg (arrC Y)] (by go_simp) ?_
          refine (slice_any Y _).mono ?_
          rintro e w38 ⟨b2, c2, rfl, hcb2, hlb2, hC, xhr2⟩
          refine ⟨_, rfl, ?_⟩
          simp only [Act.put, List.setIfInBounds_toArray, List.set_cons_zero, List.set_cons_succ]
          have xh7 : w38.heap[w27.heap.size]? = some (.cells (zL) 22 (0, 0)) := (heap_call hC xh7)
          have hS := hS.call hC
          have hz38 := hC.size
          clear hC
          refine hK.out _ _ hS ?_
          clear hK K
          intro _
          have hSz := hS.size
          refine wpAnyH_ready (rs := [3]) (by kernel_rfl) (by simp) ?_
          refine (AllReadyH.cons rfl ?_ AllReadyH.nil)
          intro K hK
          refine ready_call rfl (some 20) rfl 16 #[.agg (arrC 0), .slice (some ⟨b2, 0, none⟩) 32 c2] (by go_simp) ?_
          refine (FieldSetBytes_to 0 Y b2 c2 hcb2 S HY _ xhr2).mono ?_
          rintro e w39 ⟨rfl, hC⟩
          refine ⟨_, rfl, ?_⟩
          simp only [Act.put, List.setIfInBounds_toArray, List.set_cons_zero, List.set_cons_succ]
          have xh7 : w39.heap[w27.heap.size]? = some (.cells (zL) 22 (0, 0)) := (heap_call hC xh7)
          have xhr2 : Row w39 b2 0 32 (byV Y) := (Row.below_all xhr2 hC)
          have hS := hS.call hC
          have hz39 := hC.size
          clear hC
          refine hK.out _ _ hS ?_
          clear hK K
          intro _
          have hSz := hS.size
          refine takeAt (i := 4) (v := .tuple #[.agg (arrC S), .bool true]) rfl (some 16) rfl (by kernel_rfl) (by kernel_rfl) (by kernel_rfl) (fun _ _ _ h => h) (take_run rfl (fun _ _ => by go_simp)) hS ?_
          simp only [Act.put, List.setIfInBounds_toArray, List.set_cons_zero, List.set_cons_succ]
          refine takeAt (i := 5) (v := .agg (arrC S)) rfl (some 21) rfl (by kernel_rfl) (by kernel_rfl) (by kernel_rfl) (fun _ _ _ h => h) (take_run rfl (fun _ _ => by go_simp)) hS ?_
          simp only [Act.put, List.setIfInBounds_toArray, List.set_cons_zero, List.set_cons_succ]
          refine takeAt (i := 6) (v := .bool true) rfl (some 22) rfl (by kernel_rfl) (by kernel_rfl) (by kernel_rfl) (fun _ _ _ h => h) (take_run rfl (fun _ _ => by go_simp)) hS ?_
          simp only [Act.put, List.setIfInBounds_toArray, List.set_cons_zero, List.set_cons_succ]
          refine wpAnyH_ready (rs := [8]) (by kernel_rfl) (by simp) ?_
          refine (AllReadyH.cons rfl ?_ AllReadyH.nil)
          intro K hK
          rw [if_pos (by rfl)]
          refine wp_store_row 22 _ _ rfl (w27.heap.size) (arrC S) rfl rfl 22 (zL) xh7 (info32_of (arrC S) (arrC_size _)) (zL_size.trans (arrC_size _).symm) (arrC_one _) ?_
          refine put_at (none) rfl ?_
          simp only [Act.put, List.setIfInBounds_toArray, List.set_cons_zero, List.set_cons_succ]
          have xh7 : (w39.setRow (w27.heap.size) (arrC S)).heap[w27.heap.size]? = some (.cells (arrC S) 22 (0, 0)) := (setRow_heap _ _ _ _ _ _ xh7)
          have hS := hS.storeNew (arrC S) (show w25.heap.size ≤ w27.heap.size by omega)
          generalize w39.setRow (w27.heap.size) (arrC S) = w40 at *
          refine hK.out _ _ hS ?_
          clear hK K
          intro _
          have hSz := hS.size
          refine takeAt (i := 9) (v := .bool true) rfl (some 8) rfl (by kernel_rfl) (by kernel_rfl) (by kernel_rfl) (fun _ _ _ h => h) (take_run rfl (fun _ _ => by go_simp)) hS ?_
          simp only [Act.put, List.setIfInBounds_toArray, List.set_cons_zero, List.set_cons_succ]
          refine wpAnyH_done (by kernel_rfl) ?_ _
          refine NoPanic.normal ?_
          have hsz := hS.size
          have h2 : w40.heap[w.heap.size]? = some (.cells (arrC X) 22 (0, 0)) := hS.old h2 (Nat.ne_of_lt (heap_lt h2))
          have h3 : w40.heap[w.heap.size + 1]? = some (.cells (arrC Y) 22 (0, 0)) := hS.old h3 (Nat.ne_of_lt (heap_lt h3))
          have h5 : w40.heap[g5]? = some (.cells (arrC R) 22 (0, 0)) := hS.old h5 (Nat.ne_of_lt (heap_lt h5))
          have h7 := xh7
          have hBw40 : Hid (Below w.heap.size w w40) := Lib.hid (hBw25.out.trans (hS.below (by omega) hBw25.out.size))
          clear hS
          go_wp2_with fail
          go_meet
          exact ⟨w27.heap.size, rfl, Lib.hid (show w25.heap.size ≤ w27.heap.size by omega), Lib.hid h7, Lib.hid h2, Lib.hid h3, Lib.hid h5, Lib.hid hBw40.out, Lib.hid (show w25.heap.size ≤ w40.heap.size by omega)⟩
      · intro K hK
        refine ready_run rfl (some 7) rfl (.pointer (some ⟨w26.heap.size, 0, none⟩)) (w26.alloc (.cells zL 22)) (by go_simp; try rfl) ?_
        simp only [Act.put, List.setIfInBounds_toArray, List.set_cons_zero, List.set_cons_succ]
        obtain ⟨w42, ea⟩ : ∃ u : World, u = w26.alloc (.cells zL 22) := ⟨_, rfl⟩
        rw [← ea]
        have hS := hS.alloc (.cells zL 22)
        rw [← ea] at hS
        have hz42 : w26.heap.size + 1 ≤ w42.heap.size := by rw [ea, alloc_size]; omega
        have hy42 : w25.heap.size ≤ w26.heap.size := hSz
        have xh7 : w42.heap[w26.heap.size]? = some (.cells (zL) 22 (0, 0)) := by rw [ea]; exact heap_new_at _ _ _ rfl
        clear ea
        refine hK.out _ _ hS ?_
        clear hK K
        intro _
        have hSz := hS.size
        refine wpAnyH_ready (rs := [0]) (by kernel_rfl) (by simp) ?_
        refine (AllReadyH.cons rfl ?_ AllReadyH.nil)
        intro K hK
        refine ready_call rfl (some 17) rfl 13 #[] (by go_simp) ?_
        refine (zero_v _).mono ?_
        rintro e w43 ⟨rfl, hC⟩
        refine ⟨_, rfl, ?_⟩
        simp only [Act.put, List.setIfInBounds_toArray, List.set_cons_zero, List.set_cons_succ]
        have xh7 : w43.heap[w26.heap.size]? = some (.cells (zL) 22 (0, 0)) := (heap_call hC xh7)
        have hS := hS.call hC
        have hz43 := hC.size
        clear hC
        refine hK.out _ _ hS ?_
        clear hK K
        intro _
        have hSz := hS.size
        refine wpAnyH_ready (rs := [2]) (by kernel_rfl) (by simp) ?_
        refine (AllReadyH.cons rfl ?_ AllReadyH.nil)
        intro K hK
        refine ready_call rfl (some 19) rfl 17 #[.agg (arrC Y)] (by go_simp) ?_
        refine (slice_any Y _).mono ?_
        rintro e w44 ⟨b2, c2, rfl, hcb2, hlb2, hC, xhr2⟩
        refine ⟨_, rfl, ?_⟩
        simp only [Act.put, List.setIfInBounds_toArray, List.set_cons_zero, List.set_cons_succ]
        have xh7 : w44.heap[w26.heap.size]? = some (.cells (zL) 22 (0, 0)) := (heap_call hC xh7)
        have hS := hS.call hC
        have hz44 := hC.size
        clear hC
        refine hK.out _ _ hS ?_
        clear hK K
        intro _
        have hSz := hS.size
        refine wpAnyH_ready (rs := [3]) (by kernel_rfl) (by simp) ?_
        refine (AllReadyH.cons rfl ?_ AllReadyH.nil)
        intro K hK
        refine ready_call rfl (some 20) rfl 16 #[.agg (arrC 0), .slice (some ⟨b2, 0, none⟩) 32 c2] (by go_simp) ?_
        refine (FieldSetBytes_to 0 Y b2 c2 hcb2 S HY _ xhr2).mono ?_
        rintro e w45 ⟨rfl, hC⟩
        refine ⟨_, rfl, ?_⟩
        simp only [Act.put, List.setIfInBounds_toArray, List.set_cons_zero, List.set_cons_succ]
        have xh7 : w45.heap[w26.heap.size]? = some (.cells (zL) 22 (0, 0)) := (heap_call hC xh7)
        have xhr2 : Row w45 b2 0 32 (byV Y) := (Row.below_all xhr2 hC)
        have hS := hS.call hC
        have hz45 := hC.size
        clear hC
        refine hK.out _ _ hS ?_
        clear hK K
        intro _
        have hSz := hS.size
        refine takeAt (i := 4) (v := .tuple #[.agg (arrC S), .bool true]) rfl (some 16) rfl (by kernel_rfl) (by kernel_rfl) (by kernel_rfl) (fun _ _ _ h => h) (take_run rfl (fun _ _ => by go_simp)) hS ?_
        simp only [Act.put, List.setIfInBounds_toArray, List.set_cons_zero, List.set_cons_succ]
        refine takeAt (i := 5) (v := .agg (arrC S)) rfl (some 21) rfl (by kernel_rfl) (by kernel_rfl) (by kernel_rfl) (fun _ _ _ h => h) (take_run rfl (fun _ _ => by go_simp)) hS ?_
        simp only [Act.put, List.setIfInBounds_toArray, List.set_cons_zero, List.set_cons_succ]
        refine takeAt (i := 6) (v := .bool true) rfl (some 22) rfl (by kernel_rfl) (by kernel_rfl) (by kernel_rfl) (fun _ _ _ h => h) (take_run rfl (fun _ _ => by go_simp)) hS ?_
        simp only [Act.put, List.setIfInBounds_toArray, List.set_cons_zero, List.set_cons_succ]
        refine wpAnyH_ready (rs := [8]) (by kernel_rfl) (by simp) ?_
        refine (AllReadyH.cons rfl ?_ AllReadyH.nil)
        intro K hK
        rw [if_pos (by rfl)]
        refine wp_store_row 22 _ _ rfl (w26.heap.size) (arrC S) rfl rfl 22 (zL) xh7 (info32_of (arrC S) (arrC_size _)) (zL_size.trans (arrC_size _).symm) (arrC_one _) ?_
        refine put_at (none) rfl ?_
        simp only [Act.put, List.setIfInBounds_toArray, List.set_cons_zero, List.set_cons_succ]
        have xh7 : (w45.setRow (w26.heap.size) (arrC S)).heap[w26.heap.size]? = some (.cells (arrC S) 22 (0, 0)) := (setRow_heap _ _ _ _ _ _ xh7)
        have hS := hS.storeNew (arrC S) (show w25.heap.size ≤ w26.heap.size by omega)
        generalize w45.setRow (w26.heap.size) (arrC S) = w46 at *
        refine hK.out _ _ hS ?_
        clear hK K
        intro _
        have hSz := hS.size
        refine takeAt (i := 9) (v := .bool true) rfl (some 8) rfl (by kernel_rfl) (by kernel_rfl) (by kernel_rfl) (fun _ _ _ h => h) (take_run rfl (fun _ _ => by go_simp)) hS ?_
        simp only [Act.put, List.setIfInBounds_toArray, List.set_cons_zero, List.set_cons_succ]
        refine wpAnyH_done (by kernel_rfl) ?_ _
        refine NoPanic.normal ?_
        have hsz := hS.size
        have h2 : w46.heap[w.heap.size]? = some (.cells (arrC X) 22 (0, 0)) := hS.old h2 (Nat.ne_of_lt (heap_lt h2))
        have h3 : w46.heap[w.heap.size + 1]? = some (.cells (arrC Y) 22 (0, 0)) := hS.old h3 (Nat.ne_of_lt (heap_lt h3))
        have h5 : w46.heap[g5]? = some (.cells (arrC R) 22 (0, 0)) := hS.old h5 (Nat.ne_of_lt (heap_lt h5))
        have h7 := xh7
        have hBw46 : Hid (Below w.heap.size w w46) := Lib.hid (hBw25.out.trans (hS.below (by omega) hBw25.out.size))
        clear hS
        go_wp2_with fail
        go_meet
        exact ⟨w26.heap.size, rfl, Lib.hid (show w25.heap.size ≤ w26.heap.size by omega), Lib.hid h7, Lib.hid h2, Lib.hid h3, Lib.hid h5, Lib.hid hBw46.out, Lib.hid (show w25.heap.size ≤ w46.heap.size by omega)⟩
    case rest =>
      obtain ⟨g7, rfl, Hg7, Hh7, Hh2, Hh3, Hh5, hBw48, Hsz48⟩ := hcut
      obtain ⟨w48, rfl⟩ : ∃ u : World, u = wc := ⟨_, rfl⟩
      have hgl7 := Hg7.out
      have h7 := Hh7.out
      have hgu7 := heap_lt h7
      have h2 := Hh2.out
      have h3 := Hh3.out
      have h5 := Hh5.out
      have hsz48 := Hsz48.out
      go_wp2_with fail
      refine wp_named ?_
      intro w49 ew49
      have hs49 : w48.heap.size ≤ w49.heap.size := by rw [ew49]; (try simp only [alloc_size, setRow_size]); omega
      have h2 : w49.heap[w.heap.size]? = some (.cells (arrC X) 22 (0, 0)) := by rw [ew49]; exact h2
      have h3 : w49.heap[w.heap.size + 1]? = some (.cells (arrC Y) 22 (0, 0)) := by rw [ew49]; exact h3
      have h5 : w49.heap[g5]? = some (.cells (arrC R) 22 (0, 0)) := by rw [ew49]; exact h5
      have h7 : w49.heap[g7]? = some (.cells (arrC S) 22 (0, 0)) := by rw [ew49]; exact h7
      have hBw49 : Hid (Below w.heap.size w w49) := Lib.hid (by rw [ew49]; exact hBw48.out)
      clear ew49
      refine wp_region_quiet (C := Below w49.heap.size w49) (by kernel_rfl) (by kernel_rfl) (Below.refl _ _).drew ?_
      simp only [List.toList_toArray]
      refine wpQuiet_step (fun K hK => ?_); rw [if_pos (by rfl)]
      refine ⟨.agg (arrC X), fun w' hC => qload _ _ rfl (w.heap.size) rfl _ _ _ h2 under32 rfl (info32_of (arrC X) (arrC_size _)) hC, hK _ ?_⟩; clear hK K
      simp only [Act.put, List.setIfInBounds_toArray, List.set_cons_zero, List.set_cons_succ]
      refine wpQuiet_step (fun K hK => ?_); rw [if_pos (by rfl)]
      refine ⟨.agg (arrC Y), fun w' hC => qload _ _ rfl (w.heap.size + 1) rfl _ _ _ h3 under32 rfl (info32_of (arrC Y) (arrC_size _)) hC, hK _ ?_⟩; clear hK K
      simp only [Act.put, List.setIfInBounds_toArray, List.set_cons_zero, List.set_cons_succ]
      refine wpQuiet_step (fun K hK => ?_); rw [if_pos (by rfl)]
      refine ⟨.int .i64 0, fun w' hC => qcall 18 #[.agg (arrC X), .agg (arrC Y)] (by go_simp) hC (FieldEqual_any X Y 0 HZ w'), hK _ ?_⟩; clear hK K
      simp only [Act.put, List.setIfInBounds_toArray, List.set_cons_zero, List.set_cons_succ]
      refine wpQuiet_step (fun K hK => ?_); rw [if_pos (by rfl)]
      refine ⟨.bool false, fun w' hC => qrun (by go_simp), hK _ ?_⟩; clear hK K
      simp only [Act.put, List.setIfInBounds_toArray, List.set_cons_zero, List.set_cons_succ]
      refine wpQuiet_step (fun K hK => ?_); rw [if_pos (by rfl)]
      refine ⟨.agg (arrC R), fun w' hC => qload _ _ rfl (g5) rfl _ _ _ h5 under32 rfl (info32_of (arrC R) (arrC_size _)) hC, hK _ ?_⟩; clear hK K
      simp only [Act.put, List.setIfInBounds_toArray, List.set_cons_zero, List.set_cons_succ]
      refine wpQuiet_step (fun K hK => ?_); rw [if_pos (by rfl)]
      refine ⟨.agg (arrC S), fun w' hC => qload _ _ rfl (g7) rfl _ _ _ h7 under32 rfl (info32_of (arrC S) (arrC_size _)) hC, hK _ ?_⟩; clear hK K
      simp only [Act.put, List.setIfInBounds_toArray, List.set_cons_zero, List.set_cons_succ]
      refine wpQuiet_step (fun K hK => ?_); rw [if_pos (by rfl)]
      refine ⟨.bool false, fun w' hC => qrun (by go_simp; rw [run_eq_arr _ _ lR lS]; simp [hne]), hK _ ?_⟩; clear hK K
      simp only [Act.put, List.setIfInBounds_toArray, List.set_cons_zero, List.set_cons_succ]
      refine wpQuiet_step (fun K hK => ?_); rw [if_pos (by rfl)]
      refine ⟨.bool true, fun w' hC => qrun (by go_simp), hK _ ?_⟩; clear hK K
      simp only [Act.put, List.setIfInBounds_toArray, List.set_cons_zero, List.set_cons_succ]
      refine wpQuiet_step (fun K hK => ?_); rw [if_pos (by rfl)]
      refine ⟨.bool true, fun w' hC => qrun (by go_simp), hK _ ?_⟩; clear hK K
      simp only [Act.put, List.setIfInBounds_toArray, List.set_cons_zero, List.set_cons_succ]
      refine wpQuiet_step (fun K hK => ?_); rw [if_pos (by rfl)]
      refine ⟨.agg (arrC X), fun w' hC => qload _ _ rfl (w.heap.size) rfl _ _ _ h2 under32 rfl (info32_of (arrC X) (arrC_size _)) hC, hK _ ?_⟩; clear hK K
      simp only [Act.put, List.setIfInBounds_toArray, List.set_cons_zero, List.set_cons_succ]
      refine wpQuiet_step (fun K hK => ?_); rw [if_pos (by rfl)]
      refine ⟨.agg (arrC Y), fun w' hC => qload _ _ rfl (w.heap.size + 1) rfl _ _ _ h3 under32 rfl (info32_of (arrC Y) (arrC_size _)) hC, hK _ ?_⟩; clear hK K
      simp only [Act.put, List.setIfInBounds_toArray, List.set_cons_zero, List.set_cons_succ]
      refine wpQuiet_step (fun K hK => ?_); rw [if_pos (by rfl)]
      refine ⟨.int .i64 0, fun w' hC => qcall 18 #[.agg (arrC X), .agg (arrC Y)] (by go_simp) hC (FieldEqual_any X Y 0 HZ w'), hK _ ?_⟩; clear hK K
      simp only [Act.put, List.setIfInBounds_toArray, List.set_cons_zero, List.set_cons_succ]
      refine wpQuiet_step (fun K hK => ?_); rw [if_pos (by rfl)]
      refine ⟨.bool true, fun w' hC => qrun (by go_simp), hK _ ?_⟩; clear hK K
      simp only [Act.put, List.setIfInBounds_toArray, List.set_cons_zero, List.set_cons_succ]
      refine wpQuiet_step (fun K hK => ?_); rw [if_pos (by rfl)]
      refine ⟨.agg (arrC R), fun w' hC => qload _ _ rfl (g5) rfl _ _ _ h5 under32 rfl (info32_of (arrC R) (arrC_size _)) hC, hK _ ?_⟩; clear hK K
      simp only [Act.put, List.setIfInBounds_toArray, List.set_cons_zero, List.set_cons_succ]
      refine wpQuiet_step (fun K hK => ?_); rw [if_pos (by rfl)]
      refine ⟨.agg (arrC S), fun w' hC => qload _ _ rfl (g7) rfl _ _ _ h7 under32 rfl (info32_of (arrC S) (arrC_size _)) hC, hK _ ?_⟩; clear hK K
      simp only [Act.put, List.setIfInBounds_toArray, List.set_cons_zero, List.set_cons_succ]
      refine wpQuiet_step (fun K hK => ?_); rw [if_pos (by rfl)]
      refine ⟨.bool true, fun w' hC => qrun (by go_simp; rw [run_eq_arr _ _ lR lS]; simp [hne]), hK _ ?_⟩; clear hK K
      simp only [Act.put, List.setIfInBounds_toArray, List.set_cons_zero, List.set_cons_succ]
      refine wpQuiet_step (fun K hK => ?_); rw [if_pos (by rfl)]
      refine ⟨.bool true, fun w' hC => qrun (by go_simp), hK _ ?_⟩; clear hK K
      simp only [Act.put, List.setIfInBounds_toArray, List.set_cons_zero, List.set_cons_succ]
      refine wpQuiet_step (fun K hK => ?_); rw [if_pos (by rfl)]
      refine ⟨.bool true, fun w' hC => qrun (by go_simp), hK _ ?_⟩; clear hK K
      simp only [Act.put, List.setIfInBounds_toArray, List.set_cons_zero, List.set_cons_succ]
      refine wpQuiet_step (fun K hK => ?_); rw [if_pos (by rfl)]
      refine ⟨.bool true, fun w' hC => qrun (by go_simp), hK _ ?_⟩; clear hK K
      simp only [Act.put, List.setIfInBounds_toArray, List.set_cons_zero, List.set_cons_succ]
      refine wpQuiet_nil ?_
      intro w50 hC
      have hs50 := hC.size
      have h2 : w50.heap[w.heap.size]? = some (.cells (arrC X) 22 (0, 0)) := (heap_call hC h2)
      have h3 : w50.heap[w.heap.size + 1]? = some (.cells (arrC Y) 22 (0, 0)) := (heap_call hC h3)
      have h5 : w50.heap[g5]? = some (.cells (arrC R) 22 (0, 0)) := (heap_call hC h5)
      have h7 : w50.heap[g7]? = some (.cells (arrC S) 22 (0, 0)) := (heap_call hC h7)
      have hBw50 : Hid (Below w.heap.size w w50) := Lib.hid (below_call hBw49.out hC)
      clear hC
      go_wp2
      go_ret
      exact ⟨rfl, hBw50.out⟩

theorem EqualBytes_walk (X Y : Nat) (w : World) : Calls Try.prog 5 #[.agg (arrC X), .agg (arrC Y)] w fun e w' => e = .returned (.bool true) ∧ Below w.heap.size w w' := by
  by_cases h : valN X = valN Y
  · exact EqualBytes_same X Y _ rfl h w
  · exact EqualBytes_other X Y _ _ rfl rfl h w

end Go.Proofs.Ytfkodiefldljgaa
