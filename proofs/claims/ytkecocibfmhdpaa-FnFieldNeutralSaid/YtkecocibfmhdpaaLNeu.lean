/- FnFieldNeutral: the walk. -/
import Derived.Test.YtkecocibfmhdpaaFM
import Derived.Test.YtkecocibfmhdpaaLI0
import Derived.Test.YtkecocibfmhdpaaLK2
set_option linter.unusedSimpArgs false
set_option linter.unusedVariables false
namespace Go.Proofs.Ytkecocibfmhdpaa
open Go.RowKit

set_option maxHeartbeats 2000000 in
theorem Neutral_walk (X : Nat) (bX : X < 256 ^ 32) (w : World) :
    Calls Try.prog 3 #[.agg (arrC X)] w fun e w' => e = .returned (.bool true) ∧ Below w.heap.size w w' := by
  obtain ⟨R, qR⟩ : ∃ u : Nat, u = valN X := ⟨_, rfl⟩
  have HR := Lib.hid qR; clear qR
  have HA : Hid (R = (valN X + valN 0) % pF) := Lib.hid (by rw [HR.out, add_zero_val])
  have HM : Hid (R = valN X * valN 1 % pF) := Lib.hid (by rw [HR.out, v1, Nat.mul_one, Nat.mod_eq_of_lt (valN_lt X)])
  have HZ : Hid (0 = valN X * valN 0 % pF) := Lib.hid (by rw [v0]; simp)
  have lR : R < 256 ^ 32 := by rw [HR.out]; exact Nat.lt_trans (valN_lt _) p_lt
  go_enter Try.func3, Try.ntmps3
  go_wp2_with fail
  refine wp_named ?_
  intro w1 ew1
  have hs1 : w.heap.size + 1 ≤ w1.heap.size := by rw [ew1]; (try simp only [alloc_size, setRow_size]); omega
  replace h1 : w1.heap[w.heap.size]? = some (.cells (arrC X) 22 (0, 0)) := by rw [ew1]; exact (heap_new_at _ _ _ rfl)
  have hBw1 : Hid (Below w.heap.size w w1) := Lib.hid (by rw [ew1]; exact (below_alloc (Below.refl _ w) _))
  clear ew1
  go_cut [3, 4] (fun s3 s4 wx => ∃ g3 : Nat, s3 = .pointer (some ⟨g3, 0, none⟩) ∧ Hid (w1.heap.size ≤ g3) ∧ Hid (wx.heap[g3]? = some (.cells (arrC R) 22 (0, 0))) ∧ s4 = .bool true ∧ Hid (wx.heap[w.heap.size]? = some (.cells (arrC X) 22 (0, 0))) ∧ Hid (Below w.heap.size w wx) ∧ Hid (w1.heap.size ≤ wx.heap.size))
  case first =>
    refine wp_region_noPanic ?_
    refine wp_region_held_drew (S := Keep (w1.heap.size) w1) (by kernel_rfl) (Keep.start _ _) ?_
    intro hS
    obtain ⟨w2, ed⟩ : ∃ u : World, u = w1.drew := ⟨_, rfl⟩
    rw [← ed] at hS ⊢
    have xh1 : w2.heap[w.heap.size]? = some (.cells (arrC X) 22 (0, 0)) := by rw [ed]; exact h1
    clear ed
    have hSz := hS.size
    clear xh1
    refine takeAt (i := 1) (v := .agg (arrC X)) rfl (some 7) rfl (by kernel_rfl) (by kernel_rfl) (by kernel_rfl) (fun _ _ _ h => h) (take_row rfl _ _ rfl (w.heap.size) rfl _ _ _ h1 (Nat.ne_of_lt (heap_lt h1)) under32 rfl (info32_of (arrC X) (arrC_size _))) hS ?_
    simp only [Act.put, List.setIfInBounds_toArray, List.set_cons_zero, List.set_cons_succ]
    refine wpAnyH_ready (rs := [0, 7]) (by kernel_rfl) (by simp) ?_
    refine (AllReadyH.cons rfl ?_ (AllReadyH.cons rfl ?_ AllReadyH.nil))
    · intro K hK
      refine ready_call rfl (some 6) rfl 11 #[] (by go_simp) ?_
      refine (zero_v _).mono ?_
      rintro e w3 ⟨rfl, hC⟩
      refine ⟨_, rfl, ?_⟩
      simp only [Act.put, List.setIfInBounds_toArray, List.set_cons_zero, List.set_cons_succ]
      have hS := hS.call hC
      have hz3 := hC.size
      clear hC
      refine hK.out _ _ hS ?_
      clear hK K
      intro _
      have hSz := hS.size
      refine wpAnyH_ready (rs := [2, 7]) (by kernel_rfl) (by simp) ?_
      refine (AllReadyH.cons rfl ?_ (AllReadyH.cons rfl ?_ AllReadyH.nil))
      · intro K hK
        refine ready_call rfl (some 8) rfl 12 #[.agg (arrC X)] (by go_simp) ?_
        refine (slice_any X _).mono ?_
        rintro e w4 ⟨b1, c1, rfl, hcb1, hlb1, hC, xhr1⟩
        refine ⟨_, rfl, ?_⟩
        simp only [Act.put, List.setIfInBounds_toArray, List.set_cons_zero, List.set_cons_succ]
        have hS := hS.call hC
        have hz4 := hC.size
        clear hC
        refine hK.out _ _ hS ?_
        clear hK K
        intro _
        have hSz := hS.size
        refine wpAnyH_ready (rs := [3, 7]) (by kernel_rfl) (by simp) ?_
        refine (AllReadyH.cons rfl ?_ (AllReadyH.cons rfl ?_ AllReadyH.nil))
        · intro K hK
          refine ready_call rfl (some 9) rfl 10 #[.agg (arrC 0), .slice (some ⟨b1, 0, none⟩) 32 c1] (by go_simp) ?_
          refine (FieldSetBytes_to 0 X b1 c1 hcb1 R HR _ xhr1).mono ?_
          rintro e w5 ⟨rfl, hC⟩
          refine ⟨_, rfl, ?_⟩
          simp only [Act.put, List.setIfInBounds_toArray, List.set_cons_zero, List.set_cons_succ]
          have xhr1 : Row w5 (b1) (0) 32 (byV X) := (Row.below_all xhr1 hC)
          have hS := hS.call hC
          have hz5 := hC.size
          clear hC
          refine hK.out _ _ hS ?_
          clear hK K
          intro _
          have hSz := hS.size
          refine takeAt (i := 4) (v := .tuple #[.agg (arrC R), .bool true]) rfl (some 5) rfl (by kernel_rfl) (by kernel_rfl) (by kernel_rfl) (fun _ _ _ h => h) (take_run rfl (fun _ _ => by go_simp)) hS ?_
          simp only [Act.put, List.setIfInBounds_toArray, List.set_cons_zero, List.set_cons_succ]
          refine takeAt (i := 5) (v := .agg (arrC R)) rfl (some 10) rfl (by kernel_rfl) (by kernel_rfl) (by kernel_rfl) (fun _ _ _ h => h) (take_run rfl (fun _ _ => by go_simp)) hS ?_
          simp only [Act.put, List.setIfInBounds_toArray, List.set_cons_zero, List.set_cons_succ]
          refine takeAt (i := 6) (v := .bool true) rfl (some 11) rfl (by kernel_rfl) (by kernel_rfl) (by kernel_rfl) (fun _ _ _ h => h) (take_run rfl (fun _ _ => by go_simp)) hS ?_
          simp only [Act.put, List.setIfInBounds_toArray, List.set_cons_zero, List.set_cons_succ]
          refine wpAnyH_ready (rs := [7]) (by kernel_rfl) (by simp) ?_
          refine (AllReadyH.cons rfl ?_ AllReadyH.nil)
          intro K hK
          refine ready_run rfl (some 3) rfl (.pointer (some ⟨w5.heap.size, 0, none⟩)) (w5.alloc (.cells zL 22)) (by go_simp; try rfl) ?_
          simp only [Act.put, List.setIfInBounds_toArray, List.set_cons_zero, List.set_cons_succ]
          obtain ⟨w6, ea⟩ : ∃ u : World, u = w5.alloc (.cells zL 22) := ⟨_, rfl⟩
          rw [← ea]
          have hS := hS.alloc (.cells zL 22)
          rw [← ea] at hS
          have hz6 : w5.heap.size + 1 ≤ w6.heap.size := by rw [ea, alloc_size]; omega
          have hy6 : w1.heap.size ≤ w5.heap.size := hSz
          have xh3 : w6.heap[w5.heap.size]? = some (.cells (zL) 22 (0, 0)) := by rw [ea]; exact heap_new_at _ _ _ rfl
          clear ea
          refine hK.out _ _ hS ?_
          clear hK K
          intro _
          have hSz := hS.size
          refine wpAnyH_ready (rs := [8]) (by kernel_rfl) (by simp) ?_
          refine (AllReadyH.cons rfl ?_ AllReadyH.nil)
          intro K hK
          rw [if_pos (by rfl)]
          refine wp_store_row 22 _ _ rfl (w5.heap.size) (arrC R) rfl rfl 22 (zL) xh3 (info32_of (arrC R) (arrC_size _)) (zL_size.trans (arrC_size _).symm) (arrC_one _) ?_
          refine put_at (none) rfl ?_
          simp only [Act.put, List.setIfInBounds_toArray, List.set_cons_zero, List.set_cons_succ]
          have xh3 : (w6.setRow (w5.heap.size) (arrC R)).heap[w5.heap.size]? = some (.cells (arrC R) 22 (0, 0)) := (setRow_heap _ _ _ _ _ _ xh3)
          have hS := hS.storeNew (arrC R) (show w1.heap.size ≤ w5.heap.size by omega)
          generalize w6.setRow (w5.heap.size) (arrC R) = w7 at *
          refine hK.out _ _ hS ?_
          clear hK K
          intro _
          have hSz := hS.size
          refine takeAt (i := 9) (v := .bool true) rfl (some 4) rfl (by kernel_rfl) (by kernel_rfl) (by kernel_rfl) (fun _ _ _ h => h) (take_run rfl (fun _ _ => by go_simp)) hS ?_
          simp only [Act.put, List.setIfInBounds_toArray, List.set_cons_zero, List.set_cons_succ]
          refine wpAnyH_done (by kernel_rfl) ?_ _
          refine NoPanic.normal ?_
          have hsz := hS.size
          have h1 : w7.heap[w.heap.size]? = some (.cells (arrC X) 22 (0, 0)) := hS.old h1 (Nat.ne_of_lt (heap_lt h1))
          have h3 := xh3
          have hBw7 : Hid (Below w.heap.size w w7) := Lib.hid (hBw1.out.trans (hS.below (by omega) hBw1.out.size))
          clear hS
          go_wp2_with fail
          go_meet
          exact ⟨w5.heap.size, rfl, Lib.hid (show w1.heap.size ≤ w5.heap.size by omega), Lib.hid h3, rfl, Lib.hid h1, Lib.hid hBw7.out, Lib.hid (show w1.heap.size ≤ w7.heap.size by omega)⟩
        · intro K hK
          refine ready_run rfl (some 3) rfl (.pointer (some ⟨w4.heap.size, 0, none⟩)) (w4.alloc (.cells zL 22)) (by go_simp; try rfl) ?_
          simp only [Act.put, List.setIfInBounds_toArray, List.set_cons_zero, List.set_cons_succ]
          obtain ⟨w9, ea⟩ : ∃ u : World, u = w4.alloc (.cells zL 22) := ⟨_, rfl⟩
          rw [← ea]
          have xhr1 : Row w9 (b1) (0) 32 (byV X) := by rw [ea]; exact (Row.alloc xhr1 _)
          have hS := hS.alloc (.cells zL 22)
          rw [← ea] at hS
          have hz9 : w4.heap.size + 1 ≤ w9.heap.size := by rw [ea, alloc_size]; omega
          have hy9 : w1.heap.size ≤ w4.heap.size := hSz
          have xh3 : w9.heap[w4.heap.size]? = some (.cells (zL) 22 (0, 0)) := by rw [ea]; exact heap_new_at _ _ _ rfl
          clear ea
          refine hK.out _ _ hS ?_
          clear hK K
          intro _
          have hSz := hS.size
          refine wpAnyH_ready (rs := [3]) (by kernel_rfl) (by simp) ?_
          refine (AllReadyH.cons rfl ?_ AllReadyH.nil)
          intro K hK
          refine ready_call rfl (some 9) rfl 10 #[.agg (arrC 0), .slice (some ⟨b1, 0, none⟩) 32 c1] (by go_simp) ?_
          refine (FieldSetBytes_to 0 X b1 c1 hcb1 R HR _ xhr1).mono ?_
          rintro e w10 ⟨rfl, hC⟩
          refine ⟨_, rfl, ?_⟩
          simp only [Act.put, List.setIfInBounds_toArray, List.set_cons_zero, List.set_cons_succ]
          have xhr1 : Row w10 (b1) (0) 32 (byV X) := (Row.below_all xhr1 hC)
          have xh3 : w10.heap[w4.heap.size]? = some (.cells (zL) 22 (0, 0)) := (heap_call hC xh3)
          have hS := hS.call hC
          have hz10 := hC.size
          clear hC
          refine hK.out _ _ hS ?_
          clear hK K
          intro _
          have hSz := hS.size
          refine takeAt (i := 4) (v := .tuple #[.agg (arrC R), .bool true]) rfl (some 5) rfl (by kernel_rfl) (by kernel_rfl) (by kernel_rfl) (fun _ _ _ h => h) (take_run rfl (fun _ _ => by go_simp)) hS ?_
          simp only [Act.put, List.setIfInBounds_toArray, List.set_cons_zero, List.set_cons_succ]
          refine takeAt (i := 5) (v := .agg (arrC R)) rfl (some 10) rfl (by kernel_rfl) (by kernel_rfl) (by kernel_rfl) (fun _ _ _ h => h) (take_run rfl (fun _ _ => by go_simp)) hS ?_
          simp only [Act.put, List.setIfInBounds_toArray, List.set_cons_zero, List.set_cons_succ]
          refine takeAt (i := 6) (v := .bool true) rfl (some 11) rfl (by kernel_rfl) (by kernel_rfl) (by kernel_rfl) (fun _ _ _ h => h) (take_run rfl (fun _ _ => by go_simp)) hS ?_
          simp only [Act.put, List.setIfInBounds_toArray, List.set_cons_zero, List.set_cons_succ]
          refine wpAnyH_ready (rs := [8]) (by kernel_rfl) (by simp) ?_
          refine (AllReadyH.cons rfl ?_ AllReadyH.nil)
          intro K hK
          rw [if_pos (by rfl)]
          refine wp_store_row 22 _ _ rfl (w4.heap.size) (arrC R) rfl rfl 22 (zL) xh3 (info32_of (arrC R) (arrC_size _)) (zL_size.trans (arrC_size _).symm) (arrC_one _) ?_
          refine put_at (none) rfl ?_
          simp only [Act.put, List.setIfInBounds_toArray, List.set_cons_zero, List.set_cons_succ]
          have xh3 : (w10.setRow (w4.heap.size) (arrC R)).heap[w4.heap.size]? = some (.cells (arrC R) 22 (0, 0)) := (setRow_heap _ _ _ _ _ _ xh3)
          have hS := hS.storeNew (arrC R) (show w1.heap.size ≤ w4.heap.size by omega)
          generalize w10.setRow (w4.heap.size) (arrC R) = w11 at *
          refine hK.out _ _ hS ?_
          clear hK K
          intro _
          have hSz := hS.size
          refine takeAt (i := 9) (v := .bool true) rfl (some 4) rfl (by kernel_rfl) (by kernel_rfl) (by kernel_rfl) (fun _ _ _ h => h) (take_run rfl (fun _ _ => by go_simp)) hS ?_
          simp only [Act.put, List.setIfInBounds_toArray, List.set_cons_zero, List.set_cons_succ]
          refine wpAnyH_done (by kernel_rfl) ?_ _
          refine NoPanic.normal ?_
          have hsz := hS.size
          have h1 : w11.heap[w.heap.size]? = some (.cells (arrC X) 22 (0, 0)) := hS.old h1 (Nat.ne_of_lt (heap_lt h1))
          have h3 := xh3
          have hBw11 : Hid (Below w.heap.size w w11) := Lib.hid (hBw1.out.trans (hS.below (by omega) hBw1.out.size))
          clear hS
          go_wp2_with fail
          go_meet
          exact ⟨w4.heap.size, rfl, Lib.hid (show w1.heap.size ≤ w4.heap.size by omega), Lib.hid h3, rfl, Lib.hid h1, Lib.hid hBw11.out, Lib.hid (show w1.heap.size ≤ w11.heap.size by omega)⟩
      · intro K hK
        refine ready_run rfl (some 3) rfl (.pointer (some ⟨w3.heap.size, 0, none⟩)) (w3.alloc (.cells zL 22)) (by go_simp; try rfl) ?_
        simp only [Act.put, List.setIfInBounds_toArray, List.set_cons_zero, List.set_cons_succ]
        obtain ⟨w13, ea⟩ : ∃ u : World, u = w3.alloc (.cells zL 22) := ⟨_, rfl⟩
        rw [← ea]
        have hS := hS.alloc (.cells zL 22)
        rw [← ea] at hS
        have hz13 : w3.heap.size + 1 ≤ w13.heap.size := by rw [ea, alloc_size]; omega
        have hy13 : w1.heap.size ≤ w3.heap.size := hSz
        have xh3 : w13.heap[w3.heap.size]? = some (.cells (zL) 22 (0, 0)) := by rw [ea]; exact heap_new_at _ _ _ rfl
        clear ea
        refine hK.out _ _ hS ?_
        clear hK K
        intro _
        have hSz := hS.size
        refine wpAnyH_ready (rs := [2]) (by kernel_rfl) (by simp) ?_
        refine (AllReadyH.cons rfl ?_ AllReadyH.nil)
        intro K hK
        refine ready_call rfl (some 8) rfl 12 #[.agg (arrC X)] (by go_simp) ?_
        refine (slice_any X _).mono ?_
        rintro e w14 ⟨b1, c1, rfl, hcb1, hlb1, hC, xhr1⟩
        refine ⟨_, rfl, ?_⟩
        simp only [Act.put, List.setIfInBounds_toArray, List.set_cons_zero, List.set_cons_succ]
        have xh3 : w14.heap[w3.heap.size]? = some (.cells (zL) 22 (0, 0)) := (heap_call hC xh3)
        have hS := hS.call hC
        have hz14 := hC.size
        clear hC
        refine hK.out _ _ hS ?_
        clear hK K
        intro _
        have hSz := hS.size
        refine wpAnyH_ready (rs := [3]) (by kernel_rfl) (by simp) ?_
        refine (AllReadyH.cons rfl ?_ AllReadyH.nil)
        intro K hK
        refine ready_call rfl (some 9) rfl 10 #[.agg (arrC 0), .slice (some ⟨b1, 0, none⟩) 32 c1] (by go_simp) ?_
        refine (FieldSetBytes_to 0 X b1 c1 hcb1 R HR _ xhr1).mono ?_
        rintro e w15 ⟨rfl, hC⟩
        refine ⟨_, rfl, ?_⟩
        simp only [Act.put, List.setIfInBounds_toArray, List.set_cons_zero, List.set_cons_succ]
        have xh3 : w15.heap[w3.heap.size]? = some (.cells (zL) 22 (0, 0)) := (heap_call hC xh3)
        have xhr1 : Row w15 (b1) (0) 32 (byV X) := (Row.below_all xhr1 hC)
        have hS := hS.call hC
        have hz15 := hC.size
        clear hC
        refine hK.out _ _ hS ?_
        clear hK K
        intro _
        have hSz := hS.size
        refine takeAt (i := 4) (v := .tuple #[.agg (arrC R), .bool true]) rfl (some 5) rfl (by kernel_rfl) (by kernel_rfl) (by kernel_rfl) (fun _ _ _ h => h) (take_run rfl (fun _ _ => by go_simp)) hS ?_
        simp only [Act.put, List.setIfInBounds_toArray, List.set_cons_zero, List.set_cons_succ]
        refine takeAt (i := 5) (v := .agg (arrC R)) rfl (some 10) rfl (by kernel_rfl) (by kernel_rfl) (by kernel_rfl) (fun _ _ _ h => h) (take_run rfl (fun _ _ => by go_simp)) hS ?_
        simp only [Act.put, List.setIfInBounds_toArray, List.set_cons_zero, List.set_cons_succ]
        refine takeAt (i := 6) (v := .bool true) rfl (some 11) rfl (by kernel_rfl) (by kernel_rfl) (by kernel_rfl) (fun _ _ _ h => h) (take_run rfl (fun _ _ => by go_simp)) hS ?_
        simp only [Act.put, List.setIfInBounds_toArray, List.set_cons_zero, List.set_cons_succ]
        refine wpAnyH_ready (rs := [8]) (by kernel_rfl) (by simp) ?_
        refine (AllReadyH.cons rfl ?_ AllReadyH.nil)
        intro K hK
        rw [if_pos (by rfl)]
        refine wp_store_row 22 _ _ rfl (w3.heap.size) (arrC R) rfl rfl 22 (zL) xh3 (info32_of (arrC R) (arrC_size _)) (zL_size.trans (arrC_size _).symm) (arrC_one _) ?_
        refine put_at (none) rfl ?_
        simp only [Act.put, List.setIfInBounds_toArray, List.set_cons_zero, List.set_cons_succ]
        have xh3 : (w15.setRow (w3.heap.size) (arrC R)).heap[w3.heap.size]? = some (.cells (arrC R) 22 (0, 0)) := (setRow_heap _ _ _ _ _ _ xh3)
        have hS := hS.storeNew (arrC R) (show w1.heap.size ≤ w3.heap.size by omega)
        generalize w15.setRow (w3.heap.size) (arrC R) = w16 at *
        refine hK.out _ _ hS ?_
        clear hK K
        intro _
        have hSz := hS.size
        refine takeAt (i := 9) (v := .bool true) rfl (some 4) rfl (by kernel_rfl) (by kernel_rfl) (by kernel_rfl) (fun _ _ _ h => h) (take_run rfl (fun _ _ => by go_simp)) hS ?_
        simp only [Act.put, List.setIfInBounds_toArray, List.set_cons_zero, List.set_cons_succ]
        refine wpAnyH_done (by kernel_rfl) ?_ _
        refine NoPanic.normal ?_
        have hsz := hS.size
        have h1 : w16.heap[w.heap.size]? = some (.cells (arrC X) 22 (0, 0)) := hS.old h1 (Nat.ne_of_lt (heap_lt h1))
        have h3 := xh3
        have hBw16 : Hid (Below w.heap.size w w16) := Lib.hid (hBw1.out.trans (hS.below (by omega) hBw1.out.size))
        clear hS
        go_wp2_with fail
        go_meet
        exact ⟨w3.heap.size, rfl, Lib.hid (show w1.heap.size ≤ w3.heap.size by omega), Lib.hid h3, rfl, Lib.hid h1, Lib.hid hBw16.out, Lib.hid (show w1.heap.size ≤ w16.heap.size by omega)⟩
    · intro K hK
      refine ready_run rfl (some 3) rfl (.pointer (some ⟨w2.heap.size, 0, none⟩)) (w2.alloc (.cells zL 22)) (by go_simp; try rfl) ?_
      simp only [Act.put, List.setIfInBounds_toArray, List.set_cons_zero, List.set_cons_succ]
      obtain ⟨w18, ea⟩ : ∃ u : World, u = w2.alloc (.cells zL 22) := ⟨_, rfl⟩
      rw [← ea]
      have hS := hS.alloc (.cells zL 22)
      rw [← ea] at hS
      have hz18 : w2.heap.size + 1 ≤ w18.heap.size := by rw [ea, alloc_size]; omega
      have hy18 : w1.heap.size ≤ w2.heap.size := hSz
      have xh3 : w18.heap[w2.heap.size]? = some (.cells (zL) 22 (0, 0)) := by rw [ea]; exact heap_new_at _ _ _ rfl
      clear ea
      refine hK.out _ _ hS ?_
      clear hK K
      intro _
      have hSz := hS.size
      refine wpAnyH_ready (rs := [0]) (by kernel_rfl) (by simp) ?_
      refine (AllReadyH.cons rfl ?_ AllReadyH.nil)
      intro K hK
      refine ready_call rfl (some 6) rfl 11 #[] (by go_simp) ?_
      refine (zero_v _).mono ?_
      rintro e w19 ⟨rfl, hC⟩
      refine ⟨_, rfl, ?_⟩
      simp only [Act.put, List.setIfInBounds_toArray, List.set_cons_zero, List.set_cons_succ]
      have xh3 : w19.heap[w2.heap.size]? = some (.cells (zL) 22 (0, 0)) := (heap_call hC xh3)
      have hS := hS.call hC
      have hz19 := hC.size
      clear hC
      refine hK.out _ _ hS ?_
      clear hK K
      intro _
      have hSz := hS.size
      refine wpAnyH_ready (rs := [2]) (by kernel_rfl) (by simp) ?_
      refine (AllReadyH.cons rfl ?_ AllReadyH.nil)
      intro K hK
      refine ready_call rfl (some 8) rfl 12 #[.agg (arrC X)] (by go_simp) ?_
      refine (slice_any X _).mono ?_
      rintro e w20 ⟨b1, c1, rfl, hcb1, hlb1, hC, xhr1⟩
      refine ⟨_, rfl, ?_⟩
      simp only [Act.put, List.setIfInBounds_toArray, List.set_cons_zero, List.set_cons_succ]
      have xh3 : w20.heap[w2.heap.size]? = some (.cells (zL) 22 (0, 0)) := (heap_call hC xh3)
      have hS := hS.call hC
      have hz20 := hC.size
      clear hC
      refine hK.out _ _ hS ?_
      clear hK K
      intro _
      have hSz := hS.size
      refine wpAnyH_ready (rs := [3]) (by kernel_rfl) (by simp) ?_
      refine (AllReadyH.cons rfl ?_ AllReadyH.nil)
      intro K hK
      refine ready_call rfl (some 9) rfl 10 #[.agg (arrC 0), .slice (some ⟨b1, 0, none⟩) 32 c1] (by go_simp) ?_
      refine (FieldSetBytes_to 0 X b1 c1 hcb1 R HR _ xhr1).mono ?_
      rintro e w21 ⟨rfl, hC⟩
      refine ⟨_, rfl, ?_⟩
      simp only [Act.put, List.setIfInBounds_toArray, List.set_cons_zero, List.set_cons_succ]
      have xh3 : w21.heap[w2.heap.size]? = some (.cells (zL) 22 (0, 0)) := (heap_call hC xh3)
      have xhr1 : Row w21 (b1) (0) 32 (byV X) := (Row.below_all xhr1 hC)
      have hS := hS.call hC
      have hz21 := hC.size
      clear hC
      refine hK.out _ _ hS ?_
      clear hK K
      intro _
      have hSz := hS.size
      refine takeAt (i := 4) (v := .tuple #[.agg (arrC R), .bool true]) rfl (some 5) rfl (by kernel_rfl) (by kernel_rfl) (by kernel_rfl) (fun _ _ _ h => h) (take_run rfl (fun _ _ => by go_simp)) hS ?_
      simp only [Act.put, List.setIfInBounds_toArray, List.set_cons_zero, List.set_cons_succ]
      refine takeAt (i := 5) (v := .agg (arrC R)) rfl (some 10) rfl (by kernel_rfl) (by kernel_rfl) (by kernel_rfl) (fun _ _ _ h => h) (take_run rfl (fun _ _ => by go_simp)) hS ?_
      simp only [Act.put, List.setIfInBounds_toArray, List.set_cons_zero, List.set_cons_succ]
      refine takeAt (i := 6) (v := .bool true) rfl (some 11) rfl (by kernel_rfl) (by kernel_rfl) (by kernel_rfl) (fun _ _ _ h => h) (take_run rfl (fun _ _ => by go_simp)) hS ?_
      simp only [Act.put, List.setIfInBounds_toArray, List.set_cons_zero, List.set_cons_succ]
      refine wpAnyH_ready (rs := [8]) (by kernel_rfl) (by simp) ?_
      refine (AllReadyH.cons rfl ?_ AllReadyH.nil)
      intro K hK
      rw [if_pos (by rfl)]
      refine wp_store_row 22 _ _ rfl (w2.heap.size) (arrC R) rfl rfl 22 (zL) xh3 (info32_of (arrC R) (arrC_size _)) (zL_size.trans (arrC_size _).symm) (arrC_one _) ?_
      refine put_at (none) rfl ?_
      simp only [Act.put, List.setIfInBounds_toArray, List.set_cons_zero, List.set_cons_succ]
      have xh3 : (w21.setRow (w2.heap.size) (arrC R)).heap[w2.heap.size]? = some (.cells (arrC R) 22 (0, 0)) := (setRow_heap _ _ _ _ _ _ xh3)
      have hS := hS.storeNew (arrC R) (show w1.heap.size ≤ w2.heap.size by omega)
      generalize w21.setRow (w2.heap.size) (arrC R) = w22 at *
      refine hK.out _ _ hS ?_
      clear hK K
      intro _
      have hSz := hS.size
      refine takeAt (i := 9) (v := .bool true) rfl (some 4) rfl (by kernel_rfl) (by kernel_rfl) (by kernel_rfl) (fun _ _ _ h => h) (take_run rfl (fun _ _ => by go_simp)) hS ?_
      simp only [Act.put, List.setIfInBounds_toArray, List.set_cons_zero, List.set_cons_succ]
      refine wpAnyH_done (by kernel_rfl) ?_ _
      refine NoPanic.normal ?_
      have hsz := hS.size
      have h1 : w22.heap[w.heap.size]? = some (.cells (arrC X) 22 (0, 0)) := hS.old h1 (Nat.ne_of_lt (heap_lt h1))
      have h3 := xh3
      have hBw22 : Hid (Below w.heap.size w w22) := Lib.hid (hBw1.out.trans (hS.below (by omega) hBw1.out.size))
      clear hS
      go_wp2_with fail
      go_meet
      exact ⟨w2.heap.size, rfl, Lib.hid (show w1.heap.size ≤ w2.heap.size by omega), Lib.hid h3, rfl, Lib.hid h1, Lib.hid hBw22.out, Lib.hid (show w1.heap.size ≤ w22.heap.size by omega)⟩
  case rest =>
    obtain ⟨g3, rfl, Hg3, Hh3, rfl, Hh1, hBw24, Hsz24⟩ := hcut
    obtain ⟨w24, rfl⟩ : ∃ u : World, u = wc := ⟨_, rfl⟩
    have hgl3 := Hg3.out
    have h3 := Hh3.out
    have hgu3 := heap_lt h3
    have h1 := Hh1.out
    have hsz24 := Hsz24.out
    go_wp2_with fail
    refine wp_named ?_
    intro w25 ew25
    have hs25 : w24.heap.size ≤ w25.heap.size := by rw [ew25]; (try simp only [alloc_size, setRow_size]); omega
    replace h1 : w25.heap[w.heap.size]? = some (.cells (arrC X) 22 (0, 0)) := by rw [ew25]; exact h1
    replace h3 : w25.heap[g3]? = some (.cells (arrC R) 22 (0, 0)) := by rw [ew25]; exact h3
    have hBw25 : Hid (Below w.heap.size w w25) := Lib.hid (by rw [ew25]; exact hBw24.out)
    clear ew25
    refine wp_region_quiet (C := Below w25.heap.size w25) (by kernel_rfl) (by kernel_rfl) (Below.refl _ _).drew ?_
    simp only [List.toList_toArray]
    refine wpQuiet_step (fun K hK => ?_); rw [if_pos (by rfl)]
    refine ⟨.bool true, fun w' hC => qrun (by go_simp), hK _ ?_⟩; clear hK K
    simp only [Act.put, List.setIfInBounds_toArray, List.set_cons_zero, List.set_cons_succ]
    refine wpQuiet_step (fun K hK => ?_); rw [if_pos (by rfl)]
    refine ⟨.bool true, fun w' hC => qrun (by go_simp), hK _ ?_⟩; clear hK K
    simp only [Act.put, List.setIfInBounds_toArray, List.set_cons_zero, List.set_cons_succ]
    refine wpQuiet_step (fun K hK => ?_); rw [if_pos (by rfl)]
    refine ⟨.agg (arrC X), fun w' hC => qload _ _ rfl (w.heap.size) rfl _ _ _ h1 under32 rfl (info32_of (arrC X) (arrC_size _)) hC, hK _ ?_⟩; clear hK K
    simp only [Act.put, List.setIfInBounds_toArray, List.set_cons_zero, List.set_cons_succ]
    refine wpQuiet_step (fun K hK => ?_); rw [if_pos (by rfl)]
    refine ⟨.agg (arrC 0), fun w' hC => qcall 11 #[] (by go_simp) hC (zero_v w'), hK _ ?_⟩; clear hK K
    simp only [Act.put, List.setIfInBounds_toArray, List.set_cons_zero, List.set_cons_succ]
    refine wpQuiet_step (fun K hK => ?_); rw [if_pos (by rfl)]
    refine ⟨.agg (arrC R), fun w' hC => qcall 13 #[.agg (arrC X), .agg (arrC 0)] (by go_simp) hC (FieldAdd_to X 0 R HA w'), hK _ ?_⟩; clear hK K
    simp only [Act.put, List.setIfInBounds_toArray, List.set_cons_zero, List.set_cons_succ]
    refine wpQuiet_step (fun K hK => ?_); rw [if_pos (by rfl)]
    refine ⟨.agg (arrC R), fun w' hC => qload _ _ rfl (g3) rfl _ _ _ h3 under32 rfl (info32_of (arrC R) (arrC_size _)) hC, hK _ ?_⟩; clear hK K
    simp only [Act.put, List.setIfInBounds_toArray, List.set_cons_zero, List.set_cons_succ]
    refine wpQuiet_step (fun K hK => ?_); rw [if_pos (by rfl)]
    refine ⟨.bool true, fun w' hC => qrun (by go_simp; rw [run_eq_arr _ _ lR lR]; simp), hK _ ?_⟩; clear hK K
    simp only [Act.put, List.setIfInBounds_toArray, List.set_cons_zero, List.set_cons_succ]
    refine wpQuiet_step (fun K hK => ?_); rw [if_pos (by rfl)]
    refine ⟨.bool true, fun w' hC => qrun (by go_simp), hK _ ?_⟩; clear hK K
    simp only [Act.put, List.setIfInBounds_toArray, List.set_cons_zero, List.set_cons_succ]
    refine wpQuiet_step (fun K hK => ?_); rw [if_pos (by rfl)]
    refine ⟨.bool true, fun w' hC => qrun (by go_simp), hK _ ?_⟩; clear hK K
    simp only [Act.put, List.setIfInBounds_toArray, List.set_cons_zero, List.set_cons_succ]
    refine wpQuiet_step (fun K hK => ?_); rw [if_pos (by rfl)]
    refine ⟨.agg (arrC X), fun w' hC => qload _ _ rfl (w.heap.size) rfl _ _ _ h1 under32 rfl (info32_of (arrC X) (arrC_size _)) hC, hK _ ?_⟩; clear hK K
    simp only [Act.put, List.setIfInBounds_toArray, List.set_cons_zero, List.set_cons_succ]
    refine wpQuiet_step (fun K hK => ?_); rw [if_pos (by rfl)]
    refine ⟨.agg (arrC 1), fun w' hC => qcall 15 #[.int .i64 1] (by go_simp) hC (number_v 1 (by omega) w'), hK _ ?_⟩; clear hK K
    simp only [Act.put, List.setIfInBounds_toArray, List.set_cons_zero, List.set_cons_succ]
    refine wpQuiet_step (fun K hK => ?_); rw [if_pos (by rfl)]
    refine ⟨.agg (arrC R), fun w' hC => qcall 14 #[.agg (arrC X), .agg (arrC 1)] (by go_simp) hC (FieldMul_to X 1 R HM w'), hK _ ?_⟩; clear hK K
    simp only [Act.put, List.setIfInBounds_toArray, List.set_cons_zero, List.set_cons_succ]
    refine wpQuiet_step (fun K hK => ?_); rw [if_pos (by rfl)]
    refine ⟨.agg (arrC R), fun w' hC => qload _ _ rfl (g3) rfl _ _ _ h3 under32 rfl (info32_of (arrC R) (arrC_size _)) hC, hK _ ?_⟩; clear hK K
    simp only [Act.put, List.setIfInBounds_toArray, List.set_cons_zero, List.set_cons_succ]
    refine wpQuiet_step (fun K hK => ?_); rw [if_pos (by rfl)]
    refine ⟨.bool true, fun w' hC => qrun (by go_simp; rw [run_eq_arr _ _ lR lR]; simp), hK _ ?_⟩; clear hK K
    simp only [Act.put, List.setIfInBounds_toArray, List.set_cons_zero, List.set_cons_succ]
    refine wpQuiet_step (fun K hK => ?_); rw [if_pos (by rfl)]
    refine ⟨.bool true, fun w' hC => qrun (by go_simp), hK _ ?_⟩; clear hK K
    simp only [Act.put, List.setIfInBounds_toArray, List.set_cons_zero, List.set_cons_succ]
    refine wpQuiet_step (fun K hK => ?_); rw [if_pos (by rfl)]
    refine ⟨.bool true, fun w' hC => qrun (by go_simp), hK _ ?_⟩; clear hK K
    simp only [Act.put, List.setIfInBounds_toArray, List.set_cons_zero, List.set_cons_succ]
    refine wpQuiet_step (fun K hK => ?_); rw [if_pos (by rfl)]
    refine ⟨.agg (arrC X), fun w' hC => qload _ _ rfl (w.heap.size) rfl _ _ _ h1 under32 rfl (info32_of (arrC X) (arrC_size _)) hC, hK _ ?_⟩; clear hK K
    simp only [Act.put, List.setIfInBounds_toArray, List.set_cons_zero, List.set_cons_succ]
    refine wpQuiet_step (fun K hK => ?_); rw [if_pos (by rfl)]
    refine ⟨.agg (arrC 0), fun w' hC => qcall 11 #[] (by go_simp) hC (zero_v w'), hK _ ?_⟩; clear hK K
    simp only [Act.put, List.setIfInBounds_toArray, List.set_cons_zero, List.set_cons_succ]
    refine wpQuiet_step (fun K hK => ?_); rw [if_pos (by rfl)]
    refine ⟨.agg (arrC 0), fun w' hC => qcall 14 #[.agg (arrC X), .agg (arrC 0)] (by go_simp) hC (FieldMul_to X 0 0 HZ w'), hK _ ?_⟩; clear hK K
    simp only [Act.put, List.setIfInBounds_toArray, List.set_cons_zero, List.set_cons_succ]
    refine wpQuiet_step (fun K hK => ?_); rw [if_pos (by rfl)]
    refine ⟨.agg (arrC 0), fun w' hC => qcall 11 #[] (by go_simp) hC (zero_v w'), hK _ ?_⟩; clear hK K
    simp only [Act.put, List.setIfInBounds_toArray, List.set_cons_zero, List.set_cons_succ]
    refine wpQuiet_step (fun K hK => ?_); rw [if_pos (by rfl)]
    refine ⟨.bool true, fun w' hC => qrun (by go_simp; rw [run_eq_arr _ _ (by omega) (by omega)]; simp), hK _ ?_⟩; clear hK K
    simp only [Act.put, List.setIfInBounds_toArray, List.set_cons_zero, List.set_cons_succ]
    refine wpQuiet_step (fun K hK => ?_); rw [if_pos (by rfl)]
    refine ⟨.bool true, fun w' hC => qrun (by go_simp), hK _ ?_⟩; clear hK K
    simp only [Act.put, List.setIfInBounds_toArray, List.set_cons_zero, List.set_cons_succ]
    refine wpQuiet_step (fun K hK => ?_); rw [if_pos (by rfl)]
    refine ⟨.bool true, fun w' hC => qrun (by go_simp), hK _ ?_⟩; clear hK K
    simp only [Act.put, List.setIfInBounds_toArray, List.set_cons_zero, List.set_cons_succ]
    refine wpQuiet_nil ?_
    intro w26 hC
    have hs26 := hC.size
    replace h1 : w26.heap[w.heap.size]? = some (.cells (arrC X) 22 (0, 0)) := (heap_call hC h1)
    replace h3 : w26.heap[g3]? = some (.cells (arrC R) 22 (0, 0)) := (heap_call hC h3)
    have hBw26 : Hid (Below w.heap.size w w26) := Lib.hid (below_call hBw25.out hC)
    clear hC
    go_wp2
    go_ret
    exact ⟨rfl, hBw26.out⟩

end Go.Proofs.Ytkecocibfmhdpaa
