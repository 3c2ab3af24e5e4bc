/- The thin package's FieldSqrtRatio. -/
import Derived.Test.YtmabidcocdflkaaDoorUSR
import Derived.Test.YtmabidcocdflkaaDoorK0
import Derived.Test.YtmabidcocdflkaaDoorF8
set_option linter.unusedSimpArgs false
set_option linter.unusedVariables false
namespace Go.Proofs.YtmabidcocdflkaaDoor
open Go.RowKit

set_option maxHeartbeats 4000000 in
theorem FieldSqrt_to (N M R : Nat) (Z : Int) (HR : Hid (R = sqR (valN N) (valN M))) (HZ : Hid (Z = if sqW (valN N) (valN M) then 1 else 0)) (B : Nat) (w : World) (hD0 : Var 1 z5 B w) (hD1 : Var 0 i5 B w) :
    Calls Tryd.prog 5 #[.agg (arrC N), .agg (arrC M)] w fun e w' => e = .returned (.tuple #[.agg (arrC R), .int .i64 Z]) ∧ Below w.heap.size w w' := by
  have hBl := hD0.1
  go_enter Tryd.func5, Tryd.ntmps5
  go_wp2_with fail
  refine wp_named ?_
  intro w1 ew1
  have hs1 : w.heap.size + 1 + 1 + 1 ≤ w1.heap.size := by rw [ew1]; (try simp only [alloc_size, setRow_size]); omega
  replace h2 : w1.heap[w.heap.size]? = some (.cells (arrC N) 22 (0, 0)) := by rw [ew1]; exact (heap_old _ (heap_old _ (heap_new_at _ _ _ rfl)))
  replace h3 : w1.heap[w.heap.size + 1]? = some (.cells (arrC M) 22 (0, 0)) := by rw [ew1]; exact (heap_old _ (heap_new_at _ _ _ (by simp only [alloc_size, setRow_size])))
  replace h4 : w1.heap[w.heap.size + 1 + 1]? = some (.cells (zL) 22 (0, 0)) := by rw [ew1]; exact (heap_new_at _ _ _ (by simp only [alloc_size, setRow_size]))
  have hBw1 : Hid (Below w.heap.size w w1) := Lib.hid (by rw [ew1]; exact (below_alloc (below_alloc (below_alloc (Below.refl _ w) _) _) _))
  clear ew1
  go_cut [6, 7] (fun s6 s7 wx => ∃ g6 : Nat, s6 = .pointer (some ⟨g6, 0, none⟩) ∧ Hid (w1.heap.size ≤ g6) ∧ Hid (Fe wx g6 0 (R)) ∧ s7 = .int .i64 Z ∧ Hid (wx.heap[w.heap.size]? = some (.cells (arrC N) 22 (0, 0))) ∧ Hid (wx.heap[w.heap.size + 1]? = some (.cells (arrC M) 22 (0, 0))) ∧ Hid (wx.heap[w.heap.size + 1 + 1]? = some (.cells (zL) 22 (0, 0))) ∧ Hid (Below w.heap.size w wx) ∧ Hid (w1.heap.size ≤ wx.heap.size))
  case first =>
    refine wp_region_noPanic ?_
    refine wp_region_held_drew (S := Keep (w1.heap.size) w1) (by kernel_rfl) (Keep.start _ _) ?_
    intro hS
    obtain ⟨w2, ed⟩ : ∃ u : World, u = w1.drew := ⟨_, rfl⟩
    rw [← ed] at hS ⊢
    have xh2 : w2.heap[w.heap.size]? = some (.cells (arrC N) 22 (0, 0)) := by rw [ed]; exact h2
    have xh3 : w2.heap[w.heap.size + 1]? = some (.cells (arrC M) 22 (0, 0)) := by rw [ed]; exact h3
    have xh4 : w2.heap[w.heap.size + 1 + 1]? = some (.cells (zL) 22 (0, 0)) := by rw [ed]; exact h4
    clear ed
    have hSz := hS.size
    clear xh2
    clear xh3
    clear xh4
    refine takeAt (i := 1) (v := .agg (arrC N)) rfl (some 10) rfl (by kernel_rfl) (by kernel_rfl) (by kernel_rfl) (fun _ _ _ h => h) (take_row rfl _ _ rfl (w.heap.size) rfl _ _ _ h2 (Nat.ne_of_lt (heap_lt h2)) under32 rfl (info32_of (arrC N) (arrC_size _))) hS ?_
    simp only [Act.put, List.setIfInBounds_toArray, List.set_cons_zero, List.set_cons_succ]
    refine takeAt (i := 3) (v := .agg (arrC M)) rfl (some 12) rfl (by kernel_rfl) (by kernel_rfl) (by kernel_rfl) (fun _ _ _ h => h) (take_row rfl _ _ rfl (w.heap.size + 1) rfl _ _ _ h3 (Nat.ne_of_lt (heap_lt h3)) under32 rfl (info32_of (arrC M) (arrC_size _))) hS ?_
    simp only [Act.put, List.setIfInBounds_toArray, List.set_cons_zero, List.set_cons_succ]
    refine wpAnyH_ready (rs := [0, 2]) (by kernel_rfl) (by simp) ?_
    refine (AllReadyH.cons rfl ?_ (AllReadyH.cons rfl ?_ AllReadyH.nil))
    · intro K hK
      refine ready_run rfl (some 9) rfl (.pointer (some ⟨w2.heap.size, 0, none⟩)) (w2.alloc (.cells zE 36)) (by go_simp; try rfl) ?_
      simp only [Act.put, List.setIfInBounds_toArray, List.set_cons_zero, List.set_cons_succ]
      obtain ⟨w3, ea⟩ : ∃ u : World, u = w2.alloc (.cells zE 36) := ⟨_, rfl⟩
      rw [← ea]
      have hS := hS.alloc (.cells zE 36)
      rw [← ea] at hS
      have hz3 : w2.heap.size + 1 ≤ w3.heap.size := by rw [ea, alloc_size]; omega
      have hy3 : w1.heap.size ≤ w2.heap.size := hSz
      have xh9 : Fe w3 w2.heap.size 0 0 := by rw [ea]; exact Fe.newz _
      clear ea
      refine hK.out _ _ hS ?_
      clear hK K
      intro _
      have hSz := hS.size
      refine wpAnyH_ready (rs := [2]) (by kernel_rfl) (by simp) ?_
      refine (AllReadyH.cons rfl ?_ AllReadyH.nil)
      intro K hK
      refine ready_call rfl (some 11) rfl 16 #[.agg (arrC N)] (by go_simp) ?_
      refine (elementOf_fe N _).mono ?_
      rintro e w4 ⟨b1, rfl, hlb1, hC, xhf1⟩
      refine ⟨_, rfl, ?_⟩
      simp only [Act.put, List.setIfInBounds_toArray, List.set_cons_zero, List.set_cons_succ]
      have xh9 : Fe w4 (w2.heap.size) (0) (0) := (Fe.below_all xh9 hC)
      have hS := hS.call hC
      have hz4 := hC.size
      clear hC
      have hlb1 : w3.heap.size ≤ b1 := by (try simp only [alloc_size, setRow_size] at hlb1); omega
      have hub1 := xhf1.lt
      refine hK.out _ _ hS ?_
      clear hK K
      intro _
      have hSz := hS.size
      refine wpAnyH_ready (rs := [4]) (by kernel_rfl) (by simp) ?_
      refine (AllReadyH.cons rfl ?_ AllReadyH.nil)
      intro K hK
      refine ready_call rfl (some 13) rfl 16 #[.agg (arrC M)] (by go_simp) ?_
      refine (elementOf_fe M _).mono ?_
      rintro e w5 ⟨b2, rfl, hlb2, hC, xhf2⟩
      refine ⟨_, rfl, ?_⟩
      simp only [Act.put, List.setIfInBounds_toArray, List.set_cons_zero, List.set_cons_succ]
      have xh9 : Fe w5 (w2.heap.size) (0) (0) := (Fe.below_all xh9 hC)
      have xhf1 : Fe w5 (b1) (0) ((valN N)) := (Fe.below_all xhf1 hC)
      have hS := hS.call hC
      have hz5 := hC.size
      clear hC
      have hlb2 : w4.heap.size ≤ b2 := by (try simp only [alloc_size, setRow_size] at hlb2); omega
      have hub2 := xhf2.lt
      refine hK.out _ _ hS ?_
      clear hK K
      intro _
      have hSz := hS.size
      refine wpAnyH_ready (rs := [5]) (by kernel_rfl) (by simp) ?_
      refine (AllReadyH.cons rfl ?_ AllReadyH.nil)
      intro K hK
      refine ready_call rfl (some 14) rfl 15 #[.pointer (some ⟨w2.heap.size, 0, none⟩), .pointer (some ⟨b1, 0, none⟩), .pointer (some ⟨b2, 0, none⟩)] (by go_simp) ?_
      refine (sqrt_fe (w2.heap.size) 0 b1 0 b2 0 _ _ _ B _ (hD0.later (hBw1.out.trans (hS.below (by omega) hBw1.out.size))) (hD1.later (hBw1.out.trans (hS.below (by omega) hBw1.out.size))) xh9 xhf1 xhf2 R HR Z HZ).mono ?_
      rintro e w6 ⟨rfl, hC⟩
      refine ⟨_, rfl, ?_⟩
      simp only [Act.put, List.setIfInBounds_toArray, List.set_cons_zero, List.set_cons_succ]
      have hz6 := hC.size
      have xh9 : Fe w6 (w2.heap.size) (0) (R) := (Sets.fe' hC xh9)
      have xhf1 : Fe w6 (b1) (0) ((valN N)) := (Sets.others hC xhf1 (by omega))
      have xhf2 : Fe w6 (b2) (0) ((valN M)) := (Sets.others hC xhf2 (by omega))
      have hS := hS.sets hC (by have := hS.size; omega)
      clear hC
      refine hK.out _ _ hS ?_
      clear hK K
      intro _
      have hSz := hS.size
      refine takeAt (i := 6) (v := .tuple #[.pointer (some ⟨w2.heap.size, 0, none⟩), .int .i64 Z]) rfl (some 8) rfl (by kernel_rfl) (by kernel_rfl) (by kernel_rfl) (fun _ _ _ h => h) (take_run rfl (fun _ _ => by go_simp)) hS ?_
      simp only [Act.put, List.setIfInBounds_toArray, List.set_cons_zero, List.set_cons_succ]
      refine takeAt (i := 7) (v := .pointer (some ⟨w2.heap.size, 0, none⟩)) rfl (some 15) rfl (by kernel_rfl) (by kernel_rfl) (by kernel_rfl) (fun _ _ _ h => h) (take_run rfl (fun _ _ => by go_simp)) hS ?_
      simp only [Act.put, List.setIfInBounds_toArray, List.set_cons_zero, List.set_cons_succ]
      refine takeAt (i := 8) (v := .int .i64 Z) rfl (some 16) rfl (by kernel_rfl) (by kernel_rfl) (by kernel_rfl) (fun _ _ _ h => h) (take_run rfl (fun _ _ => by go_simp)) hS ?_
      simp only [Act.put, List.setIfInBounds_toArray, List.set_cons_zero, List.set_cons_succ]
      refine takeAt (i := 9) (v := .pointer (some ⟨w2.heap.size, 0, none⟩)) rfl (some 6) rfl (by kernel_rfl) (by kernel_rfl) (by kernel_rfl) (fun _ _ _ h => h) (take_run rfl (fun _ _ => by go_simp)) hS ?_
      simp only [Act.put, List.setIfInBounds_toArray, List.set_cons_zero, List.set_cons_succ]
      refine takeAt (i := 10) (v := .int .i64 Z) rfl (some 7) rfl (by kernel_rfl) (by kernel_rfl) (by kernel_rfl) (fun _ _ _ h => h) (take_run rfl (fun _ _ => by go_simp)) hS ?_
      simp only [Act.put, List.setIfInBounds_toArray, List.set_cons_zero, List.set_cons_succ]
      refine wpAnyH_done (by kernel_rfl) ?_ _
      refine NoPanic.normal ?_
      have hsz := hS.size
      have h2 : w6.heap[w.heap.size]? = some (.cells (arrC N) 22 (0, 0)) := hS.old h2 (Nat.ne_of_lt (heap_lt h2))
      have h3 : w6.heap[w.heap.size + 1]? = some (.cells (arrC M) 22 (0, 0)) := hS.old h3 (Nat.ne_of_lt (heap_lt h3))
      have h4 : w6.heap[w.heap.size + 1 + 1]? = some (.cells (zL) 22 (0, 0)) := hS.old h4 (Nat.ne_of_lt (heap_lt h4))
      have h9 := xh9
      have hf1 := xhf1
      have hf2 := xhf2
      have hBw6 : Hid (Below w.heap.size w w6) := Lib.hid (hBw1.out.trans (hS.below (by omega) hBw1.out.size))
      clear hS
      go_wp2_with fail
      go_meet
      exact ⟨w2.heap.size, rfl, Lib.hid (show w1.heap.size ≤ w2.heap.size by omega), Lib.hid h9, rfl, Lib.hid h2, Lib.hid h3, Lib.hid h4, Lib.hid hBw6.out, Lib.hid (show w1.heap.size ≤ w6.heap.size by omega)⟩
    · intro K hK
      refine ready_call rfl (some 11) rfl 16 #[.agg (arrC N)] (by go_simp) ?_
      refine (elementOf_fe N _).mono ?_
      rintro e w8 ⟨b1, rfl, hlb1, hC, xhf1⟩
      refine ⟨_, rfl, ?_⟩
      simp only [Act.put, List.setIfInBounds_toArray, List.set_cons_zero, List.set_cons_succ]
      have hS := hS.call hC
      have hz8 := hC.size
      clear hC
      have hlb1 : w2.heap.size ≤ b1 := by (try simp only [alloc_size, setRow_size] at hlb1); omega
      have hub1 := xhf1.lt
      refine hK.out _ _ hS ?_
      clear hK K
      intro _
      have hSz := hS.size
      refine wpAnyH_ready (rs := [0, 4]) (by kernel_rfl) (by simp) ?_
      refine (AllReadyH.cons rfl ?_ (AllReadyH.cons rfl ?_ AllReadyH.nil))
      · intro K hK
        refine ready_run rfl (some 9) rfl (.pointer (some ⟨w8.heap.size, 0, none⟩)) (w8.alloc (.cells zE 36)) (by go_simp; try rfl) ?_
        simp only [Act.put, List.setIfInBounds_toArray, List.set_cons_zero, List.set_cons_succ]
        obtain ⟨w9, ea⟩ : ∃ u : World, u = w8.alloc (.cells zE 36) := ⟨_, rfl⟩
        rw [← ea]
        have xhf1 : Fe w9 (b1) (0) ((valN N)) := by rw [ea]; exact (Fe.alloc xhf1 _)
        have hS := hS.alloc (.cells zE 36)
        rw [← ea] at hS
        have hz9 : w8.heap.size + 1 ≤ w9.heap.size := by rw [ea, alloc_size]; omega
        have hy9 : w1.heap.size ≤ w8.heap.size := hSz
        have xh9 : Fe w9 w8.heap.size 0 0 := by rw [ea]; exact Fe.newz _
        clear ea
        refine hK.out _ _ hS ?_
        clear hK K
        intro _
        have hSz := hS.size
        refine wpAnyH_ready (rs := [4]) (by kernel_rfl) (by simp) ?_
        refine (AllReadyH.cons rfl ?_ AllReadyH.nil)
        intro K hK
        refine ready_call rfl (some 13) rfl 16 #[.agg (arrC M)] (by go_simp) ?_
        refine (elementOf_fe M _).mono ?_
        rintro e w10 ⟨b2, rfl, hlb2, hC, xhf2⟩
        refine ⟨_, rfl, ?_⟩
        simp only [Act.put, List.setIfInBounds_toArray, List.set_cons_zero, List.set_cons_succ]
        have xhf1 : Fe w10 (b1) (0) ((valN N)) := (Fe.below_all xhf1 hC)
        have xh9 : Fe w10 (w8.heap.size) (0) (0) := (Fe.below_all xh9 hC)
        have hS := hS.call hC
        have hz10 := hC.size
        clear hC
        have hlb2 : w9.heap.size ≤ b2 := by (try simp only [alloc_size, setRow_size] at hlb2); omega
        have hub2 := xhf2.lt
        refine hK.out _ _ hS ?_
        clear hK K
        intro _
        have hSz := hS.size
        refine wpAnyH_ready (rs := [5]) (by kernel_rfl) (by simp) ?_
        refine (AllReadyH.cons rfl ?_ AllReadyH.nil)
        intro K hK
        refine ready_call rfl (some 14) rfl 15 #[.pointer (some ⟨w8.heap.size, 0, none⟩), .pointer (some ⟨b1, 0, none⟩), .pointer (some ⟨b2, 0, none⟩)] (by go_simp) ?_
        refine (sqrt_fe (w8.heap.size) 0 b1 0 b2 0 _ _ _ B _ (hD0.later (hBw1.out.trans (hS.below (by omega) hBw1.out.size))) (hD1.later (hBw1.out.trans (hS.below (by omega) hBw1.out.size))) xh9 xhf1 xhf2 R HR Z HZ).mono ?_
        rintro e w11 ⟨rfl, hC⟩
        refine ⟨_, rfl, ?_⟩
        simp only [Act.put, List.setIfInBounds_toArray, List.set_cons_zero, List.set_cons_succ]
        have hz11 := hC.size
        have xhf1 : Fe w11 (b1) (0) ((valN N)) := (Sets.others hC xhf1 (by omega))
        have xh9 : Fe w11 (w8.heap.size) (0) (R) := (Sets.fe' hC xh9)
        have xhf2 : Fe w11 (b2) (0) ((valN M)) := (Sets.others hC xhf2 (by omega))
        have hS := hS.sets hC (by have := hS.size; omega)
        clear hC
        refine hK.out _ _ hS ?_
        clear hK K
        intro _
        have hSz := hS.size
        refine takeAt (i := 6) (v := .tuple #[.pointer (some ⟨w8.heap.size, 0, none⟩), .int .i64 Z]) rfl (some 8) rfl (by kernel_rfl) (by kernel_rfl) (by kernel_rfl) (fun _ _ _ h => h) (take_run rfl (fun _ _ => by go_simp)) hS ?_
        simp only [Act.put, List.setIfInBounds_toArray, List.set_cons_zero, List.set_cons_succ]
        refine takeAt (i := 7) (v := .pointer (some ⟨w8.heap.size, 0, none⟩)) rfl (some 15) rfl (by kernel_rfl) (by kernel_rfl) (by kernel_rfl) (fun _ _ _ h => h) (take_run rfl (fun _ _ => by go_simp)) hS ?_
        simp only [Act.put, List.setIfInBounds_toArray, List.set_cons_zero, List.set_cons_succ]
        refine takeAt (i := 8) (v := .int .i64 Z) rfl (some 16) rfl (by kernel_rfl) (by kernel_rfl) (by kernel_rfl) (fun _ _ _ h => h) (take_run rfl (fun _ _ => by go_simp)) hS ?_
        simp only [Act.put, List.setIfInBounds_toArray, List.set_cons_zero, List.set_cons_succ]
        refine takeAt (i := 9) (v := .pointer (some ⟨w8.heap.size, 0, none⟩)) rfl (some 6) rfl (by kernel_rfl) (by kernel_rfl) (by kernel_rfl) (fun _ _ _ h => h) (take_run rfl (fun _ _ => by go_simp)) hS ?_
        simp only [Act.put, List.setIfInBounds_toArray, List.set_cons_zero, List.set_cons_succ]
        refine takeAt (i := 10) (v := .int .i64 Z) rfl (some 7) rfl (by kernel_rfl) (by kernel_rfl) (by kernel_rfl) (fun _ _ _ h => h) (take_run rfl (fun _ _ => by go_simp)) hS ?_
        simp only [Act.put, List.setIfInBounds_toArray, List.set_cons_zero, List.set_cons_succ]
        refine wpAnyH_done (by kernel_rfl) ?_ _
        refine NoPanic.normal ?_
        have hsz := hS.size
        have h2 : w11.heap[w.heap.size]? = some (.cells (arrC N) 22 (0, 0)) := hS.old h2 (Nat.ne_of_lt (heap_lt h2))
        have h3 : w11.heap[w.heap.size + 1]? = some (.cells (arrC M) 22 (0, 0)) := hS.old h3 (Nat.ne_of_lt (heap_lt h3))
        have h4 : w11.heap[w.heap.size + 1 + 1]? = some (.cells (zL) 22 (0, 0)) := hS.old h4 (Nat.ne_of_lt (heap_lt h4))
        have hf1 := xhf1
        have h9 := xh9
        have hf2 := xhf2
        have hBw11 : Hid (Below w.heap.size w w11) := Lib.hid (hBw1.out.trans (hS.below (by omega) hBw1.out.size))
        clear hS
        go_wp2_with fail
        go_meet
        exact ⟨w8.heap.size, rfl, Lib.hid (show w1.heap.size ≤ w8.heap.size by omega), Lib.hid h9, rfl, Lib.hid h2, Lib.hid h3, Lib.hid h4, Lib.hid hBw11.out, Lib.hid (show w1.heap.size ≤ w11.heap.size by omega)⟩
      · intro K hK
        refine ready_call rfl (some 13) rfl 16 #[.agg (arrC M)] (by go_simp) ?_
        refine (elementOf_fe M _).mono ?_
        rintro e w13 ⟨b2, rfl, hlb2, hC, xhf2⟩
        refine ⟨_, rfl, ?_⟩
        simp only [Act.put, List.setIfInBounds_toArray, List.set_cons_zero, List.set_cons_succ]
        have xhf1 : Fe w13 (b1) (0) ((valN N)) := (Fe.below_all xhf1 hC)
        have hS := hS.call hC
        have hz13 := hC.size
        clear hC
        have hlb2 : w8.heap.size ≤ b2 := by (try simp only [alloc_size, setRow_size] at hlb2); omega
        have hub2 := xhf2.lt
        refine hK.out _ _ hS ?_
        clear hK K
        intro _
        have hSz := hS.size
        refine wpAnyH_ready (rs := [0]) (by kernel_rfl) (by simp) ?_
        refine (AllReadyH.cons rfl ?_ AllReadyH.nil)
        intro K hK
        refine ready_run rfl (some 9) rfl (.pointer (some ⟨w13.heap.size, 0, none⟩)) (w13.alloc (.cells zE 36)) (by go_simp; try rfl) ?_
        simp only [Act.put, List.setIfInBounds_toArray, List.set_cons_zero, List.set_cons_succ]
        obtain ⟨w14, ea⟩ : ∃ u : World, u = w13.alloc (.cells zE 36) := ⟨_, rfl⟩
        rw [← ea]
        have xhf1 : Fe w14 (b1) (0) ((valN N)) := by rw [ea]; exact (Fe.alloc xhf1 _)
        have xhf2 : Fe w14 (b2) (0) ((valN M)) := by rw [ea]; exact (Fe.alloc xhf2 _)
        have hS := hS.alloc (.cells zE 36)
        rw [← ea] at hS
        have hz14 : w13.heap.size + 1 ≤ w14.heap.size := by rw [ea, alloc_size]; omega
        have hy14 : w1.heap.size ≤ w13.heap.size := hSz
        have xh9 : Fe w14 w13.heap.size 0 0 := by rw [ea]; exact Fe.newz _
        clear ea
        refine hK.out _ _ hS ?_
        clear hK K
        intro _
        have hSz := hS.size
        refine wpAnyH_ready (rs := [5]) (by kernel_rfl) (by simp) ?_
        refine (AllReadyH.cons rfl ?_ AllReadyH.nil)
        intro K hK
        refine ready_call rfl (some 14) rfl 15 #[.pointer (some ⟨w13.heap.size, 0, none⟩), .pointer (some ⟨b1, 0, none⟩), .pointer (some ⟨b2, 0, none⟩)] (by go_simp) ?_
        refine (sqrt_fe (w13.heap.size) 0 b1 0 b2 0 _ _ _ B _ (hD0.later (hBw1.out.trans (hS.below (by omega) hBw1.out.size))) (hD1.later (hBw1.out.trans (hS.below (by omega) hBw1.out.size))) xh9 xhf1 xhf2 R HR Z HZ).mono ?_
        rintro e w15 ⟨rfl, hC⟩
        refine ⟨_, rfl, ?_⟩
        simp only [Act.put, List.setIfInBounds_toArray, List.set_cons_zero, List.set_cons_succ]
        have hz15 := hC.size
        have xhf1 : Fe w15 (b1) (0) ((valN N)) := (Sets.others hC xhf1 (by omega))
        have xhf2 : Fe w15 (b2) (0) ((valN M)) := (Sets.others hC xhf2 (by omega))
        have xh9 : Fe w15 (w13.heap.size) (0) (R) := (Sets.fe' hC xh9)
        have hS := hS.sets hC (by have := hS.size; omega)
        clear hC
        refine hK.out _ _ hS ?_
        clear hK K
        intro _
        have hSz := hS.size
        refine takeAt (i := 6) (v := .tuple #[.pointer (some ⟨w13.heap.size, 0, none⟩), .int .i64 Z]) rfl (some 8) rfl (by kernel_rfl) (by kernel_rfl) (by kernel_rfl) (fun _ _ _ h => h) (take_run rfl (fun _ _ => by go_simp)) hS ?_
        simp only [Act.put, List.setIfInBounds_toArray, List.set_cons_zero, List.set_cons_succ]
        refine takeAt (i := 7) (v := .pointer (some ⟨w13.heap.size, 0, none⟩)) rfl (some 15) rfl (by kernel_rfl) (by kernel_rfl) (by kernel_rfl) (fun _ _ _ h => h) (take_run rfl (fun _ _ => by go_simp)) hS ?_
        simp only [Act.put, List.setIfInBounds_toArray, List.set_cons_zero, List.set_cons_succ]
        refine takeAt (i := 8) (v := .int .i64 Z) rfl (some 16) rfl (by kernel_rfl) (by kernel_rfl) (by kernel_rfl) (fun _ _ _ h => h) (take_run rfl (fun _ _ => by go_simp)) hS ?_
        simp only [Act.put, List.setIfInBounds_toArray, List.set_cons_zero, List.set_cons_succ]
        refine takeAt (i := 9) (v := .pointer (some ⟨w13.heap.size, 0, none⟩)) rfl (some 6) rfl (by kernel_rfl) (by kernel_rfl) (by kernel_rfl) (fun _ _ _ h => h) (take_run rfl (fun _ _ => by go_simp)) hS ?_
        simp only [Act.put, List.setIfInBounds_toArray, List.set_cons_zero, List.set_cons_succ]
        refine takeAt (i := 10) (v := .int .i64 Z) rfl (some 7) rfl (by kernel_rfl) (by kernel_rfl) (by kernel_rfl) (fun _ _ _ h => h) (take_run rfl (fun _ _ => by go_simp)) hS ?_
        simp only [Act.put, List.setIfInBounds_toArray, List.set_cons_zero, List.set_cons_succ]
        refine wpAnyH_done (by kernel_rfl) ?_ _
        refine NoPanic.normal ?_
        have hsz := hS.size
        have h2 : w15.heap[w.heap.size]? = some (.cells (arrC N) 22 (0, 0)) := hS.old h2 (Nat.ne_of_lt (heap_lt h2))
        have h3 : w15.heap[w.heap.size + 1]? = some (.cells (arrC M) 22 (0, 0)) := hS.old h3 (Nat.ne_of_lt (heap_lt h3))
        have h4 : w15.heap[w.heap.size + 1 + 1]? = some (.cells (zL) 22 (0, 0)) := hS.old h4 (Nat.ne_of_lt (heap_lt h4))
        have hf1 := xhf1
        have hf2 := xhf2
        have h9 := xh9
        have hBw15 : Hid (Below w.heap.size w w15) := Lib.hid (hBw1.out.trans (hS.below (by omega) hBw1.out.size))
        clear hS
        go_wp2_with fail
        go_meet
        exact ⟨w13.heap.size, rfl, Lib.hid (show w1.heap.size ≤ w13.heap.size by omega), Lib.hid h9, rfl, Lib.hid h2, Lib.hid h3, Lib.hid h4, Lib.hid hBw15.out, Lib.hid (show w1.heap.size ≤ w15.heap.size by omega)⟩
  case rest =>
    obtain ⟨g6, rfl, Hg6, Hh6, rfl, Hh2, Hh3, Hh4, hBw17, Hsz17⟩ := hcut
    obtain ⟨w17, rfl⟩ : ∃ u : World, u = wc := ⟨_, rfl⟩
    have hgl6 := Hg6.out
    have h6 := Hh6.out
    have hgu6 := h6.lt
    have h2 := Hh2.out
    have h3 := Hh3.out
    have h4 := Hh4.out
    have hsz17 := Hsz17.out
    go_wp2_with fail
    refine (elementBytes_fe g6 0 _ _ h6).mono ?_
    rintro e w18 ⟨rfl, hC18⟩
    have hs18 : w17.heap.size ≤ w18.heap.size := by have := hC18.size; (try simp only [alloc_size, setRow_size] at this); omega
    replace h2 : w18.heap[w.heap.size]? = some (.cells (arrC N) 22 (0, 0)) := (heap_call hC18 h2)
    replace h3 : w18.heap[w.heap.size + 1]? = some (.cells (arrC M) 22 (0, 0)) := (heap_call hC18 h3)
    replace h4 : w18.heap[w.heap.size + 1 + 1]? = some (.cells (zL) 22 (0, 0)) := (heap_call hC18 h4)
    replace h6 : Fe w18 (g6) (0) (R) := (Fe.below_all h6 hC18)
    have hBw18 : Hid (Below w.heap.size w w18) := Lib.hid (below_call hBw17.out hC18)
    clear hC18
    go_wp2_with (first
      | ((with_reducible refine at_store 4 ?_); refine wpList_store_row rfl 22 _ _ rfl (w.heap.size + 1 + 1) (arrC R) rfl rfl 22 (zL) h4 (info32_of (arrC R) (arrC_size _)) (zL_size.trans (arrC_size _).symm) (arrC_one _) ?_))
    refine bodyPost_ret (results_row_tmp rfl _ _ (w.heap.size + 1 + 1) 22 (arrC R) (0, 0) _ rfl (setRow_heap _ _ _ _ _ _ h4) under32 rfl (info32_of (arrC R) (arrC_size _))) rfl ⟨rfl, (below_setRow hBw18.out (by omega) _)⟩

end Go.Proofs.YtmabidcocdflkaaDoor
