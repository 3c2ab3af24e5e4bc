/- FnFieldBinomial: the walk. -/
import Derived.Test.YtkecocibfmhdpaaFM
import Derived.Test.YtkecocibfmhdpaaFM32
import Derived.Test.YtkecocibfmhdpaaFSq
import Derived.Test.YtkecocibfmhdpaaLI0
import Derived.Test.YtkecocibfmhdpaaLK2
set_option linter.unusedSimpArgs false
set_option linter.unusedVariables false
namespace Go.Proofs.Ytkecocibfmhdpaa
open Go.RowKit

theorem binom_eq (x y : Nat) : (x + y) % pF * ((x + y) % pF) % pF = ((x * x % pF + y * y % pF) % pF + x * y % pF * 2 % pF) % pF := by
  refine fp_inj (mod_lt_p _) (mod_lt_p _) ?_
  simp only [fp_mod, fp_mul, fp_add]
  have : fp 2 = 2 := rfl
  rw [this]; grind

set_option maxHeartbeats 2000000 in
theorem Binomial_walk (X : Nat) (bX : X < 256 ^ 32) (Y : Nat) (bY : Y < 256 ^ 32) (w : World) :
    Calls Try.prog 5 #[.agg (arrC X), .agg (arrC Y)] w fun e w' => e = .returned (.bool true) ∧ Below w.heap.size w w' := by
  obtain ⟨A, qA⟩ : ∃ u : Nat, u = valN X * valN X % pF := ⟨_, rfl⟩
  have HA := Lib.hid qA; clear qA
  have vA : valN A = A := vl (by rw [HA.out]; exact mod_lt_p _)
  obtain ⟨B, qB⟩ : ∃ u : Nat, u = valN Y * valN Y % pF := ⟨_, rfl⟩
  have HB := Lib.hid qB; clear qB
  have vB : valN B = B := vl (by rw [HB.out]; exact mod_lt_p _)
  obtain ⟨C, qC⟩ : ∃ u : Nat, u = (valN A + valN B) % pF := ⟨_, rfl⟩
  have HC := Lib.hid qC; clear qC
  have vC : valN C = C := vl (by rw [HC.out]; exact mod_lt_p _)
  obtain ⟨D, qD⟩ : ∃ u : Nat, u = (valN X + valN Y) % pF := ⟨_, rfl⟩
  have HD := Lib.hid qD; clear qD
  have vD : valN D = D := vl (by rw [HD.out]; exact mod_lt_p _)
  obtain ⟨R, qR⟩ : ∃ u : Nat, u = valN D * valN D % pF := ⟨_, rfl⟩
  have HR := Lib.hid qR; clear qR
  have vR : valN R = R := vl (by rw [HR.out]; exact mod_lt_p _)
  obtain ⟨M, qM⟩ : ∃ u : Nat, u = valN X * valN Y % pF := ⟨_, rfl⟩
  have HM := Lib.hid qM; clear qM
  have vM : valN M = M := vl (by rw [HM.out]; exact mod_lt_p _)
  obtain ⟨T, qT⟩ : ∃ u : Nat, u = valN M * 2 % pF := ⟨_, rfl⟩
  have HT := Lib.hid qT; clear qT
  have vT : valN T = T := vl (by rw [HT.out]; exact mod_lt_p _)
  have HR2 : Hid (R = (valN C + valN T) % pF) := Lib.hid (by
    rw [vC, vT, HR.out, HC.out, HT.out, vA, vB, vD, vM, HA.out, HB.out, HD.out, HM.out]
    exact binom_eq _ _)
  have H1 : Hid (1 = valN 1 * valN 1 % pF) := Lib.hid (by rw [v1]; unfold pF; simp)
  have lR : R < 256 ^ 32 := by rw [HR.out]; exact Nat.lt_trans (mod_lt_p _) p_lt
  clear vA vB vC vD vR vM vT
  go_enter Try.func5, Try.ntmps5
  go_wp2_with fail
  refine wp_named ?_
  intro w1 ew1
  have hs1 : w.heap.size + 1 + 1 ≤ w1.heap.size := by rw [ew1]; (try simp only [alloc_size, setRow_size]); omega
  replace h2 : w1.heap[w.heap.size]? = some (.cells (arrC X) 22 (0, 0)) := by rw [ew1]; exact (heap_old _ (heap_new_at _ _ _ rfl))
  replace h3 : w1.heap[w.heap.size + 1]? = some (.cells (arrC Y) 22 (0, 0)) := by rw [ew1]; exact (heap_new_at _ _ _ (by simp only [alloc_size, setRow_size]))
  have hBw1 : Hid (Below w.heap.size w w1) := Lib.hid (by rw [ew1]; exact (below_alloc (below_alloc (Below.refl _ w) _) _))
  clear ew1
  go_cut [5] (fun s5 wx => ∃ g5 : Nat, s5 = .pointer (some ⟨g5, 0, none⟩) ∧ Hid (w1.heap.size ≤ g5) ∧ Hid (wx.heap[g5]? = some (.cells (arrC C) 22 (0, 0))) ∧ Hid (wx.heap[w.heap.size]? = some (.cells (arrC X) 22 (0, 0))) ∧ Hid (wx.heap[w.heap.size + 1]? = some (.cells (arrC Y) 22 (0, 0))) ∧ Hid (Below w.heap.size w wx) ∧ Hid (w1.heap.size ≤ wx.heap.size))
  case first =>
    refine wp_region_noPanic ?_
    refine wp_region_held_drew (S := Keep (w1.heap.size) w1) (by kernel_rfl) (Keep.start _ _) ?_
    intro hS
    obtain ⟨w2, ed⟩ : ∃ u : World, u = w1.drew := ⟨_, rfl⟩
    rw [← ed] at hS ⊢
    have xh2 : w2.heap[w.heap.size]? = some (.cells (arrC X) 22 (0, 0)) := by rw [ed]; exact h2
    have xh3 : w2.heap[w.heap.size + 1]? = some (.cells (arrC Y) 22 (0, 0)) := by rw [ed]; exact h3
    clear ed
    have hSz := hS.size
    clear xh2
    clear xh3
    refine takeAt (i := 0) (v := .agg (arrC X)) rfl (some 6) rfl (by kernel_rfl) (by kernel_rfl) (by kernel_rfl) (fun _ _ _ h => h) (take_row rfl _ _ rfl (w.heap.size) rfl _ _ _ h2 (Nat.ne_of_lt (heap_lt h2)) under32 rfl (info32_of (arrC X) (arrC_size _))) hS ?_
    simp only [Act.put, List.setIfInBounds_toArray, List.set_cons_zero, List.set_cons_succ]
    refine takeAt (i := 2) (v := .agg (arrC Y)) rfl (some 8) rfl (by kernel_rfl) (by kernel_rfl) (by kernel_rfl) (fun _ _ _ h => h) (take_row rfl _ _ rfl (w.heap.size + 1) rfl _ _ _ h3 (Nat.ne_of_lt (heap_lt h3)) under32 rfl (info32_of (arrC Y) (arrC_size _))) hS ?_
    simp only [Act.put, List.setIfInBounds_toArray, List.set_cons_zero, List.set_cons_succ]
    refine wpAnyH_ready (rs := [1, 5]) (by kernel_rfl) (by simp) ?_
    refine (AllReadyH.cons rfl ?_ (AllReadyH.cons rfl ?_ AllReadyH.nil))
    · intro K hK
      refine ready_call rfl (some 7) rfl 17 #[.agg (arrC X)] (by go_simp) ?_
      refine (FieldSq_to X A HA _).mono ?_
      rintro e w3 ⟨rfl, hC⟩
      refine ⟨_, rfl, ?_⟩
      simp only [Act.put, List.setIfInBounds_toArray, List.set_cons_zero, List.set_cons_succ]
      have hS := hS.call hC
      have hz3 := hC.size
      clear hC
      refine hK.out _ _ hS ?_
      clear hK K
      intro _
      have hSz := hS.size
      refine wpAnyH_ready (rs := [3, 5]) (by kernel_rfl) (by simp) ?_
      refine (AllReadyH.cons rfl ?_ (AllReadyH.cons rfl ?_ AllReadyH.nil))
      · intro K hK
        refine ready_call rfl (some 9) rfl 17 #[.agg (arrC Y)] (by go_simp) ?_
        refine (FieldSq_to Y B HB _).mono ?_
        rintro e w4 ⟨rfl, hC⟩
        refine ⟨_, rfl, ?_⟩
        simp only [Act.put, List.setIfInBounds_toArray, List.set_cons_zero, List.set_cons_succ]
        have hS := hS.call hC
        have hz4 := hC.size
        clear hC
        refine hK.out _ _ hS ?_
        clear hK K
        intro _
        have hSz := hS.size
        refine wpAnyH_ready (rs := [4, 5]) (by kernel_rfl) (by simp) ?_
        refine (AllReadyH.cons rfl ?_ (AllReadyH.cons rfl ?_ AllReadyH.nil))
        · intro K hK
          refine ready_call rfl (some 10) rfl 13 #[.agg (arrC A), .agg (arrC B)] (by go_simp) ?_
          refine (FieldAdd_to A B C HC _).mono ?_
          rintro e w5 ⟨rfl, hC⟩
          refine ⟨_, rfl, ?_⟩
          simp only [Act.put, List.setIfInBounds_toArray, List.set_cons_zero, List.set_cons_succ]
          have hS := hS.call hC
          have hz5 := hC.size
          clear hC
          refine hK.out _ _ hS ?_
          clear hK K
          intro _
          have hSz := hS.size
          refine wpAnyH_ready (rs := [5]) (by kernel_rfl) (by simp) ?_
          refine (AllReadyH.cons rfl ?_ AllReadyH.nil)
          intro K hK
          refine ready_run rfl (some 5) rfl (.pointer (some ⟨w5.heap.size, 0, none⟩)) (w5.alloc (.cells zL 22)) (by go_simp; try rfl) ?_
          simp only [Act.put, List.setIfInBounds_toArray, List.set_cons_zero, List.set_cons_succ]
          obtain ⟨w6, ea⟩ : ∃ u : World, u = w5.alloc (.cells zL 22) := ⟨_, rfl⟩
          rw [← ea]
          have hS := hS.alloc (.cells zL 22)
          rw [← ea] at hS
          have hz6 : w5.heap.size + 1 ≤ w6.heap.size := by rw [ea, alloc_size]; omega
          have hy6 : w1.heap.size ≤ w5.heap.size := hSz
          have xh5 : w6.heap[w5.heap.size]? = some (.cells (zL) 22 (0, 0)) := by rw [ea]; exact heap_new_at _ _ _ rfl
          clear ea
          refine hK.out _ _ hS ?_
          clear hK K
          intro _
          have hSz := hS.size
          refine wpAnyH_ready (rs := [6]) (by kernel_rfl) (by simp) ?_
          refine (AllReadyH.cons rfl ?_ AllReadyH.nil)
          intro K hK
          rw [if_pos (by rfl)]
          refine wp_store_row 22 _ _ rfl (w5.heap.size) (arrC C) rfl rfl 22 (zL) xh5 (info32_of (arrC C) (arrC_size _)) (zL_size.trans (arrC_size _).symm) (arrC_one _) ?_
          refine put_at (none) rfl ?_
          simp only [Act.put, List.setIfInBounds_toArray, List.set_cons_zero, List.set_cons_succ]
          have xh5 : (w6.setRow (w5.heap.size) (arrC C)).heap[w5.heap.size]? = some (.cells (arrC C) 22 (0, 0)) := (setRow_heap _ _ _ _ _ _ xh5)
          have hS := hS.storeNew (arrC C) (show w1.heap.size ≤ w5.heap.size by omega)
          generalize w6.setRow (w5.heap.size) (arrC C) = w7 at *
          refine hK.out _ _ hS ?_
          clear hK K
          intro _
          have hSz := hS.size
          refine wpAnyH_done (by kernel_rfl) ?_ _
          refine NoPanic.normal ?_
          have hsz := hS.size
          have h2 : w7.heap[w.heap.size]? = some (.cells (arrC X) 22 (0, 0)) := hS.old h2 (Nat.ne_of_lt (heap_lt h2))
          have h3 : w7.heap[w.heap.size + 1]? = some (.cells (arrC Y) 22 (0, 0)) := hS.old h3 (Nat.ne_of_lt (heap_lt h3))
          have h5 := xh5
          have hBw7 : Hid (Below w.heap.size w w7) := Lib.hid (hBw1.out.trans (hS.below (by omega) hBw1.out.size))
          clear hS
          go_wp2_with fail
          go_meet
          exact ⟨w5.heap.size, rfl, Lib.hid (show w1.heap.size ≤ w5.heap.size by omega), Lib.hid h5, Lib.hid h2, Lib.hid h3, Lib.hid hBw7.out, Lib.hid (show w1.heap.size ≤ w7.heap.size by omega)⟩
        · intro K hK
          refine ready_run rfl (some 5) rfl (.pointer (some ⟨w4.heap.size, 0, none⟩)) (w4.alloc (.cells zL 22)) (by go_simp; try rfl) ?_
          simp only [Act.put, List.setIfInBounds_toArray, List.set_cons_zero, List.set_cons_succ]
          obtain ⟨w9, ea⟩ : ∃ u : World, u = w4.alloc (.cells zL 22) := ⟨_, rfl⟩
          rw [← ea]
          have hS := hS.alloc (.cells zL 22)
          rw [← ea] at hS
          have hz9 : w4.heap.size + 1 ≤ w9.heap.size := by rw [ea, alloc_size]; omega
          have hy9 : w1.heap.size ≤ w4.heap.size := hSz
          have xh5 : w9.heap[w4.heap.size]? = some (.cells (zL) 22 (0, 0)) := by rw [ea]; exact heap_new_at _ _ _ rfl
          clear ea
          refine hK.out _ _ hS ?_
          clear hK K
          intro _
          have hSz := hS.size
          refine wpAnyH_ready (rs := [4]) (by kernel_rfl) (by simp) ?_
          refine (AllReadyH.cons rfl ?_ AllReadyH.nil)
          intro K hK
          refine ready_call rfl (some 10) rfl 13 #[.agg (arrC A), .agg (arrC B)] (by go_simp) ?_
          refine (FieldAdd_to A B C HC _).mono ?_
          rintro e w10 ⟨rfl, hC⟩
          refine ⟨_, rfl, ?_⟩
          simp only [Act.put, List.setIfInBounds_toArray, List.set_cons_zero, List.set_cons_succ]
          have xh5 : w10.heap[w4.heap.size]? = some (.cells (zL) 22 (0, 0)) := (heap_call hC xh5)
          have hS := hS.call hC
          have hz10 := hC.size
          clear hC
          refine hK.out _ _ hS ?_
          clear hK K
          intro _
          have hSz := hS.size
          refine wpAnyH_ready (rs := [6]) (by kernel_rfl) (by simp) ?_
          refine (AllReadyH.cons rfl ?_ AllReadyH.nil)
          intro K hK
          rw [if_pos (by rfl)]
          refine wp_store_row 22 _ _ rfl (w4.heap.size) (arrC C) rfl rfl 22 (zL) xh5 (info32_of (arrC C) (arrC_size _)) (zL_size.trans (arrC_size _).symm) (arrC_one _) ?_
          refine put_at (none) rfl ?_
          simp only [Act.put, List.setIfInBounds_toArray, List.set_cons_zero, List.set_cons_succ]
          have xh5 : (w10.setRow (w4.heap.size) (arrC C)).heap[w4.heap.size]? = some (.cells (arrC C) 22 (0, 0)) := (setRow_heap _ _ _ _ _ _ xh5)
          have hS := hS.storeNew (arrC C) (show w1.heap.size ≤ w4.heap.size by omega)
          generalize w10.setRow (w4.heap.size) (arrC C) = w11 at *
          refine hK.out _ _ hS ?_
          clear hK K
          intro _
          have hSz := hS.size
          refine wpAnyH_done (by kernel_rfl) ?_ _
          refine NoPanic.normal ?_
          have hsz := hS.size
          have h2 : w11.heap[w.heap.size]? = some (.cells (arrC X) 22 (0, 0)) := hS.old h2 (Nat.ne_of_lt (heap_lt h2))
          have h3 : w11.heap[w.heap.size + 1]? = some (.cells (arrC Y) 22 (0, 0)) := hS.old h3 (Nat.ne_of_lt (heap_lt h3))
          have h5 := xh5
          have hBw11 : Hid (Below w.heap.size w w11) := Lib.hid (hBw1.out.trans (hS.below (by omega) hBw1.out.size))
          clear hS
          go_wp2_with fail
          go_meet
          exact ⟨w4.heap.size, rfl, Lib.hid (show w1.heap.size ≤ w4.heap.size by omega), Lib.hid h5, Lib.hid h2, Lib.hid h3, Lib.hid hBw11.out, Lib.hid (show w1.heap.size ≤ w11.heap.size by omega)⟩
      · intro K hK
        refine ready_run rfl (some 5) rfl (.pointer (some ⟨w3.heap.size, 0, none⟩)) (w3.alloc (.cells zL 22)) (by go_simp; try rfl) ?_
        simp only [Act.put, List.setIfInBounds_toArray, List.set_cons_zero, List.set_cons_succ]
        obtain ⟨w13, ea⟩ : ∃ u : World, u = w3.alloc (.cells zL 22) := ⟨_, rfl⟩
        rw [← ea]
        have hS := hS.alloc (.cells zL 22)
        rw [← ea] at hS
        have hz13 : w3.heap.size + 1 ≤ w13.heap.size := by rw [ea, alloc_size]; omega
        have hy13 : w1.heap.size ≤ w3.heap.size := hSz
        have xh5 : w13.heap[w3.heap.size]? = some (.cells (zL) 22 (0, 0)) := by rw [ea]; exact heap_new_at _ _ _ rfl
        clear ea
        refine hK.out _ _ hS ?_
        clear hK K
        intro _
        have hSz := hS.size
        refine wpAnyH_ready (rs := [3]) (by kernel_rfl) (by simp) ?_
        refine (AllReadyH.cons rfl ?_ AllReadyH.nil)
        intro K hK
        refine ready_call rfl (some 9) rfl 17 #[.agg (arrC Y)] (by go_simp) ?_
        refine (FieldSq_to Y B HB _).mono ?_
        rintro e w14 ⟨rfl, hC⟩
        refine ⟨_, rfl, ?_⟩
        simp only [Act.put, List.setIfInBounds_toArray, List.set_cons_zero, List.set_cons_succ]
        have xh5 : w14.heap[w3.heap.size]? = some (.cells (zL) 22 (0, 0)) := (heap_call hC xh5)
        have hS := hS.call hC
        have hz14 := hC.size
        clear hC
        refine hK.out _ _ hS ?_
        clear hK K
        intro _
        have hSz := hS.size
        refine wpAnyH_ready (rs := [4]) (by kernel_rfl) (by simp) ?_
        refine (AllReadyH.cons rfl ?_ AllReadyH.nil)
        intro K hK
        refine ready_call rfl (some 10) rfl 13 #[.agg (arrC A), .agg (arrC B)] (by go_simp) ?_
        refine (FieldAdd_to A B C HC _).mono ?_
        rintro e w15 ⟨rfl, hC⟩
        refine ⟨_, rfl, ?_⟩
        simp only [Act.put, List.setIfInBounds_toArray, List.set_cons_zero, List.set_cons_succ]
        have xh5 : w15.heap[w3.heap.size]? = some (.cells (zL) 22 (0, 0)) := (heap_call hC xh5)
        have hS := hS.call hC
        have hz15 := hC.size
        clear hC
        refine hK.out _ _ hS ?_
        clear hK K
        intro _
        have hSz := hS.size
        refine wpAnyH_ready (rs := [6]) (by kernel_rfl) (by simp) ?_
        refine (AllReadyH.cons rfl ?_ AllReadyH.nil)
        intro K hK
        rw [if_pos (by rfl)]
        refine wp_store_row 22 _ _ rfl (w3.heap.size) (arrC C) rfl rfl 22 (zL) xh5 (info32_of (arrC C) (arrC_size _)) (zL_size.trans (arrC_size _).symm) (arrC_one _) ?_
        refine put_at (none) rfl ?_
        simp only [Act.put, List.setIfInBounds_toArray, List.set_cons_zero, List.set_cons_succ]
        have xh5 : (w15.setRow (w3.heap.size) (arrC C)).heap[w3.heap.size]? = some (.cells (arrC C) 22 (0, 0)) := (setRow_heap _ _ _ _ _ _ xh5)
        have hS := hS.storeNew (arrC C) (show w1.heap.size ≤ w3.heap.size by omega)
        generalize w15.setRow (w3.heap.size) (arrC C) = w16 at *
        refine hK.out _ _ hS ?_
        clear hK K
        intro _
        have hSz := hS.size
        refine wpAnyH_done (by kernel_rfl) ?_ _
        refine NoPanic.normal ?_
        have hsz := hS.size
        have h2 : w16.heap[w.heap.size]? = some (.cells (arrC X) 22 (0, 0)) := hS.old h2 (Nat.ne_of_lt (heap_lt h2))
        have h3 : w16.heap[w.heap.size + 1]? = some (.cells (arrC Y) 22 (0, 0)) := hS.old h3 (Nat.ne_of_lt (heap_lt h3))
        have h5 := xh5
        have hBw16 : Hid (Below w.heap.size w w16) := Lib.hid (hBw1.out.trans (hS.below (by omega) hBw1.out.size))
        clear hS
        go_wp2_with fail
        go_meet
        exact ⟨w3.heap.size, rfl, Lib.hid (show w1.heap.size ≤ w3.heap.size by omega), Lib.hid h5, Lib.hid h2, Lib.hid h3, Lib.hid hBw16.out, Lib.hid (show w1.heap.size ≤ w16.heap.size by omega)⟩
    · intro K hK
      refine ready_run rfl (some 5) rfl (.pointer (some ⟨w2.heap.size, 0, none⟩)) (w2.alloc (.cells zL 22)) (by go_simp; try rfl) ?_
      simp only [Act.put, List.setIfInBounds_toArray, List.set_cons_zero, List.set_cons_succ]
      obtain ⟨w18, ea⟩ : ∃ u : World, u = w2.alloc (.cells zL 22) := ⟨_, rfl⟩
      rw [← ea]
      have hS := hS.alloc (.cells zL 22)
      rw [← ea] at hS
      have hz18 : w2.heap.size + 1 ≤ w18.heap.size := by rw [ea, alloc_size]; omega
      have hy18 : w1.heap.size ≤ w2.heap.size := hSz
      have xh5 : w18.heap[w2.heap.size]? = some (.cells (zL) 22 (0, 0)) := by rw [ea]; exact heap_new_at _ _ _ rfl
      clear ea
      refine hK.out _ _ hS ?_
      clear hK K
      intro _
      have hSz := hS.size
      refine wpAnyH_ready (rs := [1]) (by kernel_rfl) (by simp) ?_
      refine (AllReadyH.cons rfl ?_ AllReadyH.nil)
      intro K hK
      refine ready_call rfl (some 7) rfl 17 #[.agg (arrC X)] (by go_simp) ?_
      refine (FieldSq_to X A HA _).mono ?_
      rintro e w19 ⟨rfl, hC⟩
      refine ⟨_, rfl, ?_⟩
      simp only [Act.put, List.setIfInBounds_toArray, List.set_cons_zero, List.set_cons_succ]
      have xh5 : w19.heap[w2.heap.size]? = some (.cells (zL) 22 (0, 0)) := (heap_call hC xh5)
      have hS := hS.call hC
      have hz19 := hC.size
      clear hC
      refine hK.out _ _ hS ?_
      clear hK K
      intro _
      have hSz := hS.size
      refine wpAnyH_ready (rs := [3]) (by kernel_rfl) (by simp) ?_
      refine (AllReadyH.cons rfl ?_ AllReadyH.nil)
      intro K hK
      refine ready_call rfl (some 9) rfl 17 #[.agg (arrC Y)] (by go_simp) ?_
      refine (FieldSq_to Y B HB _).mono ?_
      rintro e w20 ⟨rfl, hC⟩
      refine ⟨_, rfl, ?_⟩
      simp only [Act.put, List.setIfInBounds_toArray, List.set_cons_zero, List.set_cons_succ]
      have xh5 : w20.heap[w2.heap.size]? = some (.cells (zL) 22 (0, 0)) := (heap_call hC xh5)
      have hS := hS.call hC
      have hz20 := hC.size
      clear hC
      refine hK.out _ _ hS ?_
      clear hK K
      intro _
      have hSz := hS.size
      refine wpAnyH_ready (rs := [4]) (by kernel_rfl) (by simp) ?_
      refine (AllReadyH.cons rfl ?_ AllReadyH.nil)
      intro K hK
      refine ready_call rfl (some 10) rfl 13 #[.agg (arrC A), .agg (arrC B)] (by go_simp) ?_
      refine (FieldAdd_to A B C HC _).mono ?_
      rintro e w21 ⟨rfl, hC⟩
      refine ⟨_, rfl, ?_⟩
      simp only [Act.put, List.setIfInBounds_toArray, List.set_cons_zero, List.set_cons_succ]
      have xh5 : w21.heap[w2.heap.size]? = some (.cells (zL) 22 (0, 0)) := (heap_call hC xh5)
      have hS := hS.call hC
      have hz21 := hC.size
      clear hC
      refine hK.out _ _ hS ?_
      clear hK K
      intro _
      have hSz := hS.size
      refine wpAnyH_ready (rs := [6]) (by kernel_rfl) (by simp) ?_
      refine (AllReadyH.cons rfl ?_ AllReadyH.nil)
      intro K hK
      rw [if_pos (by rfl)]
      refine wp_store_row 22 _ _ rfl (w2.heap.size) (arrC C) rfl rfl 22 (zL) xh5 (info32_of (arrC C) (arrC_size _)) (zL_size.trans (arrC_size _).symm) (arrC_one _) ?_
      refine put_at (none) rfl ?_
      simp only [Act.put, List.setIfInBounds_toArray, List.set_cons_zero, List.set_cons_succ]
      have xh5 : (w21.setRow (w2.heap.size) (arrC C)).heap[w2.heap.size]? = some (.cells (arrC C) 22 (0, 0)) := (setRow_heap _ _ _ _ _ _ xh5)
      have hS := hS.storeNew (arrC C) (show w1.heap.size ≤ w2.heap.size by omega)
      generalize w21.setRow (w2.heap.size) (arrC C) = w22 at *
      refine hK.out _ _ hS ?_
      clear hK K
      intro _
      have hSz := hS.size
      refine wpAnyH_done (by kernel_rfl) ?_ _
      refine NoPanic.normal ?_
      have hsz := hS.size
      have h2 : w22.heap[w.heap.size]? = some (.cells (arrC X) 22 (0, 0)) := hS.old h2 (Nat.ne_of_lt (heap_lt h2))
      have h3 : w22.heap[w.heap.size + 1]? = some (.cells (arrC Y) 22 (0, 0)) := hS.old h3 (Nat.ne_of_lt (heap_lt h3))
      have h5 := xh5
      have hBw22 : Hid (Below w.heap.size w w22) := Lib.hid (hBw1.out.trans (hS.below (by omega) hBw1.out.size))
      clear hS
      go_wp2_with fail
      go_meet
      exact ⟨w2.heap.size, rfl, Lib.hid (show w1.heap.size ≤ w2.heap.size by omega), Lib.hid h5, Lib.hid h2, Lib.hid h3, Lib.hid hBw22.out, Lib.hid (show w1.heap.size ≤ w22.heap.size by omega)⟩
  case rest =>
    obtain ⟨g5, rfl, Hg5, Hh5, Hh2, Hh3, hBw24, Hsz24⟩ := hcut
    obtain ⟨w24, rfl⟩ : ∃ u : World, u = wc := ⟨_, rfl⟩
    have hgl5 := Hg5.out
    have h5 := Hh5.out
    have hgu5 := heap_lt h5
    have h2 := Hh2.out
    have h3 := Hh3.out
    have hsz24 := Hsz24.out
    go_wp2_with fail
    refine wp_named ?_
    intro w25 ew25
    have hs25 : w24.heap.size ≤ w25.heap.size := by rw [ew25]; (try simp only [alloc_size, setRow_size]); omega
    replace h2 : w25.heap[w.heap.size]? = some (.cells (arrC X) 22 (0, 0)) := by rw [ew25]; exact h2
    replace h3 : w25.heap[w.heap.size + 1]? = some (.cells (arrC Y) 22 (0, 0)) := by rw [ew25]; exact h3
    replace h5 : w25.heap[g5]? = some (.cells (arrC C) 22 (0, 0)) := by rw [ew25]; exact h5
    have hBw25 : Hid (Below w.heap.size w w25) := Lib.hid (by rw [ew25]; exact hBw24.out)
    clear ew25
    refine wp_region_quiet (C := Below w25.heap.size w25) (by kernel_rfl) (by kernel_rfl) (Below.refl _ _).drew ?_
    simp only [List.toList_toArray]
    refine wpQuiet_step (fun K hK => ?_); rw [if_pos (by rfl)]
    refine ⟨.agg (arrC X), fun w' hC => qload _ _ rfl (w.heap.size) rfl _ _ _ h2 under32 rfl (info32_of (arrC X) (arrC_size _)) hC, hK _ ?_⟩; clear hK K
    simp only [Act.put, List.setIfInBounds_toArray, List.set_cons_zero, List.set_cons_succ]
    refine wpQuiet_step (fun K hK => ?_); rw [if_pos (by rfl)]
    refine ⟨.agg (arrC Y), fun w' hC => qload _ _ rfl (w.heap.size + 1) rfl _ _ _ h3 under32 rfl (info32_of (arrC Y) (arrC_size _)) hC, hK _ ?_⟩; clear hK K
    simp only [Act.put, List.setIfInBounds_toArray, List.set_cons_zero, List.set_cons_succ]
    refine wpQuiet_step (fun K hK => ?_); rw [if_pos (by rfl)]
    refine ⟨.agg (arrC D), fun w' hC => qcall 13 #[.agg (arrC X), .agg (arrC Y)] (by go_simp) hC (FieldAdd_to X Y D HD w'), hK _ ?_⟩; clear hK K
    simp only [Act.put, List.setIfInBounds_toArray, List.set_cons_zero, List.set_cons_succ]
    refine wpQuiet_step (fun K hK => ?_); rw [if_pos (by rfl)]
    refine ⟨.agg (arrC R), fun w' hC => qcall 17 #[.agg (arrC D)] (by go_simp) hC (FieldSq_to D R HR w'), hK _ ?_⟩; clear hK K
    simp only [Act.put, List.setIfInBounds_toArray, List.set_cons_zero, List.set_cons_succ]
    refine wpQuiet_step (fun K hK => ?_); rw [if_pos (by rfl)]
    refine ⟨.agg (arrC C), fun w' hC => qload _ _ rfl (g5) rfl _ _ _ h5 under32 rfl (info32_of (arrC C) (arrC_size _)) hC, hK _ ?_⟩; clear hK K
    simp only [Act.put, List.setIfInBounds_toArray, List.set_cons_zero, List.set_cons_succ]
    refine wpQuiet_step (fun K hK => ?_); rw [if_pos (by rfl)]
    refine ⟨.agg (arrC X), fun w' hC => qload _ _ rfl (w.heap.size) rfl _ _ _ h2 under32 rfl (info32_of (arrC X) (arrC_size _)) hC, hK _ ?_⟩; clear hK K
    simp only [Act.put, List.setIfInBounds_toArray, List.set_cons_zero, List.set_cons_succ]
    refine wpQuiet_step (fun K hK => ?_); rw [if_pos (by rfl)]
    refine ⟨.agg (arrC Y), fun w' hC => qload _ _ rfl (w.heap.size + 1) rfl _ _ _ h3 under32 rfl (info32_of (arrC Y) (arrC_size _)) hC, hK _ ?_⟩; clear hK K
    simp only [Act.put, List.setIfInBounds_toArray, List.set_cons_zero, List.set_cons_succ]
    refine wpQuiet_step (fun K hK => ?_); rw [if_pos (by rfl)]
    refine ⟨.agg (arrC M), fun w' hC => qcall 14 #[.agg (arrC X), .agg (arrC Y)] (by go_simp) hC (FieldMul_to X Y M HM w'), hK _ ?_⟩; clear hK K
    simp only [Act.put, List.setIfInBounds_toArray, List.set_cons_zero, List.set_cons_succ]
    refine wpQuiet_step (fun K hK => ?_); rw [if_pos (by rfl)]
    refine ⟨.agg (arrC T), fun w' hC => qcall 16 #[.agg (arrC M), .int .u32 2] (by go_simp) hC (FieldMult32_to M 2 T (by omega) HT w'), hK _ ?_⟩; clear hK K
    simp only [Act.put, List.setIfInBounds_toArray, List.set_cons_zero, List.set_cons_succ]
    refine wpQuiet_step (fun K hK => ?_); rw [if_pos (by rfl)]
    refine ⟨.agg (arrC R), fun w' hC => qcall 13 #[.agg (arrC C), .agg (arrC T)] (by go_simp) hC (FieldAdd_to C T R HR2 w'), hK _ ?_⟩; clear hK K
    simp only [Act.put, List.setIfInBounds_toArray, List.set_cons_zero, List.set_cons_succ]
    refine wpQuiet_step (fun K hK => ?_); rw [if_pos (by rfl)]
    refine ⟨.bool true, fun w' hC => qrun (by go_simp; rw [run_eq_arr _ _ lR lR]; simp), hK _ ?_⟩; clear hK K
    simp only [Act.put, List.setIfInBounds_toArray, List.set_cons_zero, List.set_cons_succ]
    refine wpQuiet_step (fun K hK => ?_); rw [if_pos (by rfl)]
    refine ⟨.bool true, fun w' hC => qrun (by go_simp), hK _ ?_⟩; clear hK K
    simp only [Act.put, List.setIfInBounds_toArray, List.set_cons_zero, List.set_cons_succ]
    refine wpQuiet_step (fun K hK => ?_); rw [if_pos (by rfl)]
    refine ⟨.agg (arrC 1), fun w' hC => qcall 15 #[.int .i64 1] (by go_simp) hC (number_v 1 (by omega) w'), hK _ ?_⟩; clear hK K
    simp only [Act.put, List.setIfInBounds_toArray, List.set_cons_zero, List.set_cons_succ]
    refine wpQuiet_step (fun K hK => ?_); rw [if_pos (by rfl)]
    refine ⟨.agg (arrC 1), fun w' hC => qcall 17 #[.agg (arrC 1)] (by go_simp) hC (FieldSq_to 1 1 H1 w'), hK _ ?_⟩; clear hK K
    simp only [Act.put, List.setIfInBounds_toArray, List.set_cons_zero, List.set_cons_succ]
    refine wpQuiet_step (fun K hK => ?_); rw [if_pos (by rfl)]
    refine ⟨.agg (arrC 1), fun w' hC => qcall 15 #[.int .i64 1] (by go_simp) hC (number_v 1 (by omega) w'), hK _ ?_⟩; clear hK K
    simp only [Act.put, List.setIfInBounds_toArray, List.set_cons_zero, List.set_cons_succ]
    refine wpQuiet_step (fun K hK => ?_); rw [if_pos (by rfl)]
    refine ⟨.bool true, fun w' hC => qrun (by go_simp; rw [run_eq_arr _ _ (by omega) (by omega)]; simp), hK _ ?_⟩; clear hK K
    simp only [Act.put, List.setIfInBounds_toArray, List.set_cons_zero, List.set_cons_succ]
    refine wpQuiet_step (fun K hK => ?_); rw [if_pos (by rfl)]
    refine ⟨.bool true, fun w' hC => qrun (by go_simp), hK _ ?_⟩; clear hK K
    simp only [Act.put, List.setIfInBounds_toArray, List.set_cons_zero, List.set_cons_succ]
    refine wpQuiet_step (fun K hK => ?_); rw [if_pos (by rfl)]
    refine ⟨.bool true, fun w' hC => qrun (by go_simp), hK _ ?_⟩; clear hK K
    simp only [Act.put, List.setIfInBounds_toArray, List.set_cons_zero, List.set_cons_succ]
    refine wpQuiet_nil ?_
    intro w26 hC
    have hs26 := hC.size
    replace h2 : w26.heap[w.heap.size]? = some (.cells (arrC X) 22 (0, 0)) := (heap_call hC h2)
    replace h3 : w26.heap[w.heap.size + 1]? = some (.cells (arrC Y) 22 (0, 0)) := (heap_call hC h3)
    replace h5 : w26.heap[g5]? = some (.cells (arrC C) 22 (0, 0)) := (heap_call hC h5)
    have hBw26 : Hid (Below w.heap.size w w26) := Lib.hid (below_call hBw25.out hC)
    clear hC
    go_wp2
    go_ret
    exact ⟨rfl, hBw26.out⟩

end Go.Proofs.Ytkecocibfmhdpaa
