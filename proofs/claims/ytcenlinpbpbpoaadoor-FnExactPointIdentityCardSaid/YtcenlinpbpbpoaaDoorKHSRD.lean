/- Parts of texts for several laws: The reference's points: decoded. -/
import Derived.BigRegion
import Derived.ChangeKeysEq
import Derived.Deep.DeepCutAuto
import Derived.Deep.Draws
import Derived.Deep.Fields
import Derived.Deep.MidRow
import Derived.Deep.Quiet
import Derived.Deep.RegionHeld3
import Derived.Deep.WholeRow
import Derived.Great.BuildSlice
import Derived.LaidMore
import Derived.Laws.Bits64b
import Derived.Laws.CopyOwn
import Derived.Laws.Externs
import Derived.Laws.StructEq
import Derived.Laws.Tables
import Derived.Lib.Hide
import Derived.LoopTactic
import Derived.OpenShut
import Derived.ProofKit
import Derived.StillTailTactics
import Derived.Stop.Joined
import Derived.Test.YtcenlinpbpbpoaaDoorProg
import Derived.WalkKit
import Derived.WalkLawsBesides
import Derived.WalkSpells
import Derived.WideKeyArgs
import Derived.Test.YtcenlinpbpbpoaaDoorKHF1
import Derived.Test.YtcenlinpbpbpoaaDoorKHF3
import Derived.Test.YtcenlinpbpbpoaaDoorKHGr
import Derived.Test.YtcenlinpbpbpoaaDoorKHS8
import Derived.Test.YtcenlinpbpbpoaaDoorKHSQ
import Derived.Test.YtcenlinpbpbpoaaDoorKHSQB
import Derived.Test.YtcenlinpbpbpoaaDoorKHSQN
import Derived.Test.YtcenlinpbpbpoaaDoorKHU1
import Derived.Test.YtcenlinpbpbpoaaDoorKHUM
import Derived.Test.YtcenlinpbpbpoaaDoorKHUN
import Derived.Test.YtcenlinpbpbpoaaDoorKHUS
import Derived.Test.YtcenlinpbpbpoaaDoorKL0
import Derived.Test.YtcenlinpbpbpoaaDoorKL1
import Derived.Test.YtcenlinpbpbpoaaDoorKL2
import Derived.Test.YtcenlinpbpbpoaaDoorKL3
import Derived.Test.YtcenlinpbpbpoaaDoorKL4
namespace Go.Proofs.YtcenlinpbpbpoaaDoor
set_option maxRecDepth 4000
set_option linter.unusedSimpArgs false
set_option linter.unusedVariables false
section
open Go.RowKit
theorem sroot_yes (q R : Nat) (lq : q < pF) (h : rtIs q = true) (hR : Hid (R = rtR q)) (w : World) : Calls Tryd.prog 51 #[.agg (numC q)] w fun e w' => e = .returned (.tuple #[.agg (numC R), .bool true]) ∧ Below w.heap.size w w' := by
  by_cases hA : rtA q * rtA q % pF = q
  · exact root_A q lq (Lib.hid hA) R (Lib.hid (by rw [hR.out]; unfold rtR; rw [if_pos hA])) w
  · have hB : rtB q * rtB q % pF = q := by
      unfold rtIs at h; simpa [hA] using h
    exact root_B q lq (Lib.hid ⟨hA, hB⟩) R (Lib.hid (by rw [hR.out]; unfold rtR; rw [if_neg hA, if_pos hB])) w
theorem sroot_no (q : Nat) (lq : q < pF) (h : rtIs q = false) (w : World) : Calls Tryd.prog 51 #[.agg (numC q)] w fun e w' => e = .returned (.tuple #[.agg z4, .bool false]) ∧ Below w.heap.size w w' := by
  unfold rtIs at h
  simp only [Bool.or_eq_false_iff, decide_eq_false_iff_not] at h
  exact root_no q lq (Lib.hid h) w
theorem sroot_any (q R : Nat) (b : Bool) (lq : q < pF) (h : rtIs q = b) (hR : Hid (b = true → R = rtR q)) (hR0 : Hid (b = false → R = 0)) (w : World) : Calls Tryd.prog 51 #[.agg (numC q)] w fun e w' => e = .returned (.tuple #[.agg (numC R), .bool b]) ∧ Below w.heap.size w w' := by
  cases b with
  | true => exact sroot_yes q R lq h (Lib.hid (hR.out rfl)) w
  | false => rw [hR0.out rfl, ← z4_num]; exact sroot_no q lq h w
theorem root_dcF (Y R1 R2 R3 R4 R5 R6 : Fp) (h1 : R1 = Y * Y) (h2 : R2 = R1 - 1) (h3 : R3 = fp dN * R1) (h4 : R4 = R3 + 1) (h5 : R5 = fpInv R4) (h6 : R6 = R2 * R5) : rtIs R6.val = dcIs Y.val ∧ (dcIs Y.val = true → rtR R6.val = dcR Y.val) := by
  have hU : fp (dcU Y.val) = R2 := by rw [fp_dcU, fp_of, h2, h1]
  have hV : fp (dcV Y.val) = R4 := by rw [fp_dcV, fp_of, h4, h3, h1]
  have hV0 : R4 ≠ 0 := by rw [← hV]; exact fun h => dcV_ne Y.val ((fp_zero_iff (dcV_lt _)).2 h)
  have h : fp R6.val * fp (dcV Y.val) = fp (dcU Y.val) := by
    rw [fp_of, hV, hU, h6, h5]
    have := fpInv_mul _ hV0
    grind
  exact root_same _ _ R6.val (dcU_lt _) (dcV_lt _) R6.isLt (dcV_ne _) h
set_option maxHeartbeats 16000000 in
theorem decoded_all (N : Nat) (lN : N < 256 ^ 32) (b : Bool) (Y RT XR : Fp) (HY : Hid (Y.val = valN N)) (hD : Hid (dcIs Y.val = b)) (hRT : Hid (b = true → RT.val = dcR Y.val)) (hRT0 : Hid (b = false → RT.val = 0)) (HXR : Hid (XR = if N / 57896044618658097711785492504343953926634992332820282019728792003956564819968 = 1 then -RT else RT)) (cs : Array Value) (Hcs : Hid (cs = if b then ptC XR.val Y.val (1 : Fp).val else z12)) (w : World) :
    Calls Tryd.prog 28 #[.agg (arrC N)] w fun e w' => e = .returned (.tuple #[.agg cs, .bool b]) ∧ Below w.heap.size w w' := by
  go_enter Tryd.func28, Tryd.ntmps28
  go_wp2_with (first
    | ((with_reducible refine at_dst 10 ?_); refine wpList_load_row rfl 22 _ rfl (w.heap.size) rfl 22 (arrC N) (0, 0) _ (heap_old _ (heap_new_at _ _ _ rfl)) under32 rfl (info32_of (arrC N) (arrC_size _)) ?_))
  refine (element_to N Y.val HY _).mono ?_
  rintro e w1 ⟨rfl, hC1⟩
  have hs1 : w.heap.size + 1 + 1 ≤ w1.heap.size := by have := hC1.size; (try simp only [alloc_size, setRow_size] at this); omega
  replace h1 : w1.heap[w.heap.size]? = some (.cells (arrC N) 22 (0, 0)) := (heap_call hC1 (heap_old _ (heap_new_at _ _ _ rfl)))
  replace h2 : w1.heap[w.heap.size + 1]? = some (.cells (z12) 45 (0, 0)) := (heap_call hC1 (heap_new_at _ _ _ (by simp only [alloc_size, setRow_size])))
  have hBw1 : Hid (Below w.heap.size w w1) := Lib.hid (below_call (below_alloc (below_alloc (Below.refl _ w) _) _) hC1)
  clear hC1
  go_wp2_with (first
    | ((with_reducible refine at_store 4 ?_); refine wpList_store_row rfl 43 _ _ rfl (w1.heap.size) (numC Y.val) rfl rfl 43 (z4) (heap_new_at _ _ _ rfl) (infoNum_of (numC Y.val) (numC_size _)) (z4_size.trans (numC_size _).symm) (numC_one _) ?_))
  try simp only [Act.put]
  refine wp_named ?_
  intro w2 ew2
  have hs2 : w1.heap.size + 1 ≤ w2.heap.size := by rw [ew2]; (try simp only [alloc_size, setRow_size]); omega
  replace h1 : w2.heap[w.heap.size]? = some (.cells (arrC N) 22 (0, 0)) := by rw [ew2]; exact (heap_row _ (by omega) (heap_old _ h1))
  replace h2 : w2.heap[w.heap.size + 1]? = some (.cells (z12) 45 (0, 0)) := by rw [ew2]; exact (heap_row _ (by omega) (heap_old _ h2))
  replace h4 : w2.heap[w1.heap.size]? = some (.cells (numC Y.val) 43 (0, 0)) := by rw [ew2]; exact (setRow_heap _ _ _ _ _ _ (heap_new_at _ _ _ rfl))
  have hBw2 : Hid (Below w.heap.size w w2) := Lib.hid (by rw [ew2]; exact (below_setRow (below_alloc hBw1.out _) (by omega) _))
  clear ew2
  obtain ⟨R1, qR1⟩ : ∃ uu : Fp, uu = Y * Y := ⟨_, rfl⟩
  have HR1 := Lib.hid qR1; clear qR1
  go_cut [5] (fun s5 wx => ∃ g5 : Nat, s5 = .pointer (some ⟨g5, 0, none⟩) ∧ Hid (w2.heap.size ≤ g5) ∧ Hid (wx.heap[g5]? = some (.cells (numC R1.val) 43 (0, 0))) ∧ Hid (wx.heap[w.heap.size]? = some (.cells (arrC N) 22 (0, 0))) ∧ Hid (wx.heap[w.heap.size + 1]? = some (.cells (z12) 45 (0, 0))) ∧ Hid (wx.heap[w1.heap.size]? = some (.cells (numC Y.val) 43 (0, 0))) ∧ Hid (Below w.heap.size w wx) ∧ Hid (w2.heap.size ≤ wx.heap.size))
  case first =>
    refine wp_region_noPanic ?_
    refine wp_region_held_drew (S := Keep (w2.heap.size) w2) (by kernel_rfl) (Keep.start _ _) ?_
    intro hS
    obtain ⟨w3, ed⟩ : ∃ u : World, u = w2.drew := ⟨_, rfl⟩
    rw [← ed] at hS ⊢
    have xh1 : w3.heap[w.heap.size]? = some (.cells (arrC N) 22 (0, 0)) := by rw [ed]; exact h1
    have xh2 : w3.heap[w.heap.size + 1]? = some (.cells (z12) 45 (0, 0)) := by rw [ed]; exact h2
    have xh4 : w3.heap[w1.heap.size]? = some (.cells (numC Y.val) 43 (0, 0)) := by rw [ed]; exact h4
    clear ed
    have hSz := hS.size
    clear xh1
    clear xh2
    clear xh4
    refine takeAtK (i := 0) (v := .agg (numC Y.val)) rfl (some 12) rfl (take_row rfl _ _ rfl (w1.heap.size) rfl _ _ _ h4 (Nat.ne_of_lt (heap_lt h4)) underNum rfl (infoNum_of (numC Y.val) (numC_size _))) hS ?_
    simp only [Act.put, sia, sc0, scs]
    refine takeAtK (i := 1) (v := .agg (numC Y.val)) rfl (some 13) rfl (take_row rfl _ _ rfl (w1.heap.size) rfl _ _ _ h4 (Nat.ne_of_lt (heap_lt h4)) underNum rfl (infoNum_of (numC Y.val) (numC_size _))) hS ?_
    simp only [Act.put, sia, sc0, scs]
    refine wpAnyH_ready (rs := [2, 4]) (by kernel_rfl) (by simp) ?_
    refine (AllReadyH.cons rfl ?_ (AllReadyH.cons rfl ?_ AllReadyH.nil))
    · intro K hK
      refine ready_call rfl (some 14) rfl 46 #[] (by go_simp) ?_
      refine (prime_any _).mono ?_
      rintro e w4 ⟨rfl, hC⟩
      refine ⟨_, rfl, ?_⟩
      simp only [Act.put, sia, sc0, scs]
      have hS := hS.call hC
      have hz4 := hC.size
      clear hC
      refine hK.out _ _ hS ?_
      clear hK K
      intro _
      have hSz := hS.size
      refine wpAnyH_ready (rs := [3, 4]) (by kernel_rfl) (by simp) ?_
      refine (AllReadyH.cons rfl ?_ (AllReadyH.cons rfl ?_ AllReadyH.nil))
      · intro K hK
        refine ready_call rfl (some 15) rfl 45 #[.agg (numC Y.val), .agg (numC Y.val), .agg (numC pF)] (by go_simp) ?_
        refine (stimes_ff Y Y R1 HR1 _).mono ?_
        rintro e w5 ⟨rfl, hC⟩
        refine ⟨_, rfl, ?_⟩
        simp only [Act.put, sia, sc0, scs]
        have hS := hS.call hC
        have hz5 := hC.size
        clear hC
        refine hK.out _ _ hS ?_
        clear hK K
        intro _
        have hSz := hS.size
        refine wpAnyH_ready (rs := [4]) (by kernel_rfl) (by simp) ?_
        refine (AllReadyH.cons rfl ?_ AllReadyH.nil)
        intro K hK
        refine ready_run rfl (some 5) rfl (.pointer (some ⟨w5.heap.size, 0, none⟩)) (w5.alloc (.cells z4 43)) (by go_simp; try rfl) ?_
        simp only [Act.put, sia, sc0, scs]
        obtain ⟨w6, ea⟩ : ∃ u : World, u = w5.alloc (.cells z4 43) := ⟨_, rfl⟩
        rw [← ea]
        have hS := hS.alloc (.cells z4 43)
        rw [← ea] at hS
        have hz6 : w5.heap.size + 1 ≤ w6.heap.size := by rw [ea, alloc_size]; omega
        have hy6 : w2.heap.size ≤ w5.heap.size := hSz
        have xh5 : w6.heap[w5.heap.size]? = some (.cells (z4) 43 (0, 0)) := by rw [ea]; exact heap_new_at _ _ _ rfl
        clear ea
        refine hK.out _ _ hS ?_
        clear hK K
        intro _
        have hSz := hS.size
        refine wpAnyH_ready (rs := [5]) (by kernel_rfl) (by simp) ?_
        refine (AllReadyH.cons rfl ?_ AllReadyH.nil)
        intro K hK
        rw [if_pos (by rfl)]
        refine wp_store_row 43 _ _ rfl (w5.heap.size) (numC R1.val) rfl rfl 43 (z4) xh5 (infoNum_of (numC R1.val) (numC_size _)) (z4_size.trans (numC_size _).symm) (numC_one _) ?_
        refine put_at (none) rfl ?_
        simp only [Act.put, sia, sc0, scs]
        have xh5 : (w6.setRow (w5.heap.size) (numC R1.val)).heap[w5.heap.size]? = some (.cells (numC R1.val) 43 (0, 0)) := (setRow_heap _ _ _ _ _ _ xh5)
        have hS := hS.storeNew (numC R1.val) (show w2.heap.size ≤ w5.heap.size by omega)
        generalize w6.setRow (w5.heap.size) (numC R1.val) = w7 at *
        refine hK.out _ _ hS ?_
        clear hK K
        intro _
        have hSz := hS.size
        refine wpAnyH_done (by kernel_rfl) ?_ _
        refine NoPanic.normal ?_
        have hsz := hS.size
        have h1 : w7.heap[w.heap.size]? = some (.cells (arrC N) 22 (0, 0)) := hS.old h1 (Nat.ne_of_lt (heap_lt h1))
        have h2 : w7.heap[w.heap.size + 1]? = some (.cells (z12) 45 (0, 0)) := hS.old h2 (Nat.ne_of_lt (heap_lt h2))
        have h4 : w7.heap[w1.heap.size]? = some (.cells (numC Y.val) 43 (0, 0)) := hS.old h4 (Nat.ne_of_lt (heap_lt h4))
        have h5 := xh5
        have hBw7 : Hid (Below w.heap.size w w7) := Lib.hid (hBw2.out.trans (hS.below (by omega) hBw2.out.size))
        clear hS
        go_wp2_with fail
        go_meet
        exact ⟨w5.heap.size, rfl, Lib.hid (show w2.heap.size ≤ w5.heap.size by omega), Lib.hid h5, Lib.hid h1, Lib.hid h2, Lib.hid h4, Lib.hid hBw7.out, Lib.hid (show w2.heap.size ≤ w7.heap.size by omega)⟩
      · intro K hK
        refine ready_run rfl (some 5) rfl (.pointer (some ⟨w4.heap.size, 0, none⟩)) (w4.alloc (.cells z4 43)) (by go_simp; try rfl) ?_
        simp only [Act.put, sia, sc0, scs]
        obtain ⟨w9, ea⟩ : ∃ u : World, u = w4.alloc (.cells z4 43) := ⟨_, rfl⟩
        rw [← ea]
        have hS := hS.alloc (.cells z4 43)
        rw [← ea] at hS
        have hz9 : w4.heap.size + 1 ≤ w9.heap.size := by rw [ea, alloc_size]; omega
        have hy9 : w2.heap.size ≤ w4.heap.size := hSz
        have xh5 : w9.heap[w4.heap.size]? = some (.cells (z4) 43 (0, 0)) := by rw [ea]; exact heap_new_at _ _ _ rfl
        clear ea
        refine hK.out _ _ hS ?_
        clear hK K
        intro _
        have hSz := hS.size
        refine wpAnyH_ready (rs := [3]) (by kernel_rfl) (by simp) ?_
        refine (AllReadyH.cons rfl ?_ AllReadyH.nil)
        intro K hK
        refine ready_call rfl (some 15) rfl 45 #[.agg (numC Y.val), .agg (numC Y.val), .agg (numC pF)] (by go_simp) ?_
        refine (stimes_ff Y Y R1 HR1 _).mono ?_
        rintro e w10 ⟨rfl, hC⟩
        refine ⟨_, rfl, ?_⟩
        simp only [Act.put, sia, sc0, scs]
        have xh5 : w10.heap[w4.heap.size]? = some (.cells (z4) 43 (0, 0)) := (heap_call hC xh5)
        have hS := hS.call hC
        have hz10 := hC.size
        clear hC
        refine hK.out _ _ hS ?_
        clear hK K
        intro _
        have hSz := hS.size
        refine wpAnyH_ready (rs := [5]) (by kernel_rfl) (by simp) ?_
        refine (AllReadyH.cons rfl ?_ AllReadyH.nil)
        intro K hK
        rw [if_pos (by rfl)]
        refine wp_store_row 43 _ _ rfl (w4.heap.size) (numC R1.val) rfl rfl 43 (z4) xh5 (infoNum_of (numC R1.val) (numC_size _)) (z4_size.trans (numC_size _).symm) (numC_one _) ?_
        refine put_at (none) rfl ?_
        simp only [Act.put, sia, sc0, scs]
        have xh5 : (w10.setRow (w4.heap.size) (numC R1.val)).heap[w4.heap.size]? = some (.cells (numC R1.val) 43 (0, 0)) := (setRow_heap _ _ _ _ _ _ xh5)
        have hS := hS.storeNew (numC R1.val) (show w2.heap.size ≤ w4.heap.size by omega)
        generalize w10.setRow (w4.heap.size) (numC R1.val) = w11 at *
        refine hK.out _ _ hS ?_
        clear hK K
        intro _
        have hSz := hS.size
        refine wpAnyH_done (by kernel_rfl) ?_ _
        refine NoPanic.normal ?_
        have hsz := hS.size
        have h1 : w11.heap[w.heap.size]? = some (.cells (arrC N) 22 (0, 0)) := hS.old h1 (Nat.ne_of_lt (heap_lt h1))
        have h2 : w11.heap[w.heap.size + 1]? = some (.cells (z12) 45 (0, 0)) := hS.old h2 (Nat.ne_of_lt (heap_lt h2))
        have h4 : w11.heap[w1.heap.size]? = some (.cells (numC Y.val) 43 (0, 0)) := hS.old h4 (Nat.ne_of_lt (heap_lt h4))
        have h5 := xh5
        have hBw11 : Hid (Below w.heap.size w w11) := Lib.hid (hBw2.out.trans (hS.below (by omega) hBw2.out.size))
        clear hS
        go_wp2_with fail
        go_meet
        exact ⟨w4.heap.size, rfl, Lib.hid (show w2.heap.size ≤ w4.heap.size by omega), Lib.hid h5, Lib.hid h1, Lib.hid h2, Lib.hid h4, Lib.hid hBw11.out, Lib.hid (show w2.heap.size ≤ w11.heap.size by omega)⟩
    · intro K hK
      refine ready_run rfl (some 5) rfl (.pointer (some ⟨w3.heap.size, 0, none⟩)) (w3.alloc (.cells z4 43)) (by go_simp; try rfl) ?_
      simp only [Act.put, sia, sc0, scs]
      obtain ⟨w13, ea⟩ : ∃ u : World, u = w3.alloc (.cells z4 43) := ⟨_, rfl⟩
      rw [← ea]
      have hS := hS.alloc (.cells z4 43)
      rw [← ea] at hS
      have hz13 : w3.heap.size + 1 ≤ w13.heap.size := by rw [ea, alloc_size]; omega
      have hy13 : w2.heap.size ≤ w3.heap.size := hSz
      have xh5 : w13.heap[w3.heap.size]? = some (.cells (z4) 43 (0, 0)) := by rw [ea]; exact heap_new_at _ _ _ rfl
      clear ea
      refine hK.out _ _ hS ?_
      clear hK K
      intro _
      have hSz := hS.size
      refine wpAnyH_ready (rs := [2]) (by kernel_rfl) (by simp) ?_
      refine (AllReadyH.cons rfl ?_ AllReadyH.nil)
      intro K hK
      refine ready_call rfl (some 14) rfl 46 #[] (by go_simp) ?_
      refine (prime_any _).mono ?_
      rintro e w14 ⟨rfl, hC⟩
      refine ⟨_, rfl, ?_⟩
      simp only [Act.put, sia, sc0, scs]
      have xh5 : w14.heap[w3.heap.size]? = some (.cells (z4) 43 (0, 0)) := (heap_call hC xh5)
      have hS := hS.call hC
      have hz14 := hC.size
      clear hC
      refine hK.out _ _ hS ?_
      clear hK K
      intro _
      have hSz := hS.size
      refine wpAnyH_ready (rs := [3]) (by kernel_rfl) (by simp) ?_
      refine (AllReadyH.cons rfl ?_ AllReadyH.nil)
      intro K hK
      refine ready_call rfl (some 15) rfl 45 #[.agg (numC Y.val), .agg (numC Y.val), .agg (numC pF)] (by go_simp) ?_
      refine (stimes_ff Y Y R1 HR1 _).mono ?_
      rintro e w15 ⟨rfl, hC⟩
      refine ⟨_, rfl, ?_⟩
      simp only [Act.put, sia, sc0, scs]
      have xh5 : w15.heap[w3.heap.size]? = some (.cells (z4) 43 (0, 0)) := (heap_call hC xh5)
      have hS := hS.call hC
      have hz15 := hC.size
      clear hC
      refine hK.out _ _ hS ?_
      clear hK K
      intro _
      have hSz := hS.size
      refine wpAnyH_ready (rs := [5]) (by kernel_rfl) (by simp) ?_
      refine (AllReadyH.cons rfl ?_ AllReadyH.nil)
      intro K hK
      rw [if_pos (by rfl)]
      refine wp_store_row 43 _ _ rfl (w3.heap.size) (numC R1.val) rfl rfl 43 (z4) xh5 (infoNum_of (numC R1.val) (numC_size _)) (z4_size.trans (numC_size _).symm) (numC_one _) ?_
      refine put_at (none) rfl ?_
      simp only [Act.put, sia, sc0, scs]
      have xh5 : (w15.setRow (w3.heap.size) (numC R1.val)).heap[w3.heap.size]? = some (.cells (numC R1.val) 43 (0, 0)) := (setRow_heap _ _ _ _ _ _ xh5)
      have hS := hS.storeNew (numC R1.val) (show w2.heap.size ≤ w3.heap.size by omega)
      generalize w15.setRow (w3.heap.size) (numC R1.val) = w16 at *
      refine hK.out _ _ hS ?_
      clear hK K
      intro _
      have hSz := hS.size
      refine wpAnyH_done (by kernel_rfl) ?_ _
      refine NoPanic.normal ?_
      have hsz := hS.size
      have h1 : w16.heap[w.heap.size]? = some (.cells (arrC N) 22 (0, 0)) := hS.old h1 (Nat.ne_of_lt (heap_lt h1))
      have h2 : w16.heap[w.heap.size + 1]? = some (.cells (z12) 45 (0, 0)) := hS.old h2 (Nat.ne_of_lt (heap_lt h2))
      have h4 : w16.heap[w1.heap.size]? = some (.cells (numC Y.val) 43 (0, 0)) := hS.old h4 (Nat.ne_of_lt (heap_lt h4))
      have h5 := xh5
      have hBw16 : Hid (Below w.heap.size w w16) := Lib.hid (hBw2.out.trans (hS.below (by omega) hBw2.out.size))
      clear hS
      go_wp2_with fail
      go_meet
      exact ⟨w3.heap.size, rfl, Lib.hid (show w2.heap.size ≤ w3.heap.size by omega), Lib.hid h5, Lib.hid h1, Lib.hid h2, Lib.hid h4, Lib.hid hBw16.out, Lib.hid (show w2.heap.size ≤ w16.heap.size by omega)⟩
  case rest =>
    obtain ⟨g5, rfl, Hg5, Hh5, Hh1, Hh2, Hh4, hBw18, Hsz18⟩ := hcut
    obtain ⟨w18, rfl⟩ : ∃ u : World, u = wc := ⟨_, rfl⟩
    have hgl5 := Hg5.out
    have h5 := Hh5.out
    have hgu5 := heap_lt h5
    have h1 := Hh1.out
    have h2 := Hh2.out
    have h4 := Hh4.out
    have hsz18 := Hsz18.out
    go_wp2_with fail
    try simp only [Act.put]
    refine wp_named ?_
    intro w19 ew19
    have hs19 : w18.heap.size ≤ w19.heap.size := by rw [ew19]; (try simp only [alloc_size, setRow_size]); omega
    replace h1 : w19.heap[w.heap.size]? = some (.cells (arrC N) 22 (0, 0)) := by rw [ew19]; exact h1
    replace h2 : w19.heap[w.heap.size + 1]? = some (.cells (z12) 45 (0, 0)) := by rw [ew19]; exact h2
    replace h4 : w19.heap[w1.heap.size]? = some (.cells (numC Y.val) 43 (0, 0)) := by rw [ew19]; exact h4
    replace h5 : w19.heap[g5]? = some (.cells (numC R1.val) 43 (0, 0)) := by rw [ew19]; exact h5
    have hBw19 : Hid (Below w.heap.size w w19) := Lib.hid (by rw [ew19]; exact hBw18.out)
    clear ew19
    obtain ⟨R2, qR2⟩ : ∃ uu : Fp, uu = R1 - (1 : Fp) := ⟨_, rfl⟩
    have HR2 := Lib.hid qR2; clear qR2
    go_cut [6] (fun s6 wx => ∃ g6 : Nat, s6 = .pointer (some ⟨g6, 0, none⟩) ∧ Hid (w19.heap.size ≤ g6) ∧ Hid (wx.heap[g6]? = some (.cells (numC R2.val) 43 (0, 0))) ∧ Hid (wx.heap[w.heap.size]? = some (.cells (arrC N) 22 (0, 0))) ∧ Hid (wx.heap[w.heap.size + 1]? = some (.cells (z12) 45 (0, 0))) ∧ Hid (wx.heap[w1.heap.size]? = some (.cells (numC Y.val) 43 (0, 0))) ∧ Hid (wx.heap[g5]? = some (.cells (numC R1.val) 43 (0, 0))) ∧ Hid (Below w.heap.size w wx) ∧ Hid (w19.heap.size ≤ wx.heap.size))
    case first =>
      refine wp_region_noPanic ?_
      refine wp_region_held_drew (S := Keep (w19.heap.size) w19) (by kernel_rfl) (Keep.start _ _) ?_
      intro hS
      obtain ⟨w20, ed⟩ : ∃ u : World, u = w19.drew := ⟨_, rfl⟩
      rw [← ed] at hS ⊢
      have xh1 : w20.heap[w.heap.size]? = some (.cells (arrC N) 22 (0, 0)) := by rw [ed]; exact h1
      have xh2 : w20.heap[w.heap.size + 1]? = some (.cells (z12) 45 (0, 0)) := by rw [ed]; exact h2
      have xh4 : w20.heap[w1.heap.size]? = some (.cells (numC Y.val) 43 (0, 0)) := by rw [ed]; exact h4
      have xh5 : w20.heap[g5]? = some (.cells (numC R1.val) 43 (0, 0)) := by rw [ed]; exact h5
      clear ed
      have hSz := hS.size
      clear xh1
      clear xh2
      clear xh4
      clear xh5
      refine takeAtK (i := 0) (v := .agg (numC R1.val)) rfl (some 16) rfl (take_row rfl _ _ rfl (g5) rfl _ _ _ h5 (Nat.ne_of_lt (heap_lt h5)) underNum rfl (infoNum_of (numC R1.val) (numC_size _))) hS ?_
      simp only [Act.put, sia, sc0, scs]
      refine wpAnyH_ready (rs := [1, 4]) (by kernel_rfl) (by simp) ?_
      refine (AllReadyH.cons rfl ?_ (AllReadyH.cons rfl ?_ AllReadyH.nil))
      · intro K hK
        refine ready_call rfl (some 17) rfl 48 #[.int .u64 1] (by go_simp) ?_
        refine (sone_ff _).mono ?_
        rintro e w21 ⟨rfl, hC⟩
        refine ⟨_, rfl, ?_⟩
        simp only [Act.put, sia, sc0, scs]
        have hS := hS.call hC
        have hz21 := hC.size
        clear hC
        refine hK.out _ _ hS ?_
        clear hK K
        intro _
        have hSz := hS.size
        refine wpAnyH_ready (rs := [2, 4]) (by kernel_rfl) (by simp) ?_
        refine (AllReadyH.cons rfl ?_ (AllReadyH.cons rfl ?_ AllReadyH.nil))
        · intro K hK
          refine ready_call rfl (some 18) rfl 46 #[] (by go_simp) ?_
          refine (prime_any _).mono ?_
          rintro e w22 ⟨rfl, hC⟩
          refine ⟨_, rfl, ?_⟩
          simp only [Act.put, sia, sc0, scs]
          have hS := hS.call hC
          have hz22 := hC.size
          clear hC
          refine hK.out _ _ hS ?_
          clear hK K
          intro _
          have hSz := hS.size
          refine wpAnyH_ready (rs := [3, 4]) (by kernel_rfl) (by simp) ?_
          refine (AllReadyH.cons rfl ?_ (AllReadyH.cons rfl ?_ AllReadyH.nil))
          · intro K hK
            refine ready_call rfl (some 19) rfl 47 #[.agg (numC R1.val), .agg (numC (1 : Fp).val), .agg (numC pF)] (by go_simp) ?_
            refine (sminus_ff R1 (1 : Fp) R2 HR2 _).mono ?_
            rintro e w23 ⟨rfl, hC⟩
            refine ⟨_, rfl, ?_⟩
            simp only [Act.put, sia, sc0, scs]
            have hS := hS.call hC
            have hz23 := hC.size
            clear hC
            refine hK.out _ _ hS ?_
            clear hK K
            intro _
            have hSz := hS.size
            refine wpAnyH_ready (rs := [4]) (by kernel_rfl) (by simp) ?_
            refine (AllReadyH.cons rfl ?_ AllReadyH.nil)
            intro K hK
            refine ready_run rfl (some 6) rfl (.pointer (some ⟨w23.heap.size, 0, none⟩)) (w23.alloc (.cells z4 43)) (by go_simp; try rfl) ?_
            simp only [Act.put, sia, sc0, scs]
            obtain ⟨w24, ea⟩ : ∃ u : World, u = w23.alloc (.cells z4 43) := ⟨_, rfl⟩
            rw [← ea]
            have hS := hS.alloc (.cells z4 43)
            rw [← ea] at hS
            have hz24 : w23.heap.size + 1 ≤ w24.heap.size := by rw [ea, alloc_size]; omega
            have hy24 : w19.heap.size ≤ w23.heap.size := hSz
            have xh6 : w24.heap[w23.heap.size]? = some (.cells (z4) 43 (0, 0)) := by rw [ea]; exact heap_new_at _ _ _ rfl
            clear ea
            refine hK.out _ _ hS ?_
            clear hK K
            intro _
            have hSz := hS.size
            refine wpAnyH_ready (rs := [5]) (by kernel_rfl) (by simp) ?_
            refine (AllReadyH.cons rfl ?_ AllReadyH.nil)
            intro K hK
            rw [if_pos (by rfl)]
            refine wp_store_row 43 _ _ rfl (w23.heap.size) (numC R2.val) rfl rfl 43 (z4) xh6 (infoNum_of (numC R2.val) (numC_size _)) (z4_size.trans (numC_size _).symm) (numC_one _) ?_
            refine put_at (none) rfl ?_
            simp only [Act.put, sia, sc0, scs]
            have xh6 : (w24.setRow (w23.heap.size) (numC R2.val)).heap[w23.heap.size]? = some (.cells (numC R2.val) 43 (0, 0)) := (setRow_heap _ _ _ _ _ _ xh6)
            have hS := hS.storeNew (numC R2.val) (show w19.heap.size ≤ w23.heap.size by omega)
            generalize w24.setRow (w23.heap.size) (numC R2.val) = w25 at *
            refine hK.out _ _ hS ?_
            clear hK K
            intro _
            have hSz := hS.size
            refine wpAnyH_done (by kernel_rfl) ?_ _
            refine NoPanic.normal ?_
            have hsz := hS.size
            have h1 : w25.heap[w.heap.size]? = some (.cells (arrC N) 22 (0, 0)) := hS.old h1 (Nat.ne_of_lt (heap_lt h1))
            have h2 : w25.heap[w.heap.size + 1]? = some (.cells (z12) 45 (0, 0)) := hS.old h2 (Nat.ne_of_lt (heap_lt h2))
            have h4 : w25.heap[w1.heap.size]? = some (.cells (numC Y.val) 43 (0, 0)) := hS.old h4 (Nat.ne_of_lt (heap_lt h4))
            have h5 : w25.heap[g5]? = some (.cells (numC R1.val) 43 (0, 0)) := hS.old h5 (Nat.ne_of_lt (heap_lt h5))
            have h6 := xh6
            have hBw25 : Hid (Below w.heap.size w w25) := Lib.hid (hBw19.out.trans (hS.below (by omega) hBw19.out.size))
            clear hS
            go_wp2_with fail
            go_meet
            exact ⟨w23.heap.size, rfl, Lib.hid (show w19.heap.size ≤ w23.heap.size by omega), Lib.hid h6, Lib.hid h1, Lib.hid h2, Lib.hid h4, Lib.hid h5, Lib.hid hBw25.out, Lib.hid (show w19.heap.size ≤ w25.heap.size by omega)⟩
          · intro K hK
            refine ready_run rfl (some 6) rfl (.pointer (some ⟨w22.heap.size, 0, none⟩)) (w22.alloc (.cells z4 43)) (by go_simp; try rfl) ?_
            simp only [Act.put, sia, sc0, scs]
            obtain ⟨w27, ea⟩ : ∃ u : World, u = w22.alloc (.cells z4 43) := ⟨_, rfl⟩
            rw [← ea]
            have hS := hS.alloc (.cells z4 43)
            rw [← ea] at hS
            have hz27 : w22.heap.size + 1 ≤ w27.heap.size := by rw [ea, alloc_size]; omega
            have hy27 : w19.heap.size ≤ w22.heap.size := hSz
            have xh6 : w27.heap[w22.heap.size]? = some (.cells (z4) 43 (0, 0)) := by rw [ea]; exact heap_new_at _ _ _ rfl
            clear ea
            refine hK.out _ _ hS ?_
            clear hK K
            intro _
            have hSz := hS.size
            refine wpAnyH_ready (rs := [3]) (by kernel_rfl) (by simp) ?_
            refine (AllReadyH.cons rfl ?_ AllReadyH.nil)
            intro K hK
            refine ready_call rfl (some 19) rfl 47 #[.agg (numC R1.val), .agg (numC (1 : Fp).val), .agg (numC pF)] (by go_simp) ?_
            refine (sminus_ff R1 (1 : Fp) R2 HR2 _).mono ?_
            rintro e w28 ⟨rfl, hC⟩
            refine ⟨_, rfl, ?_⟩
            simp only [Act.put, sia, sc0, scs]
            have xh6 : w28.heap[w22.heap.size]? = some (.cells (z4) 43 (0, 0)) := (heap_call hC xh6)
            have hS := hS.call hC
            have hz28 := hC.size
            clear hC
            refine hK.out _ _ hS ?_
            clear hK K
            intro _
            have hSz := hS.size
            refine wpAnyH_ready (rs := [5]) (by kernel_rfl) (by simp) ?_
            refine (AllReadyH.cons rfl ?_ AllReadyH.nil)
            intro K hK
            rw [if_pos (by rfl)]
            refine wp_store_row 43 _ _ rfl (w22.heap.size) (numC R2.val) rfl rfl 43 (z4) xh6 (infoNum_of (numC R2.val) (numC_size _)) (z4_size.trans (numC_size _).symm) (numC_one _) ?_
            refine put_at (none) rfl ?_
            simp only [Act.put, sia, sc0, scs]
            have xh6 : (w28.setRow (w22.heap.size) (numC R2.val)).heap[w22.heap.size]? = some (.cells (numC R2.val) 43 (0, 0)) := (setRow_heap _ _ _ _ _ _ xh6)
            have hS := hS.storeNew (numC R2.val) (show w19.heap.size ≤ w22.heap.size by omega)
            generalize w28.setRow (w22.heap.size) (numC R2.val) = w29 at *
            refine hK.out _ _ hS ?_
            clear hK K
            intro _
            have hSz := hS.size
            refine wpAnyH_done (by kernel_rfl) ?_ _
            refine NoPanic.normal ?_
            have hsz := hS.size
            have h1 : w29.heap[w.heap.size]? = some (.cells (arrC N) 22 (0, 0)) := hS.old h1 (Nat.ne_of_lt (heap_lt h1))
            have h2 : w29.heap[w.heap.size + 1]? = some (.cells (z12) 45 (0, 0)) := hS.old h2 (Nat.ne_of_lt (heap_lt h2))
            have h4 : w29.heap[w1.heap.size]? = some (.cells (numC Y.val) 43 (0, 0)) := hS.old h4 (Nat.ne_of_lt (heap_lt h4))
            have h5 : w29.heap[g5]? = some (.cells (numC R1.val) 43 (0, 0)) := hS.old h5 (Nat.ne_of_lt (heap_lt h5))
            have h6 := xh6
            have hBw29 : Hid (Below w.heap.size w w29) := Lib.hid (hBw19.out.trans (hS.below (by omega) hBw19.out.size))
            clear hS
            go_wp2_with fail
            go_meet
            exact ⟨w22.heap.size, rfl, Lib.hid (show w19.heap.size ≤ w22.heap.size by omega), Lib.hid h6, Lib.hid h1, Lib.hid h2, Lib.hid h4, Lib.hid h5, Lib.hid hBw29.out, Lib.hid (show w19.heap.size ≤ w29.heap.size by omega)⟩
        · intro K hK
          refine ready_run rfl (some 6) rfl (.pointer (some ⟨w21.heap.size, 0, none⟩)) (w21.alloc (.cells z4 43)) (by go_simp; try rfl) ?_
          simp only [Act.put, sia, sc0, scs]
          obtain ⟨w31, ea⟩ : ∃ u : World, u = w21.alloc (.cells z4 43) := ⟨_, rfl⟩
          rw [← ea]
          have hS := hS.alloc (.cells z4 43)
          rw [← ea] at hS
          have hz31 : w21.heap.size + 1 ≤ w31.heap.size := by rw [ea, alloc_size]; omega
          have hy31 : w19.heap.size ≤ w21.heap.size := hSz
          have xh6 : w31.heap[w21.heap.size]? = some (.cells (z4) 43 (0, 0)) := by rw [ea]; exact heap_new_at _ _ _ rfl
          clear ea
          refine hK.out _ _ hS ?_
          clear hK K
          intro _
          have hSz := hS.size
          refine wpAnyH_ready (rs := [2]) (by kernel_rfl) (by simp) ?_
          refine (AllReadyH.cons rfl ?_ AllReadyH.nil)
          intro K hK
          refine ready_call rfl (some 18) rfl 46 #[] (by go_simp) ?_
          refine (prime_any _).mono ?_
          rintro e w32 ⟨rfl, hC⟩
          refine ⟨_, rfl, ?_⟩
          simp only [Act.put, sia, sc0, scs]
          have xh6 : w32.heap[w21.heap.size]? = some (.cells (z4) 43 (0, 0)) := (heap_call hC xh6)
          have hS := hS.call hC
          have hz32 := hC.size
          clear hC
          refine hK.out _ _ hS ?_
          clear hK K
          intro _
          have hSz := hS.size
          refine wpAnyH_ready (rs := [3]) (by kernel_rfl) (by simp) ?_
          refine (AllReadyH.cons rfl ?_ AllReadyH.nil)
          intro K hK
          refine ready_call rfl (some 19) rfl 47 #[.agg (numC R1.val), .agg (numC (1 : Fp).val), .agg (numC pF)] (by go_simp) ?_
          refine (sminus_ff R1 (1 : Fp) R2 HR2 _).mono ?_
          rintro e w33 ⟨rfl, hC⟩
          refine ⟨_, rfl, ?_⟩
          simp only [Act.put, sia, sc0, scs]
          have xh6 : w33.heap[w21.heap.size]? = some (.cells (z4) 43 (0, 0)) := (heap_call hC xh6)
          have hS := hS.call hC
          have hz33 := hC.size
          clear hC
          refine hK.out _ _ hS ?_
          clear hK K
          intro _
          have hSz := hS.size
          refine wpAnyH_ready (rs := [5]) (by kernel_rfl) (by simp) ?_
          refine (AllReadyH.cons rfl ?_ AllReadyH.nil)
          intro K hK
          rw [if_pos (by rfl)]
          refine wp_store_row 43 _ _ rfl (w21.heap.size) (numC R2.val) rfl rfl 43 (z4) xh6 (infoNum_of (numC R2.val) (numC_size _)) (z4_size.trans (numC_size _).symm) (numC_one _) ?_
          refine put_at (none) rfl ?_
          simp only [Act.put, sia, sc0, scs]
          have xh6 : (w33.setRow (w21.heap.size) (numC R2.val)).heap[w21.heap.size]? = some (.cells (numC R2.val) 43 (0, 0)) := (setRow_heap _ _ _ _ _ _ xh6)
          have hS := hS.storeNew (numC R2.val) (show w19.heap.size ≤ w21.heap.size by omega)
          generalize w33.setRow (w21.heap.size) (numC R2.val) = w34 at *
          refine hK.out _ _ hS ?_
          clear hK K
          intro _
          have hSz := hS.size
          refine wpAnyH_done (by kernel_rfl) ?_ _
          refine NoPanic.normal ?_
          have hsz := hS.size
          have h1 : w34.heap[w.heap.size]? = some (.cells (arrC N) 22 (0, 0)) := hS.old h1 (Nat.ne_of_lt (heap_lt h1))
          have h2 : w34.heap[w.heap.size + 1]? = some (.cells (z12) 45 (0, 0)) := hS.old h2 (Nat.ne_of_lt (heap_lt h2))
          have h4 : w34.heap[w1.heap.size]? = some (.cells (numC Y.val) 43 (0, 0)) := hS.old h4 (Nat.ne_of_lt (heap_lt h4))
          have h5 : w34.heap[g5]? = some (.cells (numC R1.val) 43 (0, 0)) := hS.old h5 (Nat.ne_of_lt (heap_lt h5))
          have h6 := xh6
          have hBw34 : Hid (Below w.heap.size w w34) := Lib.hid (hBw19.out.trans (hS.below (by omega) hBw19.out.size))
          clear hS
          go_wp2_with fail
          go_meet
          exact ⟨w21.heap.size, rfl, Lib.hid (show w19.heap.size ≤ w21.heap.size by omega), Lib.hid h6, Lib.hid h1, Lib.hid h2, Lib.hid h4, Lib.hid h5, Lib.hid hBw34.out, Lib.hid (show w19.heap.size ≤ w34.heap.size by omega)⟩
      · intro K hK
        refine ready_run rfl (some 6) rfl (.pointer (some ⟨w20.heap.size, 0, none⟩)) (w20.alloc (.cells z4 43)) (by go_simp; try rfl) ?_
        simp only [Act.put, sia, sc0, scs]
        obtain ⟨w36, ea⟩ : ∃ u : World, u = w20.alloc (.cells z4 43) := ⟨_, rfl⟩
        rw [← ea]
        have hS := hS.alloc (.cells z4 43)
        rw [← ea] at hS
        have hz36 : w20.heap.size + 1 ≤ w36.heap.size := by rw [ea, alloc_size]; omega
        have hy36 : w19.heap.size ≤ w20.heap.size := hSz
        have xh6 : w36.heap[w20.heap.size]? = some (.cells (z4) 43 (0, 0)) := by rw [ea]; exact heap_new_at _ _ _ rfl
        clear ea
        refine hK.out _ _ hS ?_
        clear hK K
        intro _
        have hSz := hS.size
        refine wpAnyH_ready (rs := [1]) (by kernel_rfl) (by simp) ?_
        refine (AllReadyH.cons rfl ?_ AllReadyH.nil)
        intro K hK
        refine ready_call rfl (some 17) rfl 48 #[.int .u64 1] (by go_simp) ?_
        refine (sone_ff _).mono ?_
        rintro e w37 ⟨rfl, hC⟩
        refine ⟨_, rfl, ?_⟩
        simp only [Act.put, sia, sc0, scs]
        have xh6 : w37.heap[w20.heap.size]? = some (.cells (z4) 43 (0, 0)) := (heap_call hC xh6)
        have hS := hS.call hC
        have hz37 := hC.size
        clear hC
        refine hK.out _ _ hS ?_
        clear hK K
        intro _
        have hSz := hS.size
        refine wpAnyH_ready (rs := [2]) (by kernel_rfl) (by simp) ?_
        refine (AllReadyH.cons rfl ?_ AllReadyH.nil)
        intro K hK
        refine ready_call rfl (some 18) rfl 46 #[] (by go_simp) ?_
        refine (prime_any _).mono ?_
        rintro e w38 ⟨rfl, hC⟩
        refine ⟨_, rfl, ?_⟩
        simp only [Act.put, sia, sc0, scs]
        have xh6 : w38.heap[w20.heap.size]? = some (.cells (z4) 43 (0, 0)) := (heap_call hC xh6)
        have hS := hS.call hC
        have hz38 := hC.size
        clear hC
        refine hK.out _ _ hS ?_
        clear hK K
        intro _
        have hSz := hS.size
        refine wpAnyH_ready (rs := [3]) (by kernel_rfl) (by simp) ?_
        refine (AllReadyH.cons rfl ?_ AllReadyH.nil)
        intro K hK
        refine ready_call rfl (some 19) rfl 47 #[.agg (numC R1.val), .agg (numC (1 : Fp).val), .agg (numC pF)] (by go_simp) ?_
        refine (sminus_ff R1 (1 : Fp) R2 HR2 _).mono ?_
        rintro e w39 ⟨rfl, hC⟩
        refine ⟨_, rfl, ?_⟩
        simp only [Act.put, sia, sc0, scs]
        have xh6 : w39.heap[w20.heap.size]? = some (.cells (z4) 43 (0, 0)) := (heap_call hC xh6)
        have hS := hS.call hC
        have hz39 := hC.size
        clear hC
        refine hK.out _ _ hS ?_
        clear hK K
        intro _
        have hSz := hS.size
        refine wpAnyH_ready (rs := [5]) (by kernel_rfl) (by simp) ?_
        refine (AllReadyH.cons rfl ?_ AllReadyH.nil)
        intro K hK
        rw [if_pos (by rfl)]
        refine wp_store_row 43 _ _ rfl (w20.heap.size) (numC R2.val) rfl rfl 43 (z4) xh6 (infoNum_of (numC R2.val) (numC_size _)) (z4_size.trans (numC_size _).symm) (numC_one _) ?_
        refine put_at (none) rfl ?_
        simp only [Act.put, sia, sc0, scs]
        have xh6 : (w39.setRow (w20.heap.size) (numC R2.val)).heap[w20.heap.size]? = some (.cells (numC R2.val) 43 (0, 0)) := (setRow_heap _ _ _ _ _ _ xh6)
        have hS := hS.storeNew (numC R2.val) (show w19.heap.size ≤ w20.heap.size by omega)
        generalize w39.setRow (w20.heap.size) (numC R2.val) = w40 at *
        refine hK.out _ _ hS ?_
        clear hK K
        intro _
        have hSz := hS.size
        refine wpAnyH_done (by kernel_rfl) ?_ _
        refine NoPanic.normal ?_
        have hsz := hS.size
        have h1 : w40.heap[w.heap.size]? = some (.cells (arrC N) 22 (0, 0)) := hS.old h1 (Nat.ne_of_lt (heap_lt h1))
        have h2 : w40.heap[w.heap.size + 1]? = some (.cells (z12) 45 (0, 0)) := hS.old h2 (Nat.ne_of_lt (heap_lt h2))
        have h4 : w40.heap[w1.heap.size]? = some (.cells (numC Y.val) 43 (0, 0)) := hS.old h4 (Nat.ne_of_lt (heap_lt h4))
        have h5 : w40.heap[g5]? = some (.cells (numC R1.val) 43 (0, 0)) := hS.old h5 (Nat.ne_of_lt (heap_lt h5))
        have h6 := xh6
        have hBw40 : Hid (Below w.heap.size w w40) := Lib.hid (hBw19.out.trans (hS.below (by omega) hBw19.out.size))
        clear hS
        go_wp2_with fail
        go_meet
        exact ⟨w20.heap.size, rfl, Lib.hid (show w19.heap.size ≤ w20.heap.size by omega), Lib.hid h6, Lib.hid h1, Lib.hid h2, Lib.hid h4, Lib.hid h5, Lib.hid hBw40.out, Lib.hid (show w19.heap.size ≤ w40.heap.size by omega)⟩
    case rest =>
      obtain ⟨g6, rfl, Hg6, Hh6, Hh1, Hh2, Hh4, Hh5, hBw42, Hsz42⟩ := hcut
      obtain ⟨w42, rfl⟩ : ∃ u : World, u = wc := ⟨_, rfl⟩
      have hgl6 := Hg6.out
      have h6 := Hh6.out
      have hgu6 := heap_lt h6
      have h1 := Hh1.out
      have h2 := Hh2.out
      have h4 := Hh4.out
      have h5 := Hh5.out
      have hsz42 := Hsz42.out
      go_wp2_with fail
      try simp only [Act.put]
      refine wp_named ?_
      intro w43 ew43
      have hs43 : w42.heap.size ≤ w43.heap.size := by rw [ew43]; (try simp only [alloc_size, setRow_size]); omega
      replace h1 : w43.heap[w.heap.size]? = some (.cells (arrC N) 22 (0, 0)) := by rw [ew43]; exact h1
      replace h2 : w43.heap[w.heap.size + 1]? = some (.cells (z12) 45 (0, 0)) := by rw [ew43]; exact h2
      replace h4 : w43.heap[w1.heap.size]? = some (.cells (numC Y.val) 43 (0, 0)) := by rw [ew43]; exact h4
      replace h5 : w43.heap[g5]? = some (.cells (numC R1.val) 43 (0, 0)) := by rw [ew43]; exact h5
      replace h6 : w43.heap[g6]? = some (.cells (numC R2.val) 43 (0, 0)) := by rw [ew43]; exact h6
      have hBw43 : Hid (Below w.heap.size w w43) := Lib.hid (by rw [ew43]; exact hBw42.out)
      clear ew43
      obtain ⟨R3, qR3⟩ : ∃ uu : Fp, uu = (fp dN) * R1 := ⟨_, rfl⟩
      have HR3 := Lib.hid qR3; clear qR3
      obtain ⟨R4, qR4⟩ : ∃ uu : Fp, uu = R3 + (1 : Fp) := ⟨_, rfl⟩
      have HR4 := Lib.hid qR4; clear qR4
      go_cut [7] (fun s7 wx => ∃ g7 : Nat, s7 = .pointer (some ⟨g7, 0, none⟩) ∧ Hid (w43.heap.size ≤ g7) ∧ Hid (wx.heap[g7]? = some (.cells (numC R4.val) 43 (0, 0))) ∧ Hid (wx.heap[w.heap.size]? = some (.cells (arrC N) 22 (0, 0))) ∧ Hid (wx.heap[w.heap.size + 1]? = some (.cells (z12) 45 (0, 0))) ∧ Hid (wx.heap[w1.heap.size]? = some (.cells (numC Y.val) 43 (0, 0))) ∧ Hid (wx.heap[g5]? = some (.cells (numC R1.val) 43 (0, 0))) ∧ Hid (wx.heap[g6]? = some (.cells (numC R2.val) 43 (0, 0))) ∧ Hid (Below w.heap.size w wx) ∧ Hid (w43.heap.size ≤ wx.heap.size))
      case first =>
        refine wp_region_noPanic ?_
        refine wp_region_held_drew (S := Keep (w43.heap.size) w43) (by kernel_rfl) (Keep.start _ _) ?_
        intro hS
        obtain ⟨w44, ed⟩ : ∃ u : World, u = w43.drew := ⟨_, rfl⟩
        rw [← ed] at hS ⊢
        have xh1 : w44.heap[w.heap.size]? = some (.cells (arrC N) 22 (0, 0)) := by rw [ed]; exact h1
        have xh2 : w44.heap[w.heap.size + 1]? = some (.cells (z12) 45 (0, 0)) := by rw [ed]; exact h2
        have xh4 : w44.heap[w1.heap.size]? = some (.cells (numC Y.val) 43 (0, 0)) := by rw [ed]; exact h4
        have xh5 : w44.heap[g5]? = some (.cells (numC R1.val) 43 (0, 0)) := by rw [ed]; exact h5
        have xh6 : w44.heap[g6]? = some (.cells (numC R2.val) 43 (0, 0)) := by rw [ed]; exact h6
        clear ed
        have hSz := hS.size
        clear xh1
        clear xh2
        clear xh4
        clear xh5
        clear xh6
        refine takeAtK (i := 1) (v := .agg (numC R1.val)) rfl (some 21) rfl (take_row rfl _ _ rfl (g5) rfl _ _ _ h5 (Nat.ne_of_lt (heap_lt h5)) underNum rfl (infoNum_of (numC R1.val) (numC_size _))) hS ?_
        simp only [Act.put, sia, sc0, scs]
        refine wpAnyH_ready (rs := [0, 7]) (by kernel_rfl) (by simp) ?_
        refine (AllReadyH.cons rfl ?_ (AllReadyH.cons rfl ?_ AllReadyH.nil))
        · intro K hK
          refine ready_call rfl (some 20) rfl 50 #[] (by go_simp) ?_
          refine (curve_ff _).mono ?_
          rintro e w45 ⟨rfl, hC⟩
          refine ⟨_, rfl, ?_⟩
          simp only [Act.put, sia, sc0, scs]
          have hS := hS.call hC
          have hz45 := hC.size
          clear hC
          refine hK.out _ _ hS ?_
          clear hK K
          intro _
          have hSz := hS.size
          refine wpAnyH_ready (rs := [2, 7]) (by kernel_rfl) (by simp) ?_
          refine (AllReadyH.cons rfl ?_ (AllReadyH.cons rfl ?_ AllReadyH.nil))
          · intro K hK
            refine ready_call rfl (some 22) rfl 46 #[] (by go_simp) ?_
            refine (prime_any _).mono ?_
            rintro e w46 ⟨rfl, hC⟩
            refine ⟨_, rfl, ?_⟩
            simp only [Act.put, sia, sc0, scs]
            have hS := hS.call hC
            have hz46 := hC.size
            clear hC
            refine hK.out _ _ hS ?_
            clear hK K
            intro _
            have hSz := hS.size
            refine wpAnyH_ready (rs := [3, 7]) (by kernel_rfl) (by simp) ?_
            refine (AllReadyH.cons rfl ?_ (AllReadyH.cons rfl ?_ AllReadyH.nil))
            · intro K hK
              refine ready_call rfl (some 23) rfl 45 #[.agg (numC (fp dN).val), .agg (numC R1.val), .agg (numC pF)] (by go_simp) ?_
              refine (stimes_ff (fp dN) R1 R3 HR3 _).mono ?_
              rintro e w47 ⟨rfl, hC⟩
              refine ⟨_, rfl, ?_⟩
              simp only [Act.put, sia, sc0, scs]
              have hS := hS.call hC
              have hz47 := hC.size
              clear hC
              refine hK.out _ _ hS ?_
              clear hK K
              intro _
              have hSz := hS.size
              refine wpAnyH_ready (rs := [4, 7]) (by kernel_rfl) (by simp) ?_
              refine (AllReadyH.cons rfl ?_ (AllReadyH.cons rfl ?_ AllReadyH.nil))
              · intro K hK
                refine ready_call rfl (some 24) rfl 48 #[.int .u64 1] (by go_simp) ?_
                refine (sone_ff _).mono ?_
                rintro e w48 ⟨rfl, hC⟩
                refine ⟨_, rfl, ?_⟩
                simp only [Act.put, sia, sc0, scs]
                have hS := hS.call hC
                have hz48 := hC.size
                clear hC
                refine hK.out _ _ hS ?_
                clear hK K
                intro _
                have hSz := hS.size
                refine wpAnyH_ready (rs := [5, 7]) (by kernel_rfl) (by simp) ?_
                refine (AllReadyH.cons rfl ?_ (AllReadyH.cons rfl ?_ AllReadyH.nil))
                · intro K hK
                  refine ready_call rfl (some 25) rfl 46 #[] (by go_simp) ?_
                  refine (prime_any _).mono ?_
                  rintro e w49 ⟨rfl, hC⟩
                  refine ⟨_, rfl, ?_⟩
                  simp only [Act.put, sia, sc0, scs]
                  have hS := hS.call hC
                  have hz49 := hC.size
                  clear hC
                  refine hK.out _ _ hS ?_
                  clear hK K
                  intro _
                  have hSz := hS.size
                  refine wpAnyH_ready (rs := [6, 7]) (by kernel_rfl) (by simp) ?_
                  refine (AllReadyH.cons rfl ?_ (AllReadyH.cons rfl ?_ AllReadyH.nil))
                  · intro K hK
                    refine ready_call rfl (some 26) rfl 49 #[.agg (numC R3.val), .agg (numC (1 : Fp).val), .agg (numC pF)] (by go_simp) ?_
                    refine (splus_ff R3 (1 : Fp) R4 HR4 _).mono ?_
                    rintro e w50 ⟨rfl, hC⟩
                    refine ⟨_, rfl, ?_⟩
                    simp only [Act.put, sia, sc0, scs]
                    have hS := hS.call hC
                    have hz50 := hC.size
                    clear hC
                    refine hK.out _ _ hS ?_
                    clear hK K
                    intro _
                    have hSz := hS.size
                    refine wpAnyH_ready (rs := [7]) (by kernel_rfl) (by simp) ?_
                    refine (AllReadyH.cons rfl ?_ AllReadyH.nil)
                    intro K hK
                    refine ready_run rfl (some 7) rfl (.pointer (some ⟨w50.heap.size, 0, none⟩)) (w50.alloc (.cells z4 43)) (by go_simp; try rfl) ?_
                    simp only [Act.put, sia, sc0, scs]
                    obtain ⟨w51, ea⟩ : ∃ u : World, u = w50.alloc (.cells z4 43) := ⟨_, rfl⟩
                    rw [← ea]
                    have hS := hS.alloc (.cells z4 43)
                    rw [← ea] at hS
                    have hz51 : w50.heap.size + 1 ≤ w51.heap.size := by rw [ea, alloc_size]; omega
                    have hy51 : w43.heap.size ≤ w50.heap.size := hSz
                    have xh7 : w51.heap[w50.heap.size]? = some (.cells (z4) 43 (0, 0)) := by rw [ea]; exact heap_new_at _ _ _ rfl
                    clear ea
                    refine hK.out _ _ hS ?_
                    clear hK K
                    intro _
                    have hSz := hS.size
                    refine wpAnyH_ready (rs := [8]) (by kernel_rfl) (by simp) ?_
                    refine (AllReadyH.cons rfl ?_ AllReadyH.nil)
                    intro K hK
                    rw [if_pos (by rfl)]
                    refine wp_store_row 43 _ _ rfl (w50.heap.size) (numC R4.val) rfl rfl 43 (z4) xh7 (infoNum_of (numC R4.val) (numC_size _)) (z4_size.trans (numC_size _).symm) (numC_one _) ?_
                    refine put_at (none) rfl ?_
                    simp only [Act.put, sia, sc0, scs]
                    have xh7 : (w51.setRow (w50.heap.size) (numC R4.val)).heap[w50.heap.size]? = some (.cells (numC R4.val) 43 (0, 0)) := (setRow_heap _ _ _ _ _ _ xh7)
                    have hS := hS.storeNew (numC R4.val) (show w43.heap.size ≤ w50.heap.size by omega)
                    generalize w51.setRow (w50.heap.size) (numC R4.val) = w52 at *
                    refine hK.out _ _ hS ?_
                    clear hK K
                    intro _
                    have hSz := hS.size
                    refine wpAnyH_done (by kernel_rfl) ?_ _
                    refine NoPanic.normal ?_
                    have hsz := hS.size
                    have h1 : w52.heap[w.heap.size]? = some (.cells (arrC N) 22 (0, 0)) := hS.old h1 (Nat.ne_of_lt (heap_lt h1))
                    have h2 : w52.heap[w.heap.size + 1]? = some (.cells (z12) 45 (0, 0)) := hS.old h2 (Nat.ne_of_lt (heap_lt h2))
                    have h4 : w52.heap[w1.heap.size]? = some (.cells (numC Y.val) 43 (0, 0)) := hS.old h4 (Nat.ne_of_lt (heap_lt h4))
                    have h5 : w52.heap[g5]? = some (.cells (numC R1.val) 43 (0, 0)) := hS.old h5 (Nat.ne_of_lt (heap_lt h5))
                    have h6 : w52.heap[g6]? = some (.cells (numC R2.val) 43 (0, 0)) := hS.old h6 (Nat.ne_of_lt (heap_lt h6))
                    have h7 := xh7
                    have hBw52 : Hid (Below w.heap.size w w52) := Lib.hid (hBw43.out.trans (hS.below (by omega) hBw43.out.size))
                    clear hS
                    go_wp2_with fail
                    go_meet
                    exact ⟨w50.heap.size, rfl, Lib.hid (show w43.heap.size ≤ w50.heap.size by omega), Lib.hid h7, Lib.hid h1, Lib.hid h2, Lib.hid h4, Lib.hid h5, Lib.hid h6, Lib.hid hBw52.out, Lib.hid (show w43.heap.size ≤ w52.heap.size by omega)⟩
                  · intro K hK
                    refine ready_run rfl (some 7) rfl (.pointer (some ⟨w49.heap.size, 0, none⟩)) (w49.alloc (.cells z4 43)) (by go_simp; try rfl) ?_
                    simp only [Act.put, sia, sc0, scs]
                    obtain ⟨w54, ea⟩ : ∃ u : World, u = w49.alloc (.cells z4 43) := ⟨_, rfl⟩
                    rw [← ea]
                    have hS := hS.alloc (.cells z4 43)
                    rw [← ea] at hS
                    have hz54 : w49.heap.size + 1 ≤ w54.heap.size := by rw [ea, alloc_size]; omega
                    have hy54 : w43.heap.size ≤ w49.heap.size := hSz
                    have xh7 : w54.heap[w49.heap.size]? = some (.cells (z4) 43 (0, 0)) := by rw [ea]; exact heap_new_at _ _ _ rfl
                    clear ea
                    refine hK.out _ _ hS ?_
                    clear hK K
                    intro _
                    have hSz := hS.size
                    refine wpAnyH_ready (rs := [6]) (by kernel_rfl) (by simp) ?_
                    refine (AllReadyH.cons rfl ?_ AllReadyH.nil)
                    intro K hK
                    refine ready_call rfl (some 26) rfl 49 #[.agg (numC R3.val), .agg (numC (1 : Fp).val), .agg (numC pF)] (by go_simp) ?_
                    refine (splus_ff R3 (1 : Fp) R4 HR4 _).mono ?_
                    rintro e w55 ⟨rfl, hC⟩
                    refine ⟨_, rfl, ?_⟩
                    simp only [Act.put, sia, sc0, scs]
                    have xh7 : w55.heap[w49.heap.size]? = some (.cells (z4) 43 (0, 0)) := (heap_call hC xh7)
                    have hS := hS.call hC
                    have hz55 := hC.size
                    clear hC
                    refine hK.out _ _ hS ?_
                    clear hK K
                    intro _
                    have hSz := hS.size
                    refine wpAnyH_ready (rs := [8]) (by kernel_rfl) (by simp) ?_
                    refine (AllReadyH.cons rfl ?_ AllReadyH.nil)
                    intro K hK
                    rw [if_pos (by rfl)]
                    refine wp_store_row 43 _ _ rfl (w49.heap.size) (numC R4.val) rfl rfl 43 (z4) xh7 (infoNum_of (numC R4.val) (numC_size _)) (z4_size.trans (numC_size _).symm) (numC_one _) ?_
                    refine put_at (none) rfl ?_
                    simp only [Act.put, sia, sc0, scs]
                    have xh7 : (w55.setRow (w49.heap.size) (numC R4.val)).heap[w49.heap.size]? = some (.cells (numC R4.val) 43 (0, 0)) := (setRow_heap _ _ _ _ _ _ xh7)
                    have hS := hS.storeNew (numC R4.val) (show w43.heap.size ≤ w49.heap.size by omega)
                    generalize w55.setRow (w49.heap.size) (numC R4.val) = w56 at *
                    refine hK.out _ _ hS ?_
                    clear hK K
                    intro _
                    have hSz := hS.size
                    refine wpAnyH_done (by kernel_rfl) ?_ _
                    refine NoPanic.normal ?_
                    have hsz := hS.size
                    have h1 : w56.heap[w.heap.size]? = some (.cells (arrC N) 22 (0, 0)) := hS.old h1 (Nat.ne_of_lt (heap_lt h1))
                    have h2 : w56.heap[w.heap.size + 1]? = some (.cells (z12) 45 (0, 0)) := hS.old h2 (Nat.ne_of_lt (heap_lt h2))
                    have h4 : w56.heap[w1.heap.size]? = some (.cells (numC Y.val) 43 (0, 0)) := hS.old h4 (Nat.ne_of_lt (heap_lt h4))
                    have h5 : w56.heap[g5]? = some (.cells (numC R1.val) 43 (0, 0)) := hS.old h5 (Nat.ne_of_lt (heap_lt h5))
                    have h6 : w56.heap[g6]? = some (.cells (numC R2.val) 43 (0, 0)) := hS.old h6 (Nat.ne_of_lt (heap_lt h6))
                    have h7 := xh7
                    have hBw56 : Hid (Below w.heap.size w w56) := Lib.hid (hBw43.out.trans (hS.below (by omega) hBw43.out.size))
                    clear hS
                    go_wp2_with fail
                    go_meet
                    exact ⟨w49.heap.size, rfl, Lib.hid (show w43.heap.size ≤ w49.heap.size by omega), Lib.hid h7, Lib.hid h1, Lib.hid h2, Lib.hid h4, Lib.hid h5, Lib.hid h6, Lib.hid hBw56.out, Lib.hid (show w43.heap.size ≤ w56.heap.size by omega)⟩
                · intro K hK
                  refine ready_run rfl (some 7) rfl (.pointer (some ⟨w48.heap.size, 0, none⟩)) (w48.alloc (.cells z4 43)) (by go_simp; try rfl) ?_
                  simp only [Act.put, sia, sc0, scs]
                  obtain ⟨w58, ea⟩ : ∃ u : World, u = w48.alloc (.cells z4 43) := ⟨_, rfl⟩
                  rw [← ea]
                  have hS := hS.alloc (.cells z4 43)
                  rw [← ea] at hS
                  have hz58 : w48.heap.size + 1 ≤ w58.heap.size := by rw [ea, alloc_size]; omega
                  have hy58 : w43.heap.size ≤ w48.heap.size := hSz
                  have xh7 : w58.heap[w48.heap.size]? = some (.cells (z4) 43 (0, 0)) := by rw [ea]; exact heap_new_at _ _ _ rfl
                  clear ea
                  refine hK.out _ _ hS ?_
                  clear hK K
                  intro _
                  have hSz := hS.size
                  refine wpAnyH_ready (rs := [5]) (by kernel_rfl) (by simp) ?_
                  refine (AllReadyH.cons rfl ?_ AllReadyH.nil)
                  intro K hK
                  refine ready_call rfl (some 25) rfl 46 #[] (by go_simp) ?_
                  refine (prime_any _).mono ?_
                  rintro e w59 ⟨rfl, hC⟩
                  refine ⟨_, rfl, ?_⟩
                  simp only [Act.put, sia, sc0, scs]
                  have xh7 : w59.heap[w48.heap.size]? = some (.cells (z4) 43 (0, 0)) := (heap_call hC xh7)
                  have hS := hS.call hC
                  have hz59 := hC.size
                  clear hC
                  refine hK.out _ _ hS ?_
                  clear hK K
                  intro _
                  have hSz := hS.size
                  refine wpAnyH_ready (rs := [6]) (by kernel_rfl) (by simp) ?_
                  refine (AllReadyH.cons rfl ?_ AllReadyH.nil)
                  intro K hK
                  refine ready_call rfl (some 26) rfl 49 #[.agg (numC R3.val), .agg (numC (1 : Fp).val), .agg (numC pF)] (by go_simp) ?_
                  refine (splus_ff R3 (1 : Fp) R4 HR4 _).mono ?_
                  rintro e w60 ⟨rfl, hC⟩
                  refine ⟨_, rfl, ?_⟩
                  simp only [Act.put, sia, sc0, scs]
                  have xh7 : w60.heap[w48.heap.size]? = some (.cells (z4) 43 (0, 0)) := (heap_call hC xh7)
                  have hS := hS.call hC
                  have hz60 := hC.size
                  clear hC
                  refine hK.out _ _ hS ?_
                  clear hK K
                  intro _
                  have hSz := hS.size
                  refine wpAnyH_ready (rs := [8]) (by kernel_rfl) (by simp) ?_
                  refine (AllReadyH.cons rfl ?_ AllReadyH.nil)
                  intro K hK
                  rw [if_pos (by rfl)]
                  refine wp_store_row 43 _ _ rfl (w48.heap.size) (numC R4.val) rfl rfl 43 (z4) xh7 (infoNum_of (numC R4.val) (numC_size _)) (z4_size.trans (numC_size _).symm) (numC_one _) ?_
                  refine put_at (none) rfl ?_
                  simp only [Act.put, sia, sc0, scs]
                  have xh7 : (w60.setRow (w48.heap.size) (numC R4.val)).heap[w48.heap.size]? = some (.cells (numC R4.val) 43 (0, 0)) := (setRow_heap _ _ _ _ _ _ xh7)
                  have hS := hS.storeNew (numC R4.val) (show w43.heap.size ≤ w48.heap.size by omega)
                  generalize w60.setRow (w48.heap.size) (numC R4.val) = w61 at *
                  refine hK.out _ _ hS ?_
                  clear hK K
                  intro _
                  have hSz := hS.size
                  refine wpAnyH_done (by kernel_rfl) ?_ _
                  refine NoPanic.normal ?_
                  have hsz := hS.size
                  have h1 : w61.heap[w.heap.size]? = some (.cells (arrC N) 22 (0, 0)) := hS.old h1 (Nat.ne_of_lt (heap_lt h1))
                  have h2 : w61.heap[w.heap.size + 1]? = some (.cells (z12) 45 (0, 0)) := hS.old h2 (Nat.ne_of_lt (heap_lt h2))
                  have h4 : w61.heap[w1.heap.size]? = some (.cells (numC Y.val) 43 (0, 0)) := hS.old h4 (Nat.ne_of_lt (heap_lt h4))
                  have h5 : w61.heap[g5]? = some (.cells (numC R1.val) 43 (0, 0)) := hS.old h5 (Nat.ne_of_lt (heap_lt h5))
                  have h6 : w61.heap[g6]? = some (.cells (numC R2.val) 43 (0, 0)) := hS.old h6 (Nat.ne_of_lt (heap_lt h6))
                  have h7 := xh7
                  have hBw61 : Hid (Below w.heap.size w w61) := Lib.hid (hBw43.out.trans (hS.below (by omega) hBw43.out.size))
                  clear hS
                  go_wp2_with fail
                  go_meet
                  exact ⟨w48.heap.size, rfl, Lib.hid (show w43.heap.size ≤ w48.heap.size by omega), Lib.hid h7, Lib.hid h1, Lib.hid h2, Lib.hid h4, Lib.hid h5, Lib.hid h6, Lib.hid hBw61.out, Lib.hid (show w43.heap.size ≤ w61.heap.size by omega)⟩
              · intro K hK
                refine ready_run rfl (some 7) rfl (.pointer (some ⟨w47.heap.size, 0, none⟩)) (w47.alloc (.cells z4 43)) (by go_simp; try rfl) ?_
                simp only [Act.put, sia, sc0, scs]
                obtain ⟨w63, ea⟩ : ∃ u : World, u = w47.alloc (.cells z4 43) := ⟨_, rfl⟩
                rw [← ea]
                have hS := hS.alloc (.cells z4 43)
                rw [← ea] at hS
                have hz63 : w47.heap.size + 1 ≤ w63.heap.size := by rw [ea, alloc_size]; omega
                have hy63 : w43.heap.size ≤ w47.heap.size := hSz
                have xh7 : w63.heap[w47.heap.size]? = some (.cells (z4) 43 (0, 0)) := by rw [ea]; exact heap_new_at _ _ _ rfl
                clear ea
                refine hK.out _ _ hS ?_
                clear hK K
                intro _
                have hSz := hS.size
                refine wpAnyH_ready (rs := [4]) (by kernel_rfl) (by simp) ?_
                refine (AllReadyH.cons rfl ?_ AllReadyH.nil)
                intro K hK
                refine ready_call rfl (some 24) rfl 48 #[.int .u64 1] (by go_simp) ?_
                refine (sone_ff _).mono ?_
                rintro e w64 ⟨rfl, hC⟩
                refine ⟨_, rfl, ?_⟩
                simp only [Act.put, sia, sc0, scs]
                have xh7 : w64.heap[w47.heap.size]? = some (.cells (z4) 43 (0, 0)) := (heap_call hC xh7)
                have hS := hS.call hC
                have hz64 := hC.size
                clear hC
                refine hK.out _ _ hS ?_
                clear hK K
                intro _
                have hSz := hS.size
                refine wpAnyH_ready (rs := [5]) (by kernel_rfl) (by simp) ?_
                refine (AllReadyH.cons rfl ?_ AllReadyH.nil)
                intro K hK
                refine ready_call rfl (some 25) rfl 46 #[] (by go_simp) ?_
                refine (prime_any _).mono ?_
                rintro e w65 ⟨rfl, hC⟩
                refine ⟨_, rfl, ?_⟩
                simp only [Act.put, sia, sc0, scs]
                have xh7 : w65.heap[w47.heap.size]? = some (.cells (z4) 43 (0, 0)) := (heap_call hC xh7)
                have hS := hS.call hC
                have hz65 := hC.size
                clear hC
                refine hK.out _ _ hS ?_
                clear hK K
                intro _
                have hSz := hS.size
                refine wpAnyH_ready (rs := [6]) (by kernel_rfl) (by simp) ?_
                refine (AllReadyH.cons rfl ?_ AllReadyH.nil)
                intro K hK
                refine ready_call rfl (some 26) rfl 49 #[.agg (numC R3.val), .agg (numC (1 : Fp).val), .agg (numC pF)] (by go_simp) ?_
                refine (splus_ff R3 (1 : Fp) R4 HR4 _).mono ?_
                rintro e w66 ⟨rfl, hC⟩
                refine ⟨_, rfl, ?_⟩
                simp only [Act.put, sia, sc0, scs]
                have xh7 : w66.heap[w47.heap.size]? = some (.cells (z4) 43 (0, 0)) := (heap_call hC xh7)
                have hS := hS.call hC
                have hz66 := hC.size
                clear hC
                refine hK.out _ _ hS ?_
                clear hK K
                intro _
                have hSz := hS.size
                refine wpAnyH_ready (rs := [8]) (by kernel_rfl) (by simp) ?_
                refine (AllReadyH.cons rfl ?_ AllReadyH.nil)
                intro K hK
                rw [if_pos (by rfl)]
                refine wp_store_row 43 _ _ rfl (w47.heap.size) (numC R4.val) rfl rfl 43 (z4) xh7 (infoNum_of (numC R4.val) (numC_size _)) (z4_size.trans (numC_size _).symm) (numC_one _) ?_
                refine put_at (none) rfl ?_
                simp only [Act.put, sia, sc0, scs]
                have xh7 : (w66.setRow (w47.heap.size) (numC R4.val)).heap[w47.heap.size]? = some (.cells (numC R4.val) 43 (0, 0)) := (setRow_heap _ _ _ _ _ _ xh7)
                have hS := hS.storeNew (numC R4.val) (show w43.heap.size ≤ w47.heap.size by omega)
                generalize w66.setRow (w47.heap.size) (numC R4.val) = w67 at *
                refine hK.out _ _ hS ?_
                clear hK K
                intro _
                have hSz := hS.size
                refine wpAnyH_done (by kernel_rfl) ?_ _
                refine NoPanic.normal ?_
                have hsz := hS.size
                have h1 : w67.heap[w.heap.size]? = some (.cells (arrC N) 22 (0, 0)) := hS.old h1 (Nat.ne_of_lt (heap_lt h1))
                have h2 : w67.heap[w.heap.size + 1]? = some (.cells (z12) 45 (0, 0)) := hS.old h2 (Nat.ne_of_lt (heap_lt h2))
                have h4 : w67.heap[w1.heap.size]? = some (.cells (numC Y.val) 43 (0, 0)) := hS.old h4 (Nat.ne_of_lt (heap_lt h4))
                have h5 : w67.heap[g5]? = some (.cells (numC R1.val) 43 (0, 0)) := hS.old h5 (Nat.ne_of_lt (heap_lt h5))
                have h6 : w67.heap[g6]? = some (.cells (numC R2.val) 43 (0, 0)) := hS.old h6 (Nat.ne_of_lt (heap_lt h6))
                have h7 := xh7
                have hBw67 : Hid (Below w.heap.size w w67) := Lib.hid (hBw43.out.trans (hS.below (by omega) hBw43.out.size))
                clear hS
                go_wp2_with fail
                go_meet
                exact ⟨w47.heap.size, rfl, Lib.hid (show w43.heap.size ≤ w47.heap.size by omega), Lib.hid h7, Lib.hid h1, Lib.hid h2, Lib.hid h4, Lib.hid h5, Lib.hid h6, Lib.hid hBw67.out, Lib.hid (show w43.heap.size ≤ w67.heap.size by omega)⟩
            · intro K hK
              refine ready_run rfl (some 7) rfl (.pointer (some ⟨w46.heap.size, 0, none⟩)) (w46.alloc (.cells z4 43)) (by go_simp; try rfl) ?_
              simp only [Act.put, sia, sc0, scs]
              obtain ⟨w69, ea⟩ : ∃ u : World, u = w46.alloc (.cells z4 43) := ⟨_, rfl⟩
              rw [← ea]
              have hS := hS.alloc (.cells z4 43)
              rw [← ea] at hS
              have hz69 : w46.heap.size + 1 ≤ w69.heap.size := by rw [ea, alloc_size]; omega
              have hy69 : w43.heap.size ≤ w46.heap.size := hSz
              have xh7 : w69.heap[w46.heap.size]? = some (.cells (z4) 43 (0, 0)) := by rw [ea]; exact heap_new_at _ _ _ rfl
              clear ea
              refine hK.out _ _ hS ?_
              clear hK K
              intro _
              have hSz := hS.size
              refine wpAnyH_ready (rs := [3]) (by kernel_rfl) (by simp) ?_
              refine (AllReadyH.cons rfl ?_ AllReadyH.nil)
              intro K hK
              refine ready_call rfl (some 23) rfl 45 #[.agg (numC (fp dN).val), .agg (numC R1.val), .agg (numC pF)] (by go_simp) ?_
              refine (stimes_ff (fp dN) R1 R3 HR3 _).mono ?_
              rintro e w70 ⟨rfl, hC⟩
              refine ⟨_, rfl, ?_⟩
              simp only [Act.put, sia, sc0, scs]
              have xh7 : w70.heap[w46.heap.size]? = some (.cells (z4) 43 (0, 0)) := (heap_call hC xh7)
              have hS := hS.call hC
              have hz70 := hC.size
              clear hC
              refine hK.out _ _ hS ?_
              clear hK K
              intro _
              have hSz := hS.size
              refine wpAnyH_ready (rs := [4]) (by kernel_rfl) (by simp) ?_
              refine (AllReadyH.cons rfl ?_ AllReadyH.nil)
              intro K hK
              refine ready_call rfl (some 24) rfl 48 #[.int .u64 1] (by go_simp) ?_
              refine (sone_ff _).mono ?_
              rintro e w71 ⟨rfl, hC⟩
              refine ⟨_, rfl, ?_⟩
              simp only [Act.put, sia, sc0, scs]
              have xh7 : w71.heap[w46.heap.size]? = some (.cells (z4) 43 (0, 0)) := (heap_call hC xh7)
              have hS := hS.call hC
              have hz71 := hC.size
              clear hC
              refine hK.out _ _ hS ?_
              clear hK K
              intro _
              have hSz := hS.size
              refine wpAnyH_ready (rs := [5]) (by kernel_rfl) (by simp) ?_
              refine (AllReadyH.cons rfl ?_ AllReadyH.nil)
              intro K hK
              refine ready_call rfl (some 25) rfl 46 #[] (by go_simp) ?_
              refine (prime_any _).mono ?_
              rintro e w72 ⟨rfl, hC⟩
              refine ⟨_, rfl, ?_⟩
              simp only [Act.put, sia, sc0, scs]
              have xh7 : w72.heap[w46.heap.size]? = some (.cells (z4) 43 (0, 0)) := (heap_call hC xh7)
              have hS := hS.call hC
              have hz72 := hC.size
              clear hC
              refine hK.out _ _ hS ?_
              clear hK K
              intro _
              have hSz := hS.size
              refine wpAnyH_ready (rs := [6]) (by kernel_rfl) (by simp) ?_
              refine (AllReadyH.cons rfl ?_ AllReadyH.nil)
              intro K hK
              refine ready_call rfl (some 26) rfl 49 #[.agg (numC R3.val), .agg (numC (1 : Fp).val), .agg (numC pF)] (by go_simp) ?_
              refine (splus_ff R3 (1 : Fp) R4 HR4 _).mono ?_
              rintro e w73 ⟨rfl, hC⟩
              refine ⟨_, rfl, ?_⟩
              simp only [Act.put, sia, sc0, scs]
              have xh7 : w73.heap[w46.heap.size]? = some (.cells (z4) 43 (0, 0)) := (heap_call hC xh7)
              have hS := hS.call hC
              have hz73 := hC.size
              clear hC
              refine hK.out _ _ hS ?_
              clear hK K
              intro _
              have hSz := hS.size
              refine wpAnyH_ready (rs := [8]) (by kernel_rfl) (by simp) ?_
              refine (AllReadyH.cons rfl ?_ AllReadyH.nil)
              intro K hK
              rw [if_pos (by rfl)]
              refine wp_store_row 43 _ _ rfl (w46.heap.size) (numC R4.val) rfl rfl 43 (z4) xh7 (infoNum_of (numC R4.val) (numC_size _)) (z4_size.trans (numC_size _).symm) (numC_one _) ?_
              refine put_at (none) rfl ?_
              simp only [Act.put, sia, sc0, scs]
              have xh7 : (w73.setRow (w46.heap.size) (numC R4.val)).heap[w46.heap.size]? = some (.cells (numC R4.val) 43 (0, 0)) := (setRow_heap _ _ _ _ _ _ xh7)
              have hS := hS.storeNew (numC R4.val) (show w43.heap.size ≤ w46.heap.size by omega)
              generalize w73.setRow (w46.heap.size) (numC R4.val) = w74 at *
              refine hK.out _ _ hS ?_
              clear hK K
              intro _
              have hSz := hS.size
              refine wpAnyH_done (by kernel_rfl) ?_ _
              refine NoPanic.normal ?_
              have hsz := hS.size
              have h1 : w74.heap[w.heap.size]? = some (.cells (arrC N) 22 (0, 0)) := hS.old h1 (Nat.ne_of_lt (heap_lt h1))
              have h2 : w74.heap[w.heap.size + 1]? = some (.cells (z12) 45 (0, 0)) := hS.old h2 (Nat.ne_of_lt (heap_lt h2))
              have h4 : w74.heap[w1.heap.size]? = some (.cells (numC Y.val) 43 (0, 0)) := hS.old h4 (Nat.ne_of_lt (heap_lt h4))
              have h5 : w74.heap[g5]? = some (.cells (numC R1.val) 43 (0, 0)) := hS.old h5 (Nat.ne_of_lt (heap_lt h5))
              have h6 : w74.heap[g6]? = some (.cells (numC R2.val) 43 (0, 0)) := hS.old h6 (Nat.ne_of_lt (heap_lt h6))
              have h7 := xh7
              have hBw74 : Hid (Below w.heap.size w w74) := Lib.hid (hBw43.out.trans (hS.below (by omega) hBw43.out.size))
              clear hS
              go_wp2_with fail
              go_meet
              exact ⟨w46.heap.size, rfl, Lib.hid (show w43.heap.size ≤ w46.heap.size by omega), Lib.hid h7, Lib.hid h1, Lib.hid h2, Lib.hid h4, Lib.hid h5, Lib.hid h6, Lib.hid hBw74.out, Lib.hid (show w43.heap.size ≤ w74.heap.size by omega)⟩
          · intro K hK
            refine ready_run rfl (some 7) rfl (.pointer (some ⟨w45.heap.size, 0, none⟩)) (w45.alloc (.cells z4 43)) (by go_simp; try rfl) ?_
            simp only [Act.put, sia, sc0, scs]
            obtain ⟨w76, ea⟩ : ∃ u : World, u = w45.alloc (.cells z4 43) := ⟨_, rfl⟩
            rw [← ea]
            have hS := hS.alloc (.cells z4 43)
            rw [← ea] at hS
            have hz76 : w45.heap.size + 1 ≤ w76.heap.size := by rw [ea, alloc_size]; omega
            have hy76 : w43.heap.size ≤ w45.heap.size := hSz
            have xh7 : w76.heap[w45.heap.size]? = some (.cells (z4) 43 (0, 0)) := by rw [ea]; exact heap_new_at _ _ _ rfl
            clear ea
            refine hK.out _ _ hS ?_
            clear hK K
            intro _
            have hSz := hS.size
            refine wpAnyH_ready (rs := [2]) (by kernel_rfl) (by simp) ?_
            refine (AllReadyH.cons rfl ?_ AllReadyH.nil)
            intro K hK
            refine ready_call rfl (some 22) rfl 46 #[] (by go_simp) ?_
            refine (prime_any _).mono ?_
            rintro e w77 ⟨rfl, hC⟩
            refine ⟨_, rfl, ?_⟩
            simp only [Act.put, sia, sc0, scs]
            have xh7 : w77.heap[w45.heap.size]? = some (.cells (z4) 43 (0, 0)) := (heap_call hC xh7)
            have hS := hS.call hC
            have hz77 := hC.size
            clear hC
            refine hK.out _ _ hS ?_
            clear hK K
            intro _
            have hSz := hS.size
            refine wpAnyH_ready (rs := [3]) (by kernel_rfl) (by simp) ?_
            refine (AllReadyH.cons rfl ?_ AllReadyH.nil)
            intro K hK
            refine ready_call rfl (some 23) rfl 45 #[.agg (numC (fp dN).val), .agg (numC R1.val), .agg (numC pF)] (by go_simp) ?_
            refine (stimes_ff (fp dN) R1 R3 HR3 _).mono ?_
            rintro e w78 ⟨rfl, hC⟩
            refine ⟨_, rfl, ?_⟩
            simp only [Act.put, sia, sc0, scs]
            have xh7 : w78.heap[w45.heap.size]? = some (.cells (z4) 43 (0, 0)) := (heap_call hC xh7)
            have hS := hS.call hC
            have hz78 := hC.size
            clear hC
            refine hK.out _ _ hS ?_
            clear hK K
            intro _
            have hSz := hS.size
            refine wpAnyH_ready (rs := [4]) (by kernel_rfl) (by simp) ?_
            refine (AllReadyH.cons rfl ?_ AllReadyH.nil)
            intro K hK
            refine ready_call rfl (some 24) rfl 48 #[.int .u64 1] (by go_simp) ?_
            refine (sone_ff _).mono ?_
            rintro e w79 ⟨rfl, hC⟩
            refine ⟨_, rfl, ?_⟩
            simp only [Act.put, sia, sc0, scs]
            have xh7 : w79.heap[w45.heap.size]? = some (.cells (z4) 43 (0, 0)) := (heap_call hC xh7)
            have hS := hS.call hC
            have hz79 := hC.size
            clear hC
            refine hK.out _ _ hS ?_
            clear hK K
            intro _
            have hSz := hS.size
            refine wpAnyH_ready (rs := [5]) (by kernel_rfl) (by simp) ?_
            refine (AllReadyH.cons rfl ?_ AllReadyH.nil)
            intro K hK
            refine ready_call rfl (some 25) rfl 46 #[] (by go_simp) ?_
            refine (prime_any _).mono ?_
            rintro e w80 ⟨rfl, hC⟩
            refine ⟨_, rfl, ?_⟩
            simp only [Act.put, sia, sc0, scs]
            have xh7 : w80.heap[w45.heap.size]? = some (.cells (z4) 43 (0, 0)) := (heap_call hC xh7)
            have hS := hS.call hC
            have hz80 := hC.size
            clear hC
            refine hK.out _ _ hS ?_
            clear hK K
            intro _
            have hSz := hS.size
            refine wpAnyH_ready (rs := [6]) (by kernel_rfl) (by simp) ?_
            refine (AllReadyH.cons rfl ?_ AllReadyH.nil)
            intro K hK
            refine ready_call rfl (some 26) rfl 49 #[.agg (numC R3.val), .agg (numC (1 : Fp).val), .agg (numC pF)] (by go_simp) ?_
            refine (splus_ff R3 (1 : Fp) R4 HR4 _).mono ?_
            rintro e w81 ⟨rfl, hC⟩
            refine ⟨_, rfl, ?_⟩
            simp only [Act.put, sia, sc0, scs]
            have xh7 : w81.heap[w45.heap.size]? = some (.cells (z4) 43 (0, 0)) := (heap_call hC xh7)
            have hS := hS.call hC
            have hz81 := hC.size
            clear hC
            refine hK.out _ _ hS ?_
            clear hK K
            intro _
            have hSz := hS.size
            refine wpAnyH_ready (rs := [8]) (by kernel_rfl) (by simp) ?_
            refine (AllReadyH.cons rfl ?_ AllReadyH.nil)
            intro K hK
            rw [if_pos (by rfl)]
            refine wp_store_row 43 _ _ rfl (w45.heap.size) (numC R4.val) rfl rfl 43 (z4) xh7 (infoNum_of (numC R4.val) (numC_size _)) (z4_size.trans (numC_size _).symm) (numC_one _) ?_
            refine put_at (none) rfl ?_
            simp only [Act.put, sia, sc0, scs]
            have xh7 : (w81.setRow (w45.heap.size) (numC R4.val)).heap[w45.heap.size]? = some (.cells (numC R4.val) 43 (0, 0)) := (setRow_heap _ _ _ _ _ _ xh7)
            have hS := hS.storeNew (numC R4.val) (show w43.heap.size ≤ w45.heap.size by omega)
            generalize w81.setRow (w45.heap.size) (numC R4.val) = w82 at *
            refine hK.out _ _ hS ?_
            clear hK K
            intro _
            have hSz := hS.size
            refine wpAnyH_done (by kernel_rfl) ?_ _
            refine NoPanic.normal ?_
            have hsz := hS.size
            have h1 : w82.heap[w.heap.size]? = some (.cells (arrC N) 22 (0, 0)) := hS.old h1 (Nat.ne_of_lt (heap_lt h1))
            have h2 : w82.heap[w.heap.size + 1]? = some (.cells (z12) 45 (0, 0)) := hS.old h2 (Nat.ne_of_lt (heap_lt h2))
            have h4 : w82.heap[w1.heap.size]? = some (.cells (numC Y.val) 43 (0, 0)) := hS.old h4 (Nat.ne_of_lt (heap_lt h4))
            have h5 : w82.heap[g5]? = some (.cells (numC R1.val) 43 (0, 0)) := hS.old h5 (Nat.ne_of_lt (heap_lt h5))
            have h6 : w82.heap[g6]? = some (.cells (numC R2.val) 43 (0, 0)) := hS.old h6 (Nat.ne_of_lt (heap_lt h6))
            have h7 := xh7
            have hBw82 : Hid (Below w.heap.size w w82) := Lib.hid (hBw43.out.trans (hS.below (by omega) hBw43.out.size))
            clear hS
            go_wp2_with fail
            go_meet
            exact ⟨w45.heap.size, rfl, Lib.hid (show w43.heap.size ≤ w45.heap.size by omega), Lib.hid h7, Lib.hid h1, Lib.hid h2, Lib.hid h4, Lib.hid h5, Lib.hid h6, Lib.hid hBw82.out, Lib.hid (show w43.heap.size ≤ w82.heap.size by omega)⟩
        · intro K hK
          refine ready_run rfl (some 7) rfl (.pointer (some ⟨w44.heap.size, 0, none⟩)) (w44.alloc (.cells z4 43)) (by go_simp; try rfl) ?_
          simp only [Act.put, sia, sc0, scs]
          obtain ⟨w84, ea⟩ : ∃ u : World, u = w44.alloc (.cells z4 43) := ⟨_, rfl⟩
          rw [← ea]
          have hS := hS.alloc (.cells z4 43)
          rw [← ea] at hS
          have hz84 : w44.heap.size + 1 ≤ w84.heap.size := by rw [ea, alloc_size]; omega
          have hy84 : w43.heap.size ≤ w44.heap.size := hSz
          have xh7 : w84.heap[w44.heap.size]? = some (.cells (z4) 43 (0, 0)) := by rw [ea]; exact heap_new_at _ _ _ rfl
          clear ea
          refine hK.out _ _ hS ?_
          clear hK K
          intro _
          have hSz := hS.size
          refine wpAnyH_ready (rs := [0]) (by kernel_rfl) (by simp) ?_
          refine (AllReadyH.cons rfl ?_ AllReadyH.nil)
          intro K hK
          refine ready_call rfl (some 20) rfl 50 #[] (by go_simp) ?_
          refine (curve_ff _).mono ?_
          rintro e w85 ⟨rfl, hC⟩
          refine ⟨_, rfl, ?_⟩
          simp only [Act.put, sia, sc0, scs]
          have xh7 : w85.heap[w44.heap.size]? = some (.cells (z4) 43 (0, 0)) := (heap_call hC xh7)
          have hS := hS.call hC
          have hz85 := hC.size
          clear hC
          refine hK.out _ _ hS ?_
          clear hK K
          intro _
          have hSz := hS.size
          refine wpAnyH_ready (rs := [2]) (by kernel_rfl) (by simp) ?_
          refine (AllReadyH.cons rfl ?_ AllReadyH.nil)
          intro K hK
          refine ready_call rfl (some 22) rfl 46 #[] (by go_simp) ?_
          refine (prime_any _).mono ?_
          rintro e w86 ⟨rfl, hC⟩
          refine ⟨_, rfl, ?_⟩
          simp only [Act.put, sia, sc0, scs]
          have xh7 : w86.heap[w44.heap.size]? = some (.cells (z4) 43 (0, 0)) := (heap_call hC xh7)
          have hS := hS.call hC
          have hz86 := hC.size
          clear hC
          refine hK.out _ _ hS ?_
          clear hK K
          intro _
          have hSz := hS.size
          refine wpAnyH_ready (rs := [3]) (by kernel_rfl) (by simp) ?_
          refine (AllReadyH.cons rfl ?_ AllReadyH.nil)
          intro K hK
          refine ready_call rfl (some 23) rfl 45 #[.agg (numC (fp dN).val), .agg (numC R1.val), .agg (numC pF)] (by go_simp) ?_
          refine (stimes_ff (fp dN) R1 R3 HR3 _).mono ?_
          rintro e w87 ⟨rfl, hC⟩
          refine ⟨_, rfl, ?_⟩
          simp only [Act.put, sia, sc0, scs]
          have xh7 : w87.heap[w44.heap.size]? = some (.cells (z4) 43 (0, 0)) := (heap_call hC xh7)
          have hS := hS.call hC
          have hz87 := hC.size
          clear hC
          refine hK.out _ _ hS ?_
          clear hK K
          intro _
          have hSz := hS.size
          refine wpAnyH_ready (rs := [4]) (by kernel_rfl) (by simp) ?_
          refine (AllReadyH.cons rfl ?_ AllReadyH.nil)
          intro K hK
          refine ready_call rfl (some 24) rfl 48 #[.int .u64 1] (by go_simp) ?_
          refine (sone_ff _).mono ?_
          rintro e w88 ⟨rfl, hC⟩
          refine ⟨_, rfl, ?_⟩
          simp only [Act.put, sia, sc0, scs]
          have xh7 : w88.heap[w44.heap.size]? = some (.cells (z4) 43 (0, 0)) := (heap_call hC xh7)
          have hS := hS.call hC
          have hz88 := hC.size
          clear hC
          refine hK.out _ _ hS ?_
          clear hK K
          intro _
          have hSz := hS.size
          refine wpAnyH_ready (rs := [5]) (by kernel_rfl) (by simp) ?_
          refine (AllReadyH.cons rfl ?_ AllReadyH.nil)
          intro K hK
          refine ready_call rfl (some 25) rfl 46 #[] (by go_simp) ?_
          refine (prime_any _).mono ?_
          rintro e w89 ⟨rfl, hC⟩
          refine ⟨_, rfl, ?_⟩
          simp only [Act.put, sia, sc0, scs]
          have xh7 : w89.heap[w44.heap.size]? = some (.cells (z4) 43 (0, 0)) := (heap_call hC xh7)
          have hS := hS.call hC
          have hz89 := hC.size
          clear hC
          refine hK.out _ _ hS ?_
          clear hK K
          intro _
          have hSz := hS.size
          refine wpAnyH_ready (rs := [6]) (by kernel_rfl) (by simp) ?_
          refine (AllReadyH.cons rfl ?_ AllReadyH.nil)
          intro K hK
          refine ready_call rfl (some 26) rfl 49 #[.agg (numC R3.val), .agg (numC (1 : Fp).val), .agg (numC pF)] (by go_simp) ?_
          refine (splus_ff R3 (1 : Fp) R4 HR4 _).mono ?_
          rintro e w90 ⟨rfl, hC⟩
          refine ⟨_, rfl, ?_⟩
          simp only [Act.put, sia, sc0, scs]
          have xh7 : w90.heap[w44.heap.size]? = some (.cells (z4) 43 (0, 0)) := (heap_call hC xh7)
          have hS := hS.call hC
          have hz90 := hC.size
          clear hC
          refine hK.out _ _ hS ?_
          clear hK K
          intro _
          have hSz := hS.size
          refine wpAnyH_ready (rs := [8]) (by kernel_rfl) (by simp) ?_
          refine (AllReadyH.cons rfl ?_ AllReadyH.nil)
          intro K hK
          rw [if_pos (by rfl)]
          refine wp_store_row 43 _ _ rfl (w44.heap.size) (numC R4.val) rfl rfl 43 (z4) xh7 (infoNum_of (numC R4.val) (numC_size _)) (z4_size.trans (numC_size _).symm) (numC_one _) ?_
          refine put_at (none) rfl ?_
          simp only [Act.put, sia, sc0, scs]
          have xh7 : (w90.setRow (w44.heap.size) (numC R4.val)).heap[w44.heap.size]? = some (.cells (numC R4.val) 43 (0, 0)) := (setRow_heap _ _ _ _ _ _ xh7)
          have hS := hS.storeNew (numC R4.val) (show w43.heap.size ≤ w44.heap.size by omega)
          generalize w90.setRow (w44.heap.size) (numC R4.val) = w91 at *
          refine hK.out _ _ hS ?_
          clear hK K
          intro _
          have hSz := hS.size
          refine wpAnyH_done (by kernel_rfl) ?_ _
          refine NoPanic.normal ?_
          have hsz := hS.size
          have h1 : w91.heap[w.heap.size]? = some (.cells (arrC N) 22 (0, 0)) := hS.old h1 (Nat.ne_of_lt (heap_lt h1))
          have h2 : w91.heap[w.heap.size + 1]? = some (.cells (z12) 45 (0, 0)) := hS.old h2 (Nat.ne_of_lt (heap_lt h2))
          have h4 : w91.heap[w1.heap.size]? = some (.cells (numC Y.val) 43 (0, 0)) := hS.old h4 (Nat.ne_of_lt (heap_lt h4))
          have h5 : w91.heap[g5]? = some (.cells (numC R1.val) 43 (0, 0)) := hS.old h5 (Nat.ne_of_lt (heap_lt h5))
          have h6 : w91.heap[g6]? = some (.cells (numC R2.val) 43 (0, 0)) := hS.old h6 (Nat.ne_of_lt (heap_lt h6))
          have h7 := xh7
          have hBw91 : Hid (Below w.heap.size w w91) := Lib.hid (hBw43.out.trans (hS.below (by omega) hBw43.out.size))
          clear hS
          go_wp2_with fail
          go_meet
          exact ⟨w44.heap.size, rfl, Lib.hid (show w43.heap.size ≤ w44.heap.size by omega), Lib.hid h7, Lib.hid h1, Lib.hid h2, Lib.hid h4, Lib.hid h5, Lib.hid h6, Lib.hid hBw91.out, Lib.hid (show w43.heap.size ≤ w91.heap.size by omega)⟩
      case rest =>
        obtain ⟨g7, rfl, Hg7, Hh7, Hh1, Hh2, Hh4, Hh5, Hh6, hBw93, Hsz93⟩ := hcut
        obtain ⟨w93, rfl⟩ : ∃ u : World, u = wc := ⟨_, rfl⟩
        have hgl7 := Hg7.out
        have h7 := Hh7.out
        have hgu7 := heap_lt h7
        have h1 := Hh1.out
        have h2 := Hh2.out
        have h4 := Hh4.out
        have h5 := Hh5.out
        have h6 := Hh6.out
        have hsz93 := Hsz93.out
        obtain ⟨R5, qR5⟩ : ∃ uu : Fp, uu = fpInv R4 := ⟨_, rfl⟩
        have HR5 := Lib.hid qR5; clear qR5
        obtain ⟨R6, qR6⟩ : ∃ uu : Fp, uu = R2 * R5 := ⟨_, rfl⟩
        have HR6 := Lib.hid qR6; clear qR6
        have hq := root_dcF Y R1 R2 R3 R4 R5 R6 HR1.out HR2.out HR3.out HR4.out HR5.out HR6.out
        have hrt : rtIs R6.val = b := hq.1.trans hD.out
        have HRT : Hid (b = true → RT.val = rtR R6.val) := Lib.hid (fun hb => by rw [hq.2 (hD.out.trans hb)]; exact hRT.out hb)
        have HRT0 : Hid (b = false → RT.val = 0) := hRT0
        clear hq
        go_wp2_with fail
        try simp only [Act.put]
        refine wp_named ?_
        intro w94 ew94
        have hs94 : w93.heap.size ≤ w94.heap.size := by rw [ew94]; (try simp only [alloc_size, setRow_size]); omega
        replace h1 : w94.heap[w.heap.size]? = some (.cells (arrC N) 22 (0, 0)) := by rw [ew94]; exact h1
        replace h2 : w94.heap[w.heap.size + 1]? = some (.cells (z12) 45 (0, 0)) := by rw [ew94]; exact h2
        replace h4 : w94.heap[w1.heap.size]? = some (.cells (numC Y.val) 43 (0, 0)) := by rw [ew94]; exact h4
        replace h5 : w94.heap[g5]? = some (.cells (numC R1.val) 43 (0, 0)) := by rw [ew94]; exact h5
        replace h6 : w94.heap[g6]? = some (.cells (numC R2.val) 43 (0, 0)) := by rw [ew94]; exact h6
        replace h7 : w94.heap[g7]? = some (.cells (numC R4.val) 43 (0, 0)) := by rw [ew94]; exact h7
        have hBw94 : Hid (Below w.heap.size w w94) := Lib.hid (by rw [ew94]; exact hBw93.out)
        clear ew94
        go_cut [8, 9] (fun s8 s9 wx => ∃ g8 : Nat, s8 = .pointer (some ⟨g8, 0, none⟩) ∧ Hid (w94.heap.size ≤ g8) ∧ Hid (wx.heap[g8]? = some (.cells (numC RT.val) 43 (0, 0))) ∧ s9 = .bool b ∧ Hid (wx.heap[w.heap.size]? = some (.cells (arrC N) 22 (0, 0))) ∧ Hid (wx.heap[w.heap.size + 1]? = some (.cells (z12) 45 (0, 0))) ∧ Hid (wx.heap[w1.heap.size]? = some (.cells (numC Y.val) 43 (0, 0))) ∧ Hid (wx.heap[g5]? = some (.cells (numC R1.val) 43 (0, 0))) ∧ Hid (wx.heap[g6]? = some (.cells (numC R2.val) 43 (0, 0))) ∧ Hid (wx.heap[g7]? = some (.cells (numC R4.val) 43 (0, 0))) ∧ Hid (Below w.heap.size w wx) ∧ Hid (w94.heap.size ≤ wx.heap.size))
        case first =>
          refine wp_region_noPanic ?_
          refine wp_region_held_drew (S := Keep (w94.heap.size) w94) (by kernel_rfl) (Keep.start _ _) ?_
          intro hS
          obtain ⟨w95, ed⟩ : ∃ u : World, u = w94.drew := ⟨_, rfl⟩
          rw [← ed] at hS ⊢
          have xh1 : w95.heap[w.heap.size]? = some (.cells (arrC N) 22 (0, 0)) := by rw [ed]; exact h1
          have xh2 : w95.heap[w.heap.size + 1]? = some (.cells (z12) 45 (0, 0)) := by rw [ed]; exact h2
          have xh4 : w95.heap[w1.heap.size]? = some (.cells (numC Y.val) 43 (0, 0)) := by rw [ed]; exact h4
          have xh5 : w95.heap[g5]? = some (.cells (numC R1.val) 43 (0, 0)) := by rw [ed]; exact h5
          have xh6 : w95.heap[g6]? = some (.cells (numC R2.val) 43 (0, 0)) := by rw [ed]; exact h6
          have xh7 : w95.heap[g7]? = some (.cells (numC R4.val) 43 (0, 0)) := by rw [ed]; exact h7
          clear ed
          have hSz := hS.size
          clear xh1
          clear xh2
          clear xh4
          clear xh5
          clear xh6
          clear xh7
          refine takeAtK (i := 0) (v := .agg (numC R2.val)) rfl (some 28) rfl (take_row rfl _ _ rfl (g6) rfl _ _ _ h6 (Nat.ne_of_lt (heap_lt h6)) underNum rfl (infoNum_of (numC R2.val) (numC_size _))) hS ?_
          simp only [Act.put, sia, sc0, scs]
          refine takeAtK (i := 1) (v := .agg (numC R4.val)) rfl (some 29) rfl (take_row rfl _ _ rfl (g7) rfl _ _ _ h7 (Nat.ne_of_lt (heap_lt h7)) underNum rfl (infoNum_of (numC R4.val) (numC_size _))) hS ?_
          simp only [Act.put, sia, sc0, scs]
          refine wpAnyH_ready (rs := [2, 9]) (by kernel_rfl) (by simp) ?_
          refine (AllReadyH.cons rfl ?_ (AllReadyH.cons rfl ?_ AllReadyH.nil))
          · intro K hK
            refine ready_call rfl (some 30) rfl 52 #[.agg (numC R4.val)] (by go_simp) ?_
            refine (sinverse_ff R4 R5 HR5 _).mono ?_
            rintro e w96 ⟨rfl, hC⟩
            refine ⟨_, rfl, ?_⟩
            simp only [Act.put, sia, sc0, scs]
            have hS := hS.call hC
            have hz96 := hC.size
            clear hC
            refine hK.out _ _ hS ?_
            clear hK K
            intro _
            have hSz := hS.size
            refine wpAnyH_ready (rs := [3, 9]) (by kernel_rfl) (by simp) ?_
            refine (AllReadyH.cons rfl ?_ (AllReadyH.cons rfl ?_ AllReadyH.nil))
            · intro K hK
              refine ready_call rfl (some 31) rfl 46 #[] (by go_simp) ?_
              refine (prime_any _).mono ?_
              rintro e w97 ⟨rfl, hC⟩
              refine ⟨_, rfl, ?_⟩
              simp only [Act.put, sia, sc0, scs]
              have hS := hS.call hC
              have hz97 := hC.size
              clear hC
              refine hK.out _ _ hS ?_
              clear hK K
              intro _
              have hSz := hS.size
              refine wpAnyH_ready (rs := [4, 9]) (by kernel_rfl) (by simp) ?_
              refine (AllReadyH.cons rfl ?_ (AllReadyH.cons rfl ?_ AllReadyH.nil))
              · intro K hK
                refine ready_call rfl (some 32) rfl 45 #[.agg (numC R2.val), .agg (numC R5.val), .agg (numC pF)] (by go_simp) ?_
                refine (stimes_ff R2 R5 R6 HR6 _).mono ?_
                rintro e w98 ⟨rfl, hC⟩
                refine ⟨_, rfl, ?_⟩
                simp only [Act.put, sia, sc0, scs]
                have hS := hS.call hC
                have hz98 := hC.size
                clear hC
                refine hK.out _ _ hS ?_
                clear hK K
                intro _
                have hSz := hS.size
                refine wpAnyH_ready (rs := [5, 9]) (by kernel_rfl) (by simp) ?_
                refine (AllReadyH.cons rfl ?_ (AllReadyH.cons rfl ?_ AllReadyH.nil))
                · intro K hK
                  refine ready_call rfl (some 33) rfl 51 #[.agg (numC R6.val)] (by go_simp) ?_
                  refine (sroot_any R6.val RT.val b R6.isLt hrt HRT HRT0 _).mono ?_
                  rintro e w99 ⟨rfl, hC⟩
                  refine ⟨_, rfl, ?_⟩
                  simp only [Act.put, sia, sc0, scs]
                  have hS := hS.call hC
                  have hz99 := hC.size
                  clear hC
                  refine hK.out _ _ hS ?_
                  clear hK K
                  intro _
                  have hSz := hS.size
                  refine takeAtK (i := 6) (v := .tuple #[.agg (numC RT.val), .bool b]) rfl (some 27) rfl (take_run rfl (fun _ _ => by go_simp)) hS ?_
                  simp only [Act.put, sia, sc0, scs]
                  refine takeAtK (i := 7) (v := .agg (numC RT.val)) rfl (some 34) rfl (take_run rfl (fun _ _ => by go_simp)) hS ?_
                  simp only [Act.put, sia, sc0, scs]
                  refine takeAtK (i := 8) (v := .bool b) rfl (some 35) rfl (take_run rfl (fun _ _ => by go_simp)) hS ?_
                  simp only [Act.put, sia, sc0, scs]
                  refine wpAnyH_ready (rs := [9]) (by kernel_rfl) (by simp) ?_
                  refine (AllReadyH.cons rfl ?_ AllReadyH.nil)
                  intro K hK
                  refine ready_run rfl (some 8) rfl (.pointer (some ⟨w99.heap.size, 0, none⟩)) (w99.alloc (.cells z4 43)) (by go_simp; try rfl) ?_
                  simp only [Act.put, sia, sc0, scs]
                  obtain ⟨w100, ea⟩ : ∃ u : World, u = w99.alloc (.cells z4 43) := ⟨_, rfl⟩
                  rw [← ea]
                  have hS := hS.alloc (.cells z4 43)
                  rw [← ea] at hS
                  have hz100 : w99.heap.size + 1 ≤ w100.heap.size := by rw [ea, alloc_size]; omega
                  have hy100 : w94.heap.size ≤ w99.heap.size := hSz
                  have xh8 : w100.heap[w99.heap.size]? = some (.cells (z4) 43 (0, 0)) := by rw [ea]; exact heap_new_at _ _ _ rfl
                  clear ea
                  refine hK.out _ _ hS ?_
                  clear hK K
                  intro _
                  have hSz := hS.size
                  refine wpAnyH_ready (rs := [10]) (by kernel_rfl) (by simp) ?_
                  refine (AllReadyH.cons rfl ?_ AllReadyH.nil)
                  intro K hK
                  rw [if_pos (by rfl)]
                  refine wp_store_row 43 _ _ rfl (w99.heap.size) (numC RT.val) rfl rfl 43 (z4) xh8 (infoNum_of (numC RT.val) (numC_size _)) (z4_size.trans (numC_size _).symm) (numC_one _) ?_
                  refine put_at (none) rfl ?_
                  simp only [Act.put, sia, sc0, scs]
                  have xh8 : (w100.setRow (w99.heap.size) (numC RT.val)).heap[w99.heap.size]? = some (.cells (numC RT.val) 43 (0, 0)) := (setRow_heap _ _ _ _ _ _ xh8)
                  have hS := hS.storeNew (numC RT.val) (show w94.heap.size ≤ w99.heap.size by omega)
                  generalize w100.setRow (w99.heap.size) (numC RT.val) = w101 at *
                  refine hK.out _ _ hS ?_
                  clear hK K
                  intro _
                  have hSz := hS.size
                  refine takeAtK (i := 11) (v := .bool b) rfl (some 9) rfl (take_run rfl (fun _ _ => by go_simp)) hS ?_
                  simp only [Act.put, sia, sc0, scs]
                  refine wpAnyH_done (by kernel_rfl) ?_ _
                  refine NoPanic.normal ?_
                  have hsz := hS.size
                  have h1 : w101.heap[w.heap.size]? = some (.cells (arrC N) 22 (0, 0)) := hS.old h1 (Nat.ne_of_lt (heap_lt h1))
                  have h2 : w101.heap[w.heap.size + 1]? = some (.cells (z12) 45 (0, 0)) := hS.old h2 (Nat.ne_of_lt (heap_lt h2))
                  have h4 : w101.heap[w1.heap.size]? = some (.cells (numC Y.val) 43 (0, 0)) := hS.old h4 (Nat.ne_of_lt (heap_lt h4))
                  have h5 : w101.heap[g5]? = some (.cells (numC R1.val) 43 (0, 0)) := hS.old h5 (Nat.ne_of_lt (heap_lt h5))
                  have h6 : w101.heap[g6]? = some (.cells (numC R2.val) 43 (0, 0)) := hS.old h6 (Nat.ne_of_lt (heap_lt h6))
                  have h7 : w101.heap[g7]? = some (.cells (numC R4.val) 43 (0, 0)) := hS.old h7 (Nat.ne_of_lt (heap_lt h7))
                  have h8 := xh8
                  have hBw101 : Hid (Below w.heap.size w w101) := Lib.hid (hBw94.out.trans (hS.below (by omega) hBw94.out.size))
                  clear hS
                  go_wp2_with fail
                  go_meet
                  exact ⟨w99.heap.size, rfl, Lib.hid (show w94.heap.size ≤ w99.heap.size by omega), Lib.hid h8, rfl, Lib.hid h1, Lib.hid h2, Lib.hid h4, Lib.hid h5, Lib.hid h6, Lib.hid h7, Lib.hid hBw101.out, Lib.hid (show w94.heap.size ≤ w101.heap.size by omega)⟩
                · intro K hK
                  refine ready_run rfl (some 8) rfl (.pointer (some ⟨w98.heap.size, 0, none⟩)) (w98.alloc (.cells z4 43)) (by go_simp; try rfl) ?_
                  simp only [Act.put, sia, sc0, scs]
                  obtain ⟨w103, ea⟩ : ∃ u : World, u = w98.alloc (.cells z4 43) := ⟨_, rfl⟩
                  rw [← ea]
                  have hS := hS.alloc (.cells z4 43)
                  rw [← ea] at hS
                  have hz103 : w98.heap.size + 1 ≤ w103.heap.size := by rw [ea, alloc_size]; omega
                  have hy103 : w94.heap.size ≤ w98.heap.size := hSz
                  have xh8 : w103.heap[w98.heap.size]? = some (.cells (z4) 43 (0, 0)) := by rw [ea]; exact heap_new_at _ _ _ rfl
                  clear ea
                  refine hK.out _ _ hS ?_
                  clear hK K
                  intro _
                  have hSz := hS.size
                  refine wpAnyH_ready (rs := [5]) (by kernel_rfl) (by simp) ?_
                  refine (AllReadyH.cons rfl ?_ AllReadyH.nil)
                  intro K hK
                  refine ready_call rfl (some 33) rfl 51 #[.agg (numC R6.val)] (by go_simp) ?_
                  refine (sroot_any R6.val RT.val b R6.isLt hrt HRT HRT0 _).mono ?_
                  rintro e w104 ⟨rfl, hC⟩
                  refine ⟨_, rfl, ?_⟩
                  simp only [Act.put, sia, sc0, scs]
                  have xh8 : w104.heap[w98.heap.size]? = some (.cells (z4) 43 (0, 0)) := (heap_call hC xh8)
                  have hS := hS.call hC
                  have hz104 := hC.size
                  clear hC
                  refine hK.out _ _ hS ?_
                  clear hK K
                  intro _
                  have hSz := hS.size
                  refine takeAtK (i := 6) (v := .tuple #[.agg (numC RT.val), .bool b]) rfl (some 27) rfl (take_run rfl (fun _ _ => by go_simp)) hS ?_
                  simp only [Act.put, sia, sc0, scs]
                  refine takeAtK (i := 7) (v := .agg (numC RT.val)) rfl (some 34) rfl (take_run rfl (fun _ _ => by go_simp)) hS ?_
                  simp only [Act.put, sia, sc0, scs]
                  refine takeAtK (i := 8) (v := .bool b) rfl (some 35) rfl (take_run rfl (fun _ _ => by go_simp)) hS ?_
                  simp only [Act.put, sia, sc0, scs]
                  refine wpAnyH_ready (rs := [10]) (by kernel_rfl) (by simp) ?_
                  refine (AllReadyH.cons rfl ?_ AllReadyH.nil)
                  intro K hK
                  rw [if_pos (by rfl)]
                  refine wp_store_row 43 _ _ rfl (w98.heap.size) (numC RT.val) rfl rfl 43 (z4) xh8 (infoNum_of (numC RT.val) (numC_size _)) (z4_size.trans (numC_size _).symm) (numC_one _) ?_
                  refine put_at (none) rfl ?_
                  simp only [Act.put, sia, sc0, scs]
                  have xh8 : (w104.setRow (w98.heap.size) (numC RT.val)).heap[w98.heap.size]? = some (.cells (numC RT.val) 43 (0, 0)) := (setRow_heap _ _ _ _ _ _ xh8)
                  have hS := hS.storeNew (numC RT.val) (show w94.heap.size ≤ w98.heap.size by omega)
                  generalize w104.setRow (w98.heap.size) (numC RT.val) = w105 at *
                  refine hK.out _ _ hS ?_
                  clear hK K
                  intro _
                  have hSz := hS.size
                  refine takeAtK (i := 11) (v := .bool b) rfl (some 9) rfl (take_run rfl (fun _ _ => by go_simp)) hS ?_
                  simp only [Act.put, sia, sc0, scs]
                  refine wpAnyH_done (by kernel_rfl) ?_ _
                  refine NoPanic.normal ?_
                  have hsz := hS.size
                  have h1 : w105.heap[w.heap.size]? = some (.cells (arrC N) 22 (0, 0)) := hS.old h1 (Nat.ne_of_lt (heap_lt h1))
                  have h2 : w105.heap[w.heap.size + 1]? = some (.cells (z12) 45 (0, 0)) := hS.old h2 (Nat.ne_of_lt (heap_lt h2))
                  have h4 : w105.heap[w1.heap.size]? = some (.cells (numC Y.val) 43 (0, 0)) := hS.old h4 (Nat.ne_of_lt (heap_lt h4))
                  have h5 : w105.heap[g5]? = some (.cells (numC R1.val) 43 (0, 0)) := hS.old h5 (Nat.ne_of_lt (heap_lt h5))
                  have h6 : w105.heap[g6]? = some (.cells (numC R2.val) 43 (0, 0)) := hS.old h6 (Nat.ne_of_lt (heap_lt h6))
                  have h7 : w105.heap[g7]? = some (.cells (numC R4.val) 43 (0, 0)) := hS.old h7 (Nat.ne_of_lt (heap_lt h7))
                  have h8 := xh8
                  have hBw105 : Hid (Below w.heap.size w w105) := Lib.hid (hBw94.out.trans (hS.below (by omega) hBw94.out.size))
                  clear hS
                  go_wp2_with fail
                  go_meet
                  exact ⟨w98.heap.size, rfl, Lib.hid (show w94.heap.size ≤ w98.heap.size by omega), Lib.hid h8, rfl, Lib.hid h1, Lib.hid h2, Lib.hid h4, Lib.hid h5, Lib.hid h6, Lib.hid h7, Lib.hid hBw105.out, Lib.hid (show w94.heap.size ≤ w105.heap.size by omega)⟩
              · intro K hK
                refine ready_run rfl (some 8) rfl (.pointer (some ⟨w97.heap.size, 0, none⟩)) (w97.alloc (.cells z4 43)) (by go_simp; try rfl) ?_
                simp only [Act.put, sia, sc0, scs]
                obtain ⟨w107, ea⟩ : ∃ u : World, u = w97.alloc (.cells z4 43) := ⟨_, rfl⟩
                rw [← ea]
                have hS := hS.alloc (.cells z4 43)
                rw [← ea] at hS
                have hz107 : w97.heap.size + 1 ≤ w107.heap.size := by rw [ea, alloc_size]; omega
                have hy107 : w94.heap.size ≤ w97.heap.size := hSz
                have xh8 : w107.heap[w97.heap.size]? = some (.cells (z4) 43 (0, 0)) := by rw [ea]; exact heap_new_at _ _ _ rfl
                clear ea
                refine hK.out _ _ hS ?_
                clear hK K
                intro _
                have hSz := hS.size
                refine wpAnyH_ready (rs := [4]) (by kernel_rfl) (by simp) ?_
                refine (AllReadyH.cons rfl ?_ AllReadyH.nil)
                intro K hK
                refine ready_call rfl (some 32) rfl 45 #[.agg (numC R2.val), .agg (numC R5.val), .agg (numC pF)] (by go_simp) ?_
                refine (stimes_ff R2 R5 R6 HR6 _).mono ?_
                rintro e w108 ⟨rfl, hC⟩
                refine ⟨_, rfl, ?_⟩
                simp only [Act.put, sia, sc0, scs]
                have xh8 : w108.heap[w97.heap.size]? = some (.cells (z4) 43 (0, 0)) := (heap_call hC xh8)
                have hS := hS.call hC
                have hz108 := hC.size
                clear hC
                refine hK.out _ _ hS ?_
                clear hK K
                intro _
                have hSz := hS.size
                refine wpAnyH_ready (rs := [5]) (by kernel_rfl) (by simp) ?_
                refine (AllReadyH.cons rfl ?_ AllReadyH.nil)
                intro K hK
                refine ready_call rfl (some 33) rfl 51 #[.agg (numC R6.val)] (by go_simp) ?_
                refine (sroot_any R6.val RT.val b R6.isLt hrt HRT HRT0 _).mono ?_
                rintro e w109 ⟨rfl, hC⟩
                refine ⟨_, rfl, ?_⟩
                simp only [Act.put, sia, sc0, scs]
                have xh8 : w109.heap[w97.heap.size]? = some (.cells (z4) 43 (0, 0)) := (heap_call hC xh8)
                have hS := hS.call hC
                have hz109 := hC.size
                clear hC
                refine hK.out _ _ hS ?_
                clear hK K
                intro _
                have hSz := hS.size
                refine takeAtK (i := 6) (v := .tuple #[.agg (numC RT.val), .bool b]) rfl (some 27) rfl (take_run rfl (fun _ _ => by go_simp)) hS ?_
                simp only [Act.put, sia, sc0, scs]
                refine takeAtK (i := 7) (v := .agg (numC RT.val)) rfl (some 34) rfl (take_run rfl (fun _ _ => by go_simp)) hS ?_
                simp only [Act.put, sia, sc0, scs]
                refine takeAtK (i := 8) (v := .bool b) rfl (some 35) rfl (take_run rfl (fun _ _ => by go_simp)) hS ?_
                simp only [Act.put, sia, sc0, scs]
                refine wpAnyH_ready (rs := [10]) (by kernel_rfl) (by simp) ?_
                refine (AllReadyH.cons rfl ?_ AllReadyH.nil)
                intro K hK
                rw [if_pos (by rfl)]
                refine wp_store_row 43 _ _ rfl (w97.heap.size) (numC RT.val) rfl rfl 43 (z4) xh8 (infoNum_of (numC RT.val) (numC_size _)) (z4_size.trans (numC_size _).symm) (numC_one _) ?_
                refine put_at (none) rfl ?_
                simp only [Act.put, sia, sc0, scs]
                have xh8 : (w109.setRow (w97.heap.size) (numC RT.val)).heap[w97.heap.size]? = some (.cells (numC RT.val) 43 (0, 0)) := (setRow_heap _ _ _ _ _ _ xh8)
                have hS := hS.storeNew (numC RT.val) (show w94.heap.size ≤ w97.heap.size by omega)
                generalize w109.setRow (w97.heap.size) (numC RT.val) = w110 at *
                refine hK.out _ _ hS ?_
                clear hK K
                intro _
                have hSz := hS.size
                refine takeAtK (i := 11) (v := .bool b) rfl (some 9) rfl (take_run rfl (fun _ _ => by go_simp)) hS ?_
                simp only [Act.put, sia, sc0, scs]
                refine wpAnyH_done (by kernel_rfl) ?_ _
                refine NoPanic.normal ?_
                have hsz := hS.size
                have h1 : w110.heap[w.heap.size]? = some (.cells (arrC N) 22 (0, 0)) := hS.old h1 (Nat.ne_of_lt (heap_lt h1))
                have h2 : w110.heap[w.heap.size + 1]? = some (.cells (z12) 45 (0, 0)) := hS.old h2 (Nat.ne_of_lt (heap_lt h2))
                have h4 : w110.heap[w1.heap.size]? = some (.cells (numC Y.val) 43 (0, 0)) := hS.old h4 (Nat.ne_of_lt (heap_lt h4))
                have h5 : w110.heap[g5]? = some (.cells (numC R1.val) 43 (0, 0)) := hS.old h5 (Nat.ne_of_lt (heap_lt h5))
                have h6 : w110.heap[g6]? = some (.cells (numC R2.val) 43 (0, 0)) := hS.old h6 (Nat.ne_of_lt (heap_lt h6))
                have h7 : w110.heap[g7]? = some (.cells (numC R4.val) 43 (0, 0)) := hS.old h7 (Nat.ne_of_lt (heap_lt h7))
                have h8 := xh8
                have hBw110 : Hid (Below w.heap.size w w110) := Lib.hid (hBw94.out.trans (hS.below (by omega) hBw94.out.size))
                clear hS
                go_wp2_with fail
                go_meet
                exact ⟨w97.heap.size, rfl, Lib.hid (show w94.heap.size ≤ w97.heap.size by omega), Lib.hid h8, rfl, Lib.hid h1, Lib.hid h2, Lib.hid h4, Lib.hid h5, Lib.hid h6, Lib.hid h7, Lib.hid hBw110.out, Lib.hid (show w94.heap.size ≤ w110.heap.size by omega)⟩
            · intro K hK
              refine ready_run rfl (some 8) rfl (.pointer (some ⟨w96.heap.size, 0, none⟩)) (w96.alloc (.cells z4 43)) (by go_simp; try rfl) ?_
              simp only [Act.put, sia, sc0, scs]
              obtain ⟨w112, ea⟩ : ∃ u : World, u = w96.alloc (.cells z4 43) := ⟨_, rfl⟩
              rw [← ea]
              have hS := hS.alloc (.cells z4 43)
              rw [← ea] at hS
              have hz112 : w96.heap.size + 1 ≤ w112.heap.size := by rw [ea, alloc_size]; omega
              have hy112 : w94.heap.size ≤ w96.heap.size := hSz
              have xh8 : w112.heap[w96.heap.size]? = some (.cells (z4) 43 (0, 0)) := by rw [ea]; exact heap_new_at _ _ _ rfl
              clear ea
              refine hK.out _ _ hS ?_
              clear hK K
              intro _
              have hSz := hS.size
              refine wpAnyH_ready (rs := [3]) (by kernel_rfl) (by simp) ?_
              refine (AllReadyH.cons rfl ?_ AllReadyH.nil)
              intro K hK
              refine ready_call rfl (some 31) rfl 46 #[] (by go_simp) ?_
              refine (prime_any _).mono ?_
              rintro e w113 ⟨rfl, hC⟩
              refine ⟨_, rfl, ?_⟩
              simp only [Act.put, sia, sc0, scs]
              have xh8 : w113.heap[w96.heap.size]? = some (.cells (z4) 43 (0, 0)) := (heap_call hC xh8)
              have hS := hS.call hC
              have hz113 := hC.size
              clear hC
              refine hK.out _ _ hS ?_
              clear hK K
              intro _
              have hSz := hS.size
              refine wpAnyH_ready (rs := [4]) (by kernel_rfl) (by simp) ?_
              refine (AllReadyH.cons rfl ?_ AllReadyH.nil)
              intro K hK
              refine ready_call rfl (some 32) rfl 45 #[.agg (numC R2.val), .agg (numC R5.val), .agg (numC pF)] (by go_simp) ?_
              refine (stimes_ff R2 R5 R6 HR6 _).mono ?_
              rintro e w114 ⟨rfl, hC⟩
              refine ⟨_, rfl, ?_⟩
              simp only [Act.put, sia, sc0, scs]
              have xh8 : w114.heap[w96.heap.size]? = some (.cells (z4) 43 (0, 0)) := (heap_call hC xh8)
              have hS := hS.call hC
              have hz114 := hC.size
              clear hC
              refine hK.out _ _ hS ?_
              clear hK K
              intro _
              have hSz := hS.size
              refine wpAnyH_ready (rs := [5]) (by kernel_rfl) (by simp) ?_
              refine (AllReadyH.cons rfl ?_ AllReadyH.nil)
              intro K hK
              refine ready_call rfl (some 33) rfl 51 #[.agg (numC R6.val)] (by go_simp) ?_
              refine (sroot_any R6.val RT.val b R6.isLt hrt HRT HRT0 _).mono ?_
              rintro e w115 ⟨rfl, hC⟩
              refine ⟨_, rfl, ?_⟩
              simp only [Act.put, sia, sc0, scs]
              have xh8 : w115.heap[w96.heap.size]? = some (.cells (z4) 43 (0, 0)) := (heap_call hC xh8)
              have hS := hS.call hC
              have hz115 := hC.size
              clear hC
              refine hK.out _ _ hS ?_
              clear hK K
              intro _
              have hSz := hS.size
              refine takeAtK (i := 6) (v := .tuple #[.agg (numC RT.val), .bool b]) rfl (some 27) rfl (take_run rfl (fun _ _ => by go_simp)) hS ?_
              simp only [Act.put, sia, sc0, scs]
              refine takeAtK (i := 7) (v := .agg (numC RT.val)) rfl (some 34) rfl (take_run rfl (fun _ _ => by go_simp)) hS ?_
              simp only [Act.put, sia, sc0, scs]
              refine takeAtK (i := 8) (v := .bool b) rfl (some 35) rfl (take_run rfl (fun _ _ => by go_simp)) hS ?_
              simp only [Act.put, sia, sc0, scs]
              refine wpAnyH_ready (rs := [10]) (by kernel_rfl) (by simp) ?_
              refine (AllReadyH.cons rfl ?_ AllReadyH.nil)
              intro K hK
              rw [if_pos (by rfl)]
              refine wp_store_row 43 _ _ rfl (w96.heap.size) (numC RT.val) rfl rfl 43 (z4) xh8 (infoNum_of (numC RT.val) (numC_size _)) (z4_size.trans (numC_size _).symm) (numC_one _) ?_
              refine put_at (none) rfl ?_
              simp only [Act.put, sia, sc0, scs]
              have xh8 : (w115.setRow (w96.heap.size) (numC RT.val)).heap[w96.heap.size]? = some (.cells (numC RT.val) 43 (0, 0)) := (setRow_heap _ _ _ _ _ _ xh8)
              have hS := hS.storeNew (numC RT.val) (show w94.heap.size ≤ w96.heap.size by omega)
              generalize w115.setRow (w96.heap.size) (numC RT.val) = w116 at *
              refine hK.out _ _ hS ?_
              clear hK K
              intro _
              have hSz := hS.size
              refine takeAtK (i := 11) (v := .bool b) rfl (some 9) rfl (take_run rfl (fun _ _ => by go_simp)) hS ?_
              simp only [Act.put, sia, sc0, scs]
              refine wpAnyH_done (by kernel_rfl) ?_ _
              refine NoPanic.normal ?_
              have hsz := hS.size
              have h1 : w116.heap[w.heap.size]? = some (.cells (arrC N) 22 (0, 0)) := hS.old h1 (Nat.ne_of_lt (heap_lt h1))
              have h2 : w116.heap[w.heap.size + 1]? = some (.cells (z12) 45 (0, 0)) := hS.old h2 (Nat.ne_of_lt (heap_lt h2))
              have h4 : w116.heap[w1.heap.size]? = some (.cells (numC Y.val) 43 (0, 0)) := hS.old h4 (Nat.ne_of_lt (heap_lt h4))
              have h5 : w116.heap[g5]? = some (.cells (numC R1.val) 43 (0, 0)) := hS.old h5 (Nat.ne_of_lt (heap_lt h5))
              have h6 : w116.heap[g6]? = some (.cells (numC R2.val) 43 (0, 0)) := hS.old h6 (Nat.ne_of_lt (heap_lt h6))
              have h7 : w116.heap[g7]? = some (.cells (numC R4.val) 43 (0, 0)) := hS.old h7 (Nat.ne_of_lt (heap_lt h7))
              have h8 := xh8
              have hBw116 : Hid (Below w.heap.size w w116) := Lib.hid (hBw94.out.trans (hS.below (by omega) hBw94.out.size))
              clear hS
              go_wp2_with fail
              go_meet
              exact ⟨w96.heap.size, rfl, Lib.hid (show w94.heap.size ≤ w96.heap.size by omega), Lib.hid h8, rfl, Lib.hid h1, Lib.hid h2, Lib.hid h4, Lib.hid h5, Lib.hid h6, Lib.hid h7, Lib.hid hBw116.out, Lib.hid (show w94.heap.size ≤ w116.heap.size by omega)⟩
          · intro K hK
            refine ready_run rfl (some 8) rfl (.pointer (some ⟨w95.heap.size, 0, none⟩)) (w95.alloc (.cells z4 43)) (by go_simp; try rfl) ?_
            simp only [Act.put, sia, sc0, scs]
            obtain ⟨w118, ea⟩ : ∃ u : World, u = w95.alloc (.cells z4 43) := ⟨_, rfl⟩
            rw [← ea]
            have hS := hS.alloc (.cells z4 43)
            rw [← ea] at hS
            have hz118 : w95.heap.size + 1 ≤ w118.heap.size := by rw [ea, alloc_size]; omega
            have hy118 : w94.heap.size ≤ w95.heap.size := hSz
            have xh8 : w118.heap[w95.heap.size]? = some (.cells (z4) 43 (0, 0)) := by rw [ea]; exact heap_new_at _ _ _ rfl
            clear ea
            refine hK.out _ _ hS ?_
            clear hK K
            intro _
            have hSz := hS.size
            refine wpAnyH_ready (rs := [2]) (by kernel_rfl) (by simp) ?_
            refine (AllReadyH.cons rfl ?_ AllReadyH.nil)
            intro K hK
            refine ready_call rfl (some 30) rfl 52 #[.agg (numC R4.val)] (by go_simp) ?_
            refine (sinverse_ff R4 R5 HR5 _).mono ?_
            rintro e w119 ⟨rfl, hC⟩
            refine ⟨_, rfl, ?_⟩
            simp only [Act.put, sia, sc0, scs]
            have xh8 : w119.heap[w95.heap.size]? = some (.cells (z4) 43 (0, 0)) := (heap_call hC xh8)
            have hS := hS.call hC
            have hz119 := hC.size
            clear hC
            refine hK.out _ _ hS ?_
            clear hK K
            intro _
            have hSz := hS.size
            refine wpAnyH_ready (rs := [3]) (by kernel_rfl) (by simp) ?_
            refine (AllReadyH.cons rfl ?_ AllReadyH.nil)
            intro K hK
            refine ready_call rfl (some 31) rfl 46 #[] (by go_simp) ?_
            refine (prime_any _).mono ?_
            rintro e w120 ⟨rfl, hC⟩
            refine ⟨_, rfl, ?_⟩
            simp only [Act.put, sia, sc0, scs]
            have xh8 : w120.heap[w95.heap.size]? = some (.cells (z4) 43 (0, 0)) := (heap_call hC xh8)
            have hS := hS.call hC
            have hz120 := hC.size
            clear hC
            refine hK.out _ _ hS ?_
            clear hK K
            intro _
            have hSz := hS.size
            refine wpAnyH_ready (rs := [4]) (by kernel_rfl) (by simp) ?_
            refine (AllReadyH.cons rfl ?_ AllReadyH.nil)
            intro K hK
            refine ready_call rfl (some 32) rfl 45 #[.agg (numC R2.val), .agg (numC R5.val), .agg (numC pF)] (by go_simp) ?_
            refine (stimes_ff R2 R5 R6 HR6 _).mono ?_
            rintro e w121 ⟨rfl, hC⟩
            refine ⟨_, rfl, ?_⟩
            simp only [Act.put, sia, sc0, scs]
            have xh8 : w121.heap[w95.heap.size]? = some (.cells (z4) 43 (0, 0)) := (heap_call hC xh8)
            have hS := hS.call hC
            have hz121 := hC.size
            clear hC
            refine hK.out _ _ hS ?_
            clear hK K
            intro _
            have hSz := hS.size
            refine wpAnyH_ready (rs := [5]) (by kernel_rfl) (by simp) ?_
            refine (AllReadyH.cons rfl ?_ AllReadyH.nil)
            intro K hK
            refine ready_call rfl (some 33) rfl 51 #[.agg (numC R6.val)] (by go_simp) ?_
            refine (sroot_any R6.val RT.val b R6.isLt hrt HRT HRT0 _).mono ?_
            rintro e w122 ⟨rfl, hC⟩
            refine ⟨_, rfl, ?_⟩
            simp only [Act.put, sia, sc0, scs]
            have xh8 : w122.heap[w95.heap.size]? = some (.cells (z4) 43 (0, 0)) := (heap_call hC xh8)
            have hS := hS.call hC
            have hz122 := hC.size
            clear hC
            refine hK.out _ _ hS ?_
            clear hK K
            intro _
            have hSz := hS.size
            refine takeAtK (i := 6) (v := .tuple #[.agg (numC RT.val), .bool b]) rfl (some 27) rfl (take_run rfl (fun _ _ => by go_simp)) hS ?_
            simp only [Act.put, sia, sc0, scs]
            refine takeAtK (i := 7) (v := .agg (numC RT.val)) rfl (some 34) rfl (take_run rfl (fun _ _ => by go_simp)) hS ?_
            simp only [Act.put, sia, sc0, scs]
            refine takeAtK (i := 8) (v := .bool b) rfl (some 35) rfl (take_run rfl (fun _ _ => by go_simp)) hS ?_
            simp only [Act.put, sia, sc0, scs]
            refine wpAnyH_ready (rs := [10]) (by kernel_rfl) (by simp) ?_
            refine (AllReadyH.cons rfl ?_ AllReadyH.nil)
            intro K hK
            rw [if_pos (by rfl)]
            refine wp_store_row 43 _ _ rfl (w95.heap.size) (numC RT.val) rfl rfl 43 (z4) xh8 (infoNum_of (numC RT.val) (numC_size _)) (z4_size.trans (numC_size _).symm) (numC_one _) ?_
            refine put_at (none) rfl ?_
            simp only [Act.put, sia, sc0, scs]
            have xh8 : (w122.setRow (w95.heap.size) (numC RT.val)).heap[w95.heap.size]? = some (.cells (numC RT.val) 43 (0, 0)) := (setRow_heap _ _ _ _ _ _ xh8)
            have hS := hS.storeNew (numC RT.val) (show w94.heap.size ≤ w95.heap.size by omega)
            generalize w122.setRow (w95.heap.size) (numC RT.val) = w123 at *
            refine hK.out _ _ hS ?_
            clear hK K
            intro _
            have hSz := hS.size
            refine takeAtK (i := 11) (v := .bool b) rfl (some 9) rfl (take_run rfl (fun _ _ => by go_simp)) hS ?_
            simp only [Act.put, sia, sc0, scs]
            refine wpAnyH_done (by kernel_rfl) ?_ _
            refine NoPanic.normal ?_
            have hsz := hS.size
            have h1 : w123.heap[w.heap.size]? = some (.cells (arrC N) 22 (0, 0)) := hS.old h1 (Nat.ne_of_lt (heap_lt h1))
            have h2 : w123.heap[w.heap.size + 1]? = some (.cells (z12) 45 (0, 0)) := hS.old h2 (Nat.ne_of_lt (heap_lt h2))
            have h4 : w123.heap[w1.heap.size]? = some (.cells (numC Y.val) 43 (0, 0)) := hS.old h4 (Nat.ne_of_lt (heap_lt h4))
            have h5 : w123.heap[g5]? = some (.cells (numC R1.val) 43 (0, 0)) := hS.old h5 (Nat.ne_of_lt (heap_lt h5))
            have h6 : w123.heap[g6]? = some (.cells (numC R2.val) 43 (0, 0)) := hS.old h6 (Nat.ne_of_lt (heap_lt h6))
            have h7 : w123.heap[g7]? = some (.cells (numC R4.val) 43 (0, 0)) := hS.old h7 (Nat.ne_of_lt (heap_lt h7))
            have h8 := xh8
            have hBw123 : Hid (Below w.heap.size w w123) := Lib.hid (hBw94.out.trans (hS.below (by omega) hBw94.out.size))
            clear hS
            go_wp2_with fail
            go_meet
            exact ⟨w95.heap.size, rfl, Lib.hid (show w94.heap.size ≤ w95.heap.size by omega), Lib.hid h8, rfl, Lib.hid h1, Lib.hid h2, Lib.hid h4, Lib.hid h5, Lib.hid h6, Lib.hid h7, Lib.hid hBw123.out, Lib.hid (show w94.heap.size ≤ w123.heap.size by omega)⟩
        case rest =>
          obtain ⟨g8, rfl, Hg8, Hh8, rfl, Hh1, Hh2, Hh4, Hh5, Hh6, Hh7, hBw125, Hsz125⟩ := hcut
          obtain ⟨w125, rfl⟩ : ∃ u : World, u = wc := ⟨_, rfl⟩
          have hgl8 := Hg8.out
          have h8 := Hh8.out
          have hgu8 := heap_lt h8
          have h1 := Hh1.out
          have h2 := Hh2.out
          have h4 := Hh4.out
          have h5 := Hh5.out
          have h6 := Hh6.out
          have h7 := Hh7.out
          have hsz125 := Hsz125.out
          cases b
          · go_wp2_with (first
              | ((with_reducible refine at_store 2 ?_); refine wpList_store_row rfl 45 _ _ rfl (w.heap.size + 1) (z12) rfl rfl 45 (z12) h2 (infoPt_of (z12) z12_size) (z12_size.trans z12_size.symm) z12_one ?_))
            refine bodyPost_ret (results_row_tmp rfl _ _ (w.heap.size + 1) 45 (z12) (0, 0) _ rfl (setRow_heap _ _ _ _ _ _ h2) underPt rfl (infoPt_of (z12) z12_size)) rfl ⟨by rw [Hcs.out]; rfl, (below_setRow hBw125.out (by omega) _)⟩
          · by_cases hs : N / 57896044618658097711785492504343953926634992332820282019728792003956564819968 = 1
            · have c31 := (Row.ofArr h1).cell (i := 31) (by omega)
              simp only [Nat.zero_add] at c31
              unfold byV at c31
              have hB : 128 ≤ byteN N 31 := by rw [top_bit N lN]; exact hs
              generalize byteN N 31 = B31 at c31 hB
              have HX : Hid (XR = -RT) := Lib.hid (by rw [HXR.out, if_pos hs])
              go_wp2_with (first
                | ((with_reducible refine at_dst 42 ?_); refine wpList_load_row rfl 43 _ rfl (g8) rfl 43 (numC RT.val) (0, 0) _ h8 underNum rfl (infoNum_of (numC RT.val) (numC_size _)) ?_))
              refine (sopposite_ff RT XR HX _).mono ?_
              rintro e w126 ⟨rfl, hC126⟩
              have hs126 : w125.heap.size ≤ w126.heap.size := by have := hC126.size; (try simp only [alloc_size, setRow_size] at this); omega
              replace h1 : w126.heap[w.heap.size]? = some (.cells (arrC N) 22 (0, 0)) := (heap_call hC126 h1)
              replace h2 : w126.heap[w.heap.size + 1]? = some (.cells (z12) 45 (0, 0)) := (heap_call hC126 h2)
              replace h4 : w126.heap[w1.heap.size]? = some (.cells (numC Y.val) 43 (0, 0)) := (heap_call hC126 h4)
              replace h5 : w126.heap[g5]? = some (.cells (numC R1.val) 43 (0, 0)) := (heap_call hC126 h5)
              replace h6 : w126.heap[g6]? = some (.cells (numC R2.val) 43 (0, 0)) := (heap_call hC126 h6)
              replace h7 : w126.heap[g7]? = some (.cells (numC R4.val) 43 (0, 0)) := (heap_call hC126 h7)
              replace h8 : w126.heap[g8]? = some (.cells (numC RT.val) 43 (0, 0)) := (heap_call hC126 h8)
              have hBw126 : Hid (Below w.heap.size w w126) := Lib.hid (below_call hBw125.out hC126)
              clear hC126
              go_wp2_with (first
                | ((with_reducible refine at_store 8 ?_); refine wpList_store_row rfl 43 _ _ rfl (g8) (numC XR.val) rfl rfl 43 (numC RT.val) h8 (infoNum_of (numC XR.val) (numC_size _)) ((numC_size _).trans (numC_size _).symm) (numC_one _) ?_))
              try simp only [Act.put]
              refine wp_named ?_
              intro w127 ew127
              have hs127 : w126.heap.size ≤ w127.heap.size := by rw [ew127]; (try simp only [alloc_size, setRow_size]); omega
              replace h1 : w127.heap[w.heap.size]? = some (.cells (arrC N) 22 (0, 0)) := by rw [ew127]; exact (heap_row _ (by omega) h1)
              replace h2 : w127.heap[w.heap.size + 1]? = some (.cells (z12) 45 (0, 0)) := by rw [ew127]; exact (heap_row _ (by omega) h2)
              replace h4 : w127.heap[w1.heap.size]? = some (.cells (numC Y.val) 43 (0, 0)) := by rw [ew127]; exact (heap_row _ (by omega) h4)
              replace h5 : w127.heap[g5]? = some (.cells (numC R1.val) 43 (0, 0)) := by rw [ew127]; exact (heap_row _ (by omega) h5)
              replace h6 : w127.heap[g6]? = some (.cells (numC R2.val) 43 (0, 0)) := by rw [ew127]; exact (heap_row _ (by omega) h6)
              replace h7 : w127.heap[g7]? = some (.cells (numC R4.val) 43 (0, 0)) := by rw [ew127]; exact (heap_row _ (by omega) h7)
              replace h8 : w127.heap[g8]? = some (.cells (numC XR.val) 43 (0, 0)) := by rw [ew127]; exact (setRow_heap _ _ _ _ _ _ h8)
              have hBw127 : Hid (Below w.heap.size w w127) := Lib.hid (by rw [ew127]; exact (below_setRow hBw126.out (by omega) _))
              clear ew127
              refine wp_region_noPanic ?_
              refine wp_region_held_drew (S := Keep (w.heap.size + 1) w127) (by kernel_rfl) (Keep.start _ _) ?_
              intro hS
              obtain ⟨w128, ed⟩ : ∃ u : World, u = w127.drew := ⟨_, rfl⟩
              rw [← ed] at hS ⊢
              have xh1 : w128.heap[w.heap.size]? = some (.cells (arrC N) 22 (0, 0)) := by rw [ed]; exact h1
              have xh2 : w128.heap[w.heap.size + 1]? = some (.cells (z12) 45 (0, 0)) := by rw [ed]; exact h2
              have xh4 : w128.heap[w1.heap.size]? = some (.cells (numC Y.val) 43 (0, 0)) := by rw [ed]; exact h4
              have xh5 : w128.heap[g5]? = some (.cells (numC R1.val) 43 (0, 0)) := by rw [ed]; exact h5
              have xh6 : w128.heap[g6]? = some (.cells (numC R2.val) 43 (0, 0)) := by rw [ed]; exact h6
              have xh7 : w128.heap[g7]? = some (.cells (numC R4.val) 43 (0, 0)) := by rw [ed]; exact h7
              have xh8 : w128.heap[g8]? = some (.cells (numC XR.val) 43 (0, 0)) := by rw [ed]; exact h8
              clear ed
              have hSz := hS.size
              clear xh1
              clear xh4
              clear xh5
              clear xh6
              clear xh7
              clear xh8
              refine takeAtK (i := 0) (v := .agg (numC XR.val)) rfl (some 44) rfl (take_row rfl _ _ rfl (g8) rfl _ _ _ h8 (by omega) underNum rfl (infoNum_of (numC XR.val) (numC_size _))) hS ?_
              simp only [Act.put, sia, sc0, scs]
              refine takeAtK (i := 1) (v := .agg (numC Y.val)) rfl (some 45) rfl (take_row rfl _ _ rfl (w1.heap.size) rfl _ _ _ h4 (by omega) underNum rfl (infoNum_of (numC Y.val) (numC_size _))) hS ?_
              simp only [Act.put, sia, sc0, scs]
              refine wpAnyH_ready (rs := [2]) (by kernel_rfl) (by simp) ?_
              refine (AllReadyH.cons rfl ?_ AllReadyH.nil)
              intro K hK
              refine ready_call rfl (some 46) rfl 48 #[.int .u64 1] (by go_simp) ?_
              refine (sone_ff _).mono ?_
              rintro e w129 ⟨rfl, hC⟩
              refine ⟨_, rfl, ?_⟩
              simp only [Act.put, sia, sc0, scs]
              have xh2 : w129.heap[w.heap.size + 1]? = some (.cells (z12) 45 (0, 0)) := (heap_call hC xh2)
              have hS := hS.call hC
              have hz129 := hC.size
              clear hC
              refine hK.out _ _ hS ?_
              clear hK K
              intro _
              have hSz := hS.size
              refine takeAtK (i := 3) (v := .agg (ptC (XR.val) (Y.val) ((1 : Fp).val))) rfl (some 47) rfl (take_built rfl 45 _ rfl (ptC (XR.val) (Y.val) ((1 : Fp).val)) (by kernel_rfl)) hS ?_
              simp only [Act.put, sia, sc0, scs]
              refine wpAnyH_ready (rs := [4]) (by kernel_rfl) (by simp) ?_
              refine (AllReadyH.cons rfl ?_ AllReadyH.nil)
              intro K hK
              rw [if_pos (by rfl)]
              refine wp_store_row 45 _ _ rfl (w.heap.size + 1) (ptC (XR.val) (Y.val) ((1 : Fp).val)) rfl rfl 45 (z12) xh2 (infoPt_of (ptC (XR.val) (Y.val) ((1 : Fp).val)) (ptC_size _ _ _)) (z12_size.trans (ptC_size _ _ _).symm) (ptC_one _ _ _) ?_
              refine put_at (none) rfl ?_
              simp only [Act.put, sia, sc0, scs]
              have xh2 : (w129.setRow (w.heap.size + 1) (ptC (XR.val) (Y.val) ((1 : Fp).val))).heap[w.heap.size + 1]? = some (.cells (ptC (XR.val) (Y.val) ((1 : Fp).val)) 45 (0, 0)) := (setRow_heap _ _ _ _ _ _ xh2)
              have hS := hS.store (ptC (XR.val) (Y.val) ((1 : Fp).val))
              generalize w129.setRow (w.heap.size + 1) (ptC (XR.val) (Y.val) ((1 : Fp).val)) = w130 at *
              refine hK.out _ _ hS ?_
              clear hK K
              intro _
              have hSz := hS.size
              refine takeAtK (i := 5) (v := .bool true) rfl (some 3) rfl (take_run rfl (fun _ _ => by go_simp)) hS ?_
              simp only [Act.put, sia, sc0, scs]
              refine wpAnyH_done (by kernel_rfl) ?_ _
              refine NoPanic.normal ?_
              have hsz := hS.size
              have h1 : w130.heap[w.heap.size]? = some (.cells (arrC N) 22 (0, 0)) := hS.old h1 (by omega)
              have h4 : w130.heap[w1.heap.size]? = some (.cells (numC Y.val) 43 (0, 0)) := hS.old h4 (by omega)
              have h5 : w130.heap[g5]? = some (.cells (numC R1.val) 43 (0, 0)) := hS.old h5 (by omega)
              have h6 : w130.heap[g6]? = some (.cells (numC R2.val) 43 (0, 0)) := hS.old h6 (by omega)
              have h7 : w130.heap[g7]? = some (.cells (numC R4.val) 43 (0, 0)) := hS.old h7 (by omega)
              have h8 : w130.heap[g8]? = some (.cells (numC XR.val) 43 (0, 0)) := hS.old h8 (by omega)
              have h2 := xh2
              have hBw130 : Hid (Below w.heap.size w w130) := Lib.hid (hBw127.out.trans (hS.below (by omega) hBw127.out.size))
              clear hS
              go_wp2
              refine bodyPost_ret (results_row_tmp rfl _ _ (w.heap.size + 1) 45 (ptC (XR.val) (Y.val) ((1 : Fp).val)) (0, 0) _ rfl h2 underPt rfl (infoPt_of (ptC (XR.val) (Y.val) ((1 : Fp).val)) (ptC_size _ _ _))) rfl ⟨by rw [Hcs.out]; rfl, hBw130.out⟩
            · have c31 := (Row.ofArr h1).cell (i := 31) (by omega)
              simp only [Nat.zero_add] at c31
              unfold byV at c31
              have hB : ¬ 128 ≤ byteN N 31 := by rw [top_bit N lN]; exact hs
              generalize byteN N 31 = B31 at c31 hB
              have HX : Hid (XR = RT) := Lib.hid (by rw [HXR.out, if_neg hs])
              go_wp2_with fail
              try simp only [Act.put]
              refine wp_named ?_
              intro w126 ew126
              have hs126 : w125.heap.size ≤ w126.heap.size := by rw [ew126]; (try simp only [alloc_size, setRow_size]); omega
              replace h1 : w126.heap[w.heap.size]? = some (.cells (arrC N) 22 (0, 0)) := by rw [ew126]; exact h1
              replace h2 : w126.heap[w.heap.size + 1]? = some (.cells (z12) 45 (0, 0)) := by rw [ew126]; exact h2
              replace h4 : w126.heap[w1.heap.size]? = some (.cells (numC Y.val) 43 (0, 0)) := by rw [ew126]; exact h4
              replace h5 : w126.heap[g5]? = some (.cells (numC R1.val) 43 (0, 0)) := by rw [ew126]; exact h5
              replace h6 : w126.heap[g6]? = some (.cells (numC R2.val) 43 (0, 0)) := by rw [ew126]; exact h6
              replace h7 : w126.heap[g7]? = some (.cells (numC R4.val) 43 (0, 0)) := by rw [ew126]; exact h7
              replace h8 : w126.heap[g8]? = some (.cells (numC RT.val) 43 (0, 0)) := by rw [ew126]; exact h8
              have hBw126 : Hid (Below w.heap.size w w126) := Lib.hid (by rw [ew126]; exact hBw125.out)
              clear ew126
              refine wp_region_noPanic ?_
              refine wp_region_held_drew (S := Keep (w.heap.size + 1) w126) (by kernel_rfl) (Keep.start _ _) ?_
              intro hS
              obtain ⟨w127, ed⟩ : ∃ u : World, u = w126.drew := ⟨_, rfl⟩
              rw [← ed] at hS ⊢
              have xh1 : w127.heap[w.heap.size]? = some (.cells (arrC N) 22 (0, 0)) := by rw [ed]; exact h1
              have xh2 : w127.heap[w.heap.size + 1]? = some (.cells (z12) 45 (0, 0)) := by rw [ed]; exact h2
              have xh4 : w127.heap[w1.heap.size]? = some (.cells (numC Y.val) 43 (0, 0)) := by rw [ed]; exact h4
              have xh5 : w127.heap[g5]? = some (.cells (numC R1.val) 43 (0, 0)) := by rw [ed]; exact h5
              have xh6 : w127.heap[g6]? = some (.cells (numC R2.val) 43 (0, 0)) := by rw [ed]; exact h6
              have xh7 : w127.heap[g7]? = some (.cells (numC R4.val) 43 (0, 0)) := by rw [ed]; exact h7
              have xh8 : w127.heap[g8]? = some (.cells (numC RT.val) 43 (0, 0)) := by rw [ed]; exact h8
              clear ed
              have hSz := hS.size
              clear xh1
              clear xh4
              clear xh5
              clear xh6
              clear xh7
              clear xh8
              refine takeAtK (i := 0) (v := .agg (numC RT.val)) rfl (some 44) rfl (take_row rfl _ _ rfl (g8) rfl _ _ _ h8 (by omega) underNum rfl (infoNum_of (numC RT.val) (numC_size _))) hS ?_
              simp only [Act.put, sia, sc0, scs]
              refine takeAtK (i := 1) (v := .agg (numC Y.val)) rfl (some 45) rfl (take_row rfl _ _ rfl (w1.heap.size) rfl _ _ _ h4 (by omega) underNum rfl (infoNum_of (numC Y.val) (numC_size _))) hS ?_
              simp only [Act.put, sia, sc0, scs]
              refine wpAnyH_ready (rs := [2]) (by kernel_rfl) (by simp) ?_
              refine (AllReadyH.cons rfl ?_ AllReadyH.nil)
              intro K hK
              refine ready_call rfl (some 46) rfl 48 #[.int .u64 1] (by go_simp) ?_
              refine (sone_ff _).mono ?_
              rintro e w128 ⟨rfl, hC⟩
              refine ⟨_, rfl, ?_⟩
              simp only [Act.put, sia, sc0, scs]
              have xh2 : w128.heap[w.heap.size + 1]? = some (.cells (z12) 45 (0, 0)) := (heap_call hC xh2)
              have hS := hS.call hC
              have hz128 := hC.size
              clear hC
              refine hK.out _ _ hS ?_
              clear hK K
              intro _
              have hSz := hS.size
              refine takeAtK (i := 3) (v := .agg (ptC (RT.val) (Y.val) ((1 : Fp).val))) rfl (some 47) rfl (take_built rfl 45 _ rfl (ptC (RT.val) (Y.val) ((1 : Fp).val)) (by kernel_rfl)) hS ?_
              simp only [Act.put, sia, sc0, scs]
              refine wpAnyH_ready (rs := [4]) (by kernel_rfl) (by simp) ?_
              refine (AllReadyH.cons rfl ?_ AllReadyH.nil)
              intro K hK
              rw [if_pos (by rfl)]
              refine wp_store_row 45 _ _ rfl (w.heap.size + 1) (ptC (RT.val) (Y.val) ((1 : Fp).val)) rfl rfl 45 (z12) xh2 (infoPt_of (ptC (RT.val) (Y.val) ((1 : Fp).val)) (ptC_size _ _ _)) (z12_size.trans (ptC_size _ _ _).symm) (ptC_one _ _ _) ?_
              refine put_at (none) rfl ?_
              simp only [Act.put, sia, sc0, scs]
              have xh2 : (w128.setRow (w.heap.size + 1) (ptC (RT.val) (Y.val) ((1 : Fp).val))).heap[w.heap.size + 1]? = some (.cells (ptC (RT.val) (Y.val) ((1 : Fp).val)) 45 (0, 0)) := (setRow_heap _ _ _ _ _ _ xh2)
              have hS := hS.store (ptC (RT.val) (Y.val) ((1 : Fp).val))
              generalize w128.setRow (w.heap.size + 1) (ptC (RT.val) (Y.val) ((1 : Fp).val)) = w129 at *
              refine hK.out _ _ hS ?_
              clear hK K
              intro _
              have hSz := hS.size
              refine takeAtK (i := 5) (v := .bool true) rfl (some 3) rfl (take_run rfl (fun _ _ => by go_simp)) hS ?_
              simp only [Act.put, sia, sc0, scs]
              refine wpAnyH_done (by kernel_rfl) ?_ _
              refine NoPanic.normal ?_
              have hsz := hS.size
              have h1 : w129.heap[w.heap.size]? = some (.cells (arrC N) 22 (0, 0)) := hS.old h1 (by omega)
              have h4 : w129.heap[w1.heap.size]? = some (.cells (numC Y.val) 43 (0, 0)) := hS.old h4 (by omega)
              have h5 : w129.heap[g5]? = some (.cells (numC R1.val) 43 (0, 0)) := hS.old h5 (by omega)
              have h6 : w129.heap[g6]? = some (.cells (numC R2.val) 43 (0, 0)) := hS.old h6 (by omega)
              have h7 : w129.heap[g7]? = some (.cells (numC R4.val) 43 (0, 0)) := hS.old h7 (by omega)
              have h8 : w129.heap[g8]? = some (.cells (numC RT.val) 43 (0, 0)) := hS.old h8 (by omega)
              have h2 := xh2
              have hBw129 : Hid (Below w.heap.size w w129) := Lib.hid (hBw126.out.trans (hS.below (by omega) hBw126.out.size))
              clear hS
              go_wp2
              refine bodyPost_ret (results_row_tmp rfl _ _ (w.heap.size + 1) 45 (ptC (RT.val) (Y.val) ((1 : Fp).val)) (0, 0) _ rfl h2 underPt rfl (infoPt_of (ptC (RT.val) (Y.val) ((1 : Fp).val)) (ptC_size _ _ _))) rfl ⟨by rw [Hcs.out, HX.out]; rfl, hBw129.out⟩
theorem sdecoded_none (N : Nat) (lN : N < 256 ^ 32) (h : decP N = none) (w : World) : Calls Tryd.prog 28 #[.agg (arrC N)] w fun e w' => e = .returned (.tuple #[.agg z12, .bool false]) ∧ Below w.heap.size w w' := by
  have hv : (fp (valN N)).val = valN N := fp_lt (Nat.mod_lt _ pF_pos)
  exact decoded_all N lN false (fp (valN N)) 0 _ (Lib.hid hv) (Lib.hid (by rw [hv]; exact decP_none h)) (Lib.hid (fun h => by cases h)) (Lib.hid (fun _ => rfl)) (Lib.hid rfl) _ (Lib.hid rfl) w
end

end Go.Proofs.YtcenlinpbpbpoaaDoor
