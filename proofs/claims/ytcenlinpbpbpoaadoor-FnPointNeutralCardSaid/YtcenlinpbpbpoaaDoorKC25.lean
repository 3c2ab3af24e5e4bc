/- laws.FnPointNeutral returns true for all p, feZero, feOne and sqrtM1 being laid by the program's text. -/
import Derived.BigRegion
import Derived.ChangeBears2
import Derived.ChangeKeysEq
import Derived.ChangeVars
import Derived.Deep.DeepCutAuto
import Derived.Deep.Draws
import Derived.Deep.Fields
import Derived.Deep.MidRow
import Derived.Deep.Quiet
import Derived.Deep.RegionHeld3
import Derived.Deep.WholeRow
import Derived.Great.BuildSlice
import Derived.LaidMore
import Derived.Laws.AppendOwn
import Derived.Laws.Bits64b
import Derived.Laws.CopyOwn
import Derived.Laws.CopyRow
import Derived.Laws.Externs
import Derived.Laws.StructEq
import Derived.Laws.Tables
import Derived.Lib.Hide
import Derived.LoopTactic
import Derived.OpenShut
import Derived.ProofKit
import Derived.StillTailTactics
import Derived.Stop.Joined
import Derived.Test.YtcenlinpbpbpoaaDoorCards
import Derived.Test.YtcenlinpbpbpoaaDoorProg
import Derived.Test.YtcenlinpbpbpoaaDoorRows
import Derived.Test.YtcenlinpbpbpoaaDoorTie
import Derived.WalkKit
import Derived.WalkLawsBesides
import Derived.WalkSpells
import Derived.WideKeyArgs
import Derived.Test.YtcenlinpbpbpoaaDoorKC0
import Derived.Test.YtcenlinpbpbpoaaDoorKC1
import Derived.Test.YtcenlinpbpbpoaaDoorKC10
import Derived.Test.YtcenlinpbpbpoaaDoorKC11
import Derived.Test.YtcenlinpbpbpoaaDoorKC15
import Derived.Test.YtcenlinpbpbpoaaDoorKC17
import Derived.Test.YtcenlinpbpbpoaaDoorKC2
import Derived.Test.YtcenlinpbpbpoaaDoorKC3
import Derived.Test.YtcenlinpbpbpoaaDoorKC4
import Derived.Test.YtcenlinpbpbpoaaDoorKC5
import Derived.Test.YtcenlinpbpbpoaaDoorKC6
import Derived.Test.YtcenlinpbpbpoaaDoorKC7
import Derived.Test.YtcenlinpbpbpoaaDoorKC8
import Derived.Test.YtcenlinpbpbpoaaDoorKC9
import Derived.Test.YtcenlinpbpbpoaaDoorKHF1
import Derived.Test.YtcenlinpbpbpoaaDoorKHF3
import Derived.Test.YtcenlinpbpbpoaaDoorKHGr
import Derived.Test.YtcenlinpbpbpoaaDoorKHPI
import Derived.Test.YtcenlinpbpbpoaaDoorKHPO
import Derived.Test.YtcenlinpbpbpoaaDoorKHPP
import Derived.Test.YtcenlinpbpbpoaaDoorKHPS
import Derived.Test.YtcenlinpbpbpoaaDoorKHS8
import Derived.Test.YtcenlinpbpbpoaaDoorKHSQ
import Derived.Test.YtcenlinpbpbpoaaDoorKHSQB
import Derived.Test.YtcenlinpbpbpoaaDoorKHSQN
import Derived.Test.YtcenlinpbpbpoaaDoorKHSRD
import Derived.Test.YtcenlinpbpbpoaaDoorKHU1
import Derived.Test.YtcenlinpbpbpoaaDoorKHUM
import Derived.Test.YtcenlinpbpbpoaaDoorKHUN
import Derived.Test.YtcenlinpbpbpoaaDoorKHUS
import Derived.Test.YtcenlinpbpbpoaaDoorKHUSR
import Derived.Test.YtcenlinpbpbpoaaDoorKHUSe
import Derived.Test.YtcenlinpbpbpoaaDoorKL0
import Derived.Test.YtcenlinpbpbpoaaDoorKL1
import Derived.Test.YtcenlinpbpbpoaaDoorKL2
import Derived.Test.YtcenlinpbpbpoaaDoorKL3
import Derived.Test.YtcenlinpbpbpoaaDoorKL4
namespace Go.Proofs.YtcenlinpbpbpoaaDoor
set_option maxRecDepth 4000
set_option linter.unusedSimpArgs false
set_option linter.unusedVariables false
section
open Go.RowKit
set_option maxHeartbeats 4000000 in
theorem PtNeu_s (N : Nat) (P : CP) (lN : N < 256 ^ 32) (hN : Hid (decP N = some P)) (B : Nat) (w : World) (hD0 : Var 1 z5 B w) (hD1 : Var 0 i5 B w) (hD2 : Var 2 o5 B w) :
    Calls Tryd.prog 9 #[.agg (arrC N)] w fun e w' => e = .returned (.bool true) ∧ Below w.heap.size w w' := by
  have hBl := hD0.1
  obtain ⟨E0, qE0⟩ : ∃ u : Nat, u = encN (CP.zero) := ⟨_, rfl⟩
  have HE0 := Lib.hid qE0
  have lE0 : E0 < 256 ^ 32 := by rw [qE0]; exact encN_lt _
  clear qE0
  obtain ⟨E1, qE1⟩ : ∃ u : Nat, u = encN (P) := ⟨_, rfl⟩
  have HE1 := Lib.hid qE1
  have lE1 : E1 < 256 ^ 32 := by rw [qE1]; exact encN_lt _
  have HE1_0 : Hid (E1 = encN (P.add CP.zero)) := Lib.hid (by rw [qE1, CP.add_zero P])
  clear qE1
  go_enter Tryd.func9, Tryd.ntmps9
  go_wp2_with fail
  try simp only [Act.put]
  refine wp_named ?_
  intro w1 ew1
  have hs1 : w.heap.size + 1 ≤ w1.heap.size := by rw [ew1]; (try simp only [alloc_size, setRow_size]); omega
  replace h1 : w1.heap[w.heap.size]? = some (.cells (arrC N) 22 (0, 0)) := by rw [ew1]; exact (heap_new_at _ _ _ rfl)
  have hBw1 : Hid (Below w.heap.size w w1) := Lib.hid (by rw [ew1]; exact (below_alloc (Below.refl _ w) _))
  clear ew1
  go_cut [3, 4] (fun s3 s4 wx => ∃ g3 : Nat, s3 = .pointer (some ⟨g3, 0, none⟩) ∧ Hid (w1.heap.size ≤ g3) ∧ Hid (wx.heap[g3]? = some (.cells (arrC E1) 22 (0, 0))) ∧ s4 = .bool true ∧ Hid (wx.heap[w.heap.size]? = some (.cells (arrC N) 22 (0, 0))) ∧ Hid (Below w.heap.size w wx) ∧ Hid (w1.heap.size ≤ wx.heap.size))
  case first =>
    refine wp_region_noPanic ?_
    refine wp_region_held_drew (S := Keep (w1.heap.size) w1) (by kernel_rfl) (Keep.start _ _) ?_
    intro hS
    obtain ⟨w2, ed⟩ : ∃ u : World, u = w1.drew := ⟨_, rfl⟩
    rw [← ed] at hS ⊢
    have xh1 : w2.heap[w.heap.size]? = some (.cells (arrC N) 22 (0, 0)) := by rw [ed]; exact h1
    clear ed
    have hSz := hS.size
    clear xh1
    refine takeAtK (i := 0) (v := .agg (arrC N)) rfl (some 6) rfl (take_row rfl _ _ rfl (w.heap.size) rfl _ _ _ h1 (Nat.ne_of_lt (heap_lt h1)) under32 rfl (info32_of (arrC N) (arrC_size _))) hS ?_
    simp only [Act.put, sia, sc0, scs]
    refine wpAnyH_ready (rs := [1, 6]) (by kernel_rfl) (by simp) ?_
    refine (AllReadyH.cons rfl ?_ (AllReadyH.cons rfl ?_ AllReadyH.nil))
    · intro K hK
      refine ready_call rfl (some 7) rfl 15 #[] (by go_simp) ?_
      refine (iIdentitye E0 HE0 B _ (hD0.later (hBw1.out.trans (hS.below (by omega) hBw1.out.size))) (hD1.later (hBw1.out.trans (hS.below (by omega) hBw1.out.size))) (hD2.later (hBw1.out.trans (hS.below (by omega) hBw1.out.size)))).mono ?_
      rintro e w3 ⟨rfl, hC⟩
      refine ⟨_, rfl, ?_⟩
      simp only [Act.put, sia, sc0, scs]
      have hS := hS.call hC
      have hz3 := hC.size
      clear hC
      refine hK.out _ _ hS ?_
      clear hK K
      intro _
      have hSz := hS.size
      refine wpAnyH_ready (rs := [2, 6]) (by kernel_rfl) (by simp) ?_
      refine (AllReadyH.cons rfl ?_ (AllReadyH.cons rfl ?_ AllReadyH.nil))
      · intro K hK
        refine ready_call rfl (some 8) rfl 23 #[.agg (arrC N), .agg (arrC E0)] (by go_simp) ?_
        refine (iAdd_sse P (CP.zero) E1 HE1_0 N E0  lN hN lE0 (Lib.hid (by rw [HE0.out]; exact dec_enc _)) B _ (hD0.later (hBw1.out.trans (hS.below (by omega) hBw1.out.size))) (hD1.later (hBw1.out.trans (hS.below (by omega) hBw1.out.size))) (hD2.later (hBw1.out.trans (hS.below (by omega) hBw1.out.size)))).mono ?_
        rintro e w4 ⟨rfl, hC⟩
        refine ⟨_, rfl, ?_⟩
        simp only [Act.put, sia, sc0, scs]
        have hS := hS.call hC
        have hz4 := hC.size
        clear hC
        refine hK.out _ _ hS ?_
        clear hK K
        intro _
        have hSz := hS.size
        refine takeAtK (i := 3) (v := .tuple #[.agg (arrC E1), .bool true]) rfl (some 5) rfl (take_run rfl (fun _ _ => by go_simp)) hS ?_
        simp only [Act.put, sia, sc0, scs]
        refine takeAtK (i := 4) (v := .agg (arrC E1)) rfl (some 9) rfl (take_run rfl (fun _ _ => by go_simp)) hS ?_
        simp only [Act.put, sia, sc0, scs]
        refine takeAtK (i := 5) (v := .bool true) rfl (some 10) rfl (take_run rfl (fun _ _ => by go_simp)) hS ?_
        simp only [Act.put, sia, sc0, scs]
        refine wpAnyH_ready (rs := [6]) (by kernel_rfl) (by simp) ?_
        refine (AllReadyH.cons rfl ?_ AllReadyH.nil)
        intro K hK
        refine ready_run rfl (some 3) rfl (.pointer (some ⟨w4.heap.size, 0, none⟩)) (w4.alloc (.cells zL 22)) (by go_simp; try rfl) ?_
        simp only [Act.put, sia, sc0, scs]
        obtain ⟨w5, ea⟩ : ∃ u : World, u = w4.alloc (.cells zL 22) := ⟨_, rfl⟩
        rw [← ea]
        have hS := hS.alloc (.cells zL 22)
        rw [← ea] at hS
        have hz5 : w4.heap.size + 1 ≤ w5.heap.size := by rw [ea, alloc_size]; omega
        have hy5 : w1.heap.size ≤ w4.heap.size := hSz
        have xh3 : w5.heap[w4.heap.size]? = some (.cells (zL) 22 (0, 0)) := by rw [ea]; exact heap_new_at _ _ _ rfl
        clear ea
        refine hK.out _ _ hS ?_
        clear hK K
        intro _
        have hSz := hS.size
        refine wpAnyH_ready (rs := [7]) (by kernel_rfl) (by simp) ?_
        refine (AllReadyH.cons rfl ?_ AllReadyH.nil)
        intro K hK
        rw [if_pos (by rfl)]
        refine wp_store_row 22 _ _ rfl (w4.heap.size) (arrC E1) rfl rfl 22 (zL) xh3 (info32_of (arrC E1) (arrC_size _)) (zL_size.trans (arrC_size _).symm) (arrC_one _) ?_
        refine put_at (none) rfl ?_
        simp only [Act.put, sia, sc0, scs]
        have xh3 : (w5.setRow (w4.heap.size) (arrC E1)).heap[w4.heap.size]? = some (.cells (arrC E1) 22 (0, 0)) := (setRow_heap _ _ _ _ _ _ xh3)
        have hS := hS.storeNew (arrC E1) (show w1.heap.size ≤ w4.heap.size by omega)
        generalize w5.setRow (w4.heap.size) (arrC E1) = w6 at *
        refine hK.out _ _ hS ?_
        clear hK K
        intro _
        have hSz := hS.size
        refine takeAtK (i := 8) (v := .bool true) rfl (some 4) rfl (take_run rfl (fun _ _ => by go_simp)) hS ?_
        simp only [Act.put, sia, sc0, scs]
        refine wpAnyH_done (by kernel_rfl) ?_ _
        refine NoPanic.normal ?_
        have hsz := hS.size
        have h1 : w6.heap[w.heap.size]? = some (.cells (arrC N) 22 (0, 0)) := hS.old h1 (Nat.ne_of_lt (heap_lt h1))
        have h3 := xh3
        have hBw6 : Hid (Below w.heap.size w w6) := Lib.hid (hBw1.out.trans (hS.below (by omega) hBw1.out.size))
        clear hS
        go_wp2_with fail
        go_meet
        exact ⟨w4.heap.size, rfl, Lib.hid (show w1.heap.size ≤ w4.heap.size by omega), Lib.hid h3, rfl, Lib.hid h1, Lib.hid hBw6.out, Lib.hid (show w1.heap.size ≤ w6.heap.size by omega)⟩
      · intro K hK
        refine ready_run rfl (some 3) rfl (.pointer (some ⟨w3.heap.size, 0, none⟩)) (w3.alloc (.cells zL 22)) (by go_simp; try rfl) ?_
        simp only [Act.put, sia, sc0, scs]
        obtain ⟨w8, ea⟩ : ∃ u : World, u = w3.alloc (.cells zL 22) := ⟨_, rfl⟩
        rw [← ea]
        have hS := hS.alloc (.cells zL 22)
        rw [← ea] at hS
        have hz8 : w3.heap.size + 1 ≤ w8.heap.size := by rw [ea, alloc_size]; omega
        have hy8 : w1.heap.size ≤ w3.heap.size := hSz
        have xh3 : w8.heap[w3.heap.size]? = some (.cells (zL) 22 (0, 0)) := by rw [ea]; exact heap_new_at _ _ _ rfl
        clear ea
        refine hK.out _ _ hS ?_
        clear hK K
        intro _
        have hSz := hS.size
        refine wpAnyH_ready (rs := [2]) (by kernel_rfl) (by simp) ?_
        refine (AllReadyH.cons rfl ?_ AllReadyH.nil)
        intro K hK
        refine ready_call rfl (some 8) rfl 23 #[.agg (arrC N), .agg (arrC E0)] (by go_simp) ?_
        refine (iAdd_sse P (CP.zero) E1 HE1_0 N E0  lN hN lE0 (Lib.hid (by rw [HE0.out]; exact dec_enc _)) B _ (hD0.later (hBw1.out.trans (hS.below (by omega) hBw1.out.size))) (hD1.later (hBw1.out.trans (hS.below (by omega) hBw1.out.size))) (hD2.later (hBw1.out.trans (hS.below (by omega) hBw1.out.size)))).mono ?_
        rintro e w9 ⟨rfl, hC⟩
        refine ⟨_, rfl, ?_⟩
        simp only [Act.put, sia, sc0, scs]
        have xh3 : w9.heap[w3.heap.size]? = some (.cells (zL) 22 (0, 0)) := (heap_call hC xh3)
        have hS := hS.call hC
        have hz9 := hC.size
        clear hC
        refine hK.out _ _ hS ?_
        clear hK K
        intro _
        have hSz := hS.size
        refine takeAtK (i := 3) (v := .tuple #[.agg (arrC E1), .bool true]) rfl (some 5) rfl (take_run rfl (fun _ _ => by go_simp)) hS ?_
        simp only [Act.put, sia, sc0, scs]
        refine takeAtK (i := 4) (v := .agg (arrC E1)) rfl (some 9) rfl (take_run rfl (fun _ _ => by go_simp)) hS ?_
        simp only [Act.put, sia, sc0, scs]
        refine takeAtK (i := 5) (v := .bool true) rfl (some 10) rfl (take_run rfl (fun _ _ => by go_simp)) hS ?_
        simp only [Act.put, sia, sc0, scs]
        refine wpAnyH_ready (rs := [7]) (by kernel_rfl) (by simp) ?_
        refine (AllReadyH.cons rfl ?_ AllReadyH.nil)
        intro K hK
        rw [if_pos (by rfl)]
        refine wp_store_row 22 _ _ rfl (w3.heap.size) (arrC E1) rfl rfl 22 (zL) xh3 (info32_of (arrC E1) (arrC_size _)) (zL_size.trans (arrC_size _).symm) (arrC_one _) ?_
        refine put_at (none) rfl ?_
        simp only [Act.put, sia, sc0, scs]
        have xh3 : (w9.setRow (w3.heap.size) (arrC E1)).heap[w3.heap.size]? = some (.cells (arrC E1) 22 (0, 0)) := (setRow_heap _ _ _ _ _ _ xh3)
        have hS := hS.storeNew (arrC E1) (show w1.heap.size ≤ w3.heap.size by omega)
        generalize w9.setRow (w3.heap.size) (arrC E1) = w10 at *
        refine hK.out _ _ hS ?_
        clear hK K
        intro _
        have hSz := hS.size
        refine takeAtK (i := 8) (v := .bool true) rfl (some 4) rfl (take_run rfl (fun _ _ => by go_simp)) hS ?_
        simp only [Act.put, sia, sc0, scs]
        refine wpAnyH_done (by kernel_rfl) ?_ _
        refine NoPanic.normal ?_
        have hsz := hS.size
        have h1 : w10.heap[w.heap.size]? = some (.cells (arrC N) 22 (0, 0)) := hS.old h1 (Nat.ne_of_lt (heap_lt h1))
        have h3 := xh3
        have hBw10 : Hid (Below w.heap.size w w10) := Lib.hid (hBw1.out.trans (hS.below (by omega) hBw1.out.size))
        clear hS
        go_wp2_with fail
        go_meet
        exact ⟨w3.heap.size, rfl, Lib.hid (show w1.heap.size ≤ w3.heap.size by omega), Lib.hid h3, rfl, Lib.hid h1, Lib.hid hBw10.out, Lib.hid (show w1.heap.size ≤ w10.heap.size by omega)⟩
    · intro K hK
      refine ready_run rfl (some 3) rfl (.pointer (some ⟨w2.heap.size, 0, none⟩)) (w2.alloc (.cells zL 22)) (by go_simp; try rfl) ?_
      simp only [Act.put, sia, sc0, scs]
      obtain ⟨w12, ea⟩ : ∃ u : World, u = w2.alloc (.cells zL 22) := ⟨_, rfl⟩
      rw [← ea]
      have hS := hS.alloc (.cells zL 22)
      rw [← ea] at hS
      have hz12 : w2.heap.size + 1 ≤ w12.heap.size := by rw [ea, alloc_size]; omega
      have hy12 : w1.heap.size ≤ w2.heap.size := hSz
      have xh3 : w12.heap[w2.heap.size]? = some (.cells (zL) 22 (0, 0)) := by rw [ea]; exact heap_new_at _ _ _ rfl
      clear ea
      refine hK.out _ _ hS ?_
      clear hK K
      intro _
      have hSz := hS.size
      refine wpAnyH_ready (rs := [1]) (by kernel_rfl) (by simp) ?_
      refine (AllReadyH.cons rfl ?_ AllReadyH.nil)
      intro K hK
      refine ready_call rfl (some 7) rfl 15 #[] (by go_simp) ?_
      refine (iIdentitye E0 HE0 B _ (hD0.later (hBw1.out.trans (hS.below (by omega) hBw1.out.size))) (hD1.later (hBw1.out.trans (hS.below (by omega) hBw1.out.size))) (hD2.later (hBw1.out.trans (hS.below (by omega) hBw1.out.size)))).mono ?_
      rintro e w13 ⟨rfl, hC⟩
      refine ⟨_, rfl, ?_⟩
      simp only [Act.put, sia, sc0, scs]
      have xh3 : w13.heap[w2.heap.size]? = some (.cells (zL) 22 (0, 0)) := (heap_call hC xh3)
      have hS := hS.call hC
      have hz13 := hC.size
      clear hC
      refine hK.out _ _ hS ?_
      clear hK K
      intro _
      have hSz := hS.size
      refine wpAnyH_ready (rs := [2]) (by kernel_rfl) (by simp) ?_
      refine (AllReadyH.cons rfl ?_ AllReadyH.nil)
      intro K hK
      refine ready_call rfl (some 8) rfl 23 #[.agg (arrC N), .agg (arrC E0)] (by go_simp) ?_
      refine (iAdd_sse P (CP.zero) E1 HE1_0 N E0  lN hN lE0 (Lib.hid (by rw [HE0.out]; exact dec_enc _)) B _ (hD0.later (hBw1.out.trans (hS.below (by omega) hBw1.out.size))) (hD1.later (hBw1.out.trans (hS.below (by omega) hBw1.out.size))) (hD2.later (hBw1.out.trans (hS.below (by omega) hBw1.out.size)))).mono ?_
      rintro e w14 ⟨rfl, hC⟩
      refine ⟨_, rfl, ?_⟩
      simp only [Act.put, sia, sc0, scs]
      have xh3 : w14.heap[w2.heap.size]? = some (.cells (zL) 22 (0, 0)) := (heap_call hC xh3)
      have hS := hS.call hC
      have hz14 := hC.size
      clear hC
      refine hK.out _ _ hS ?_
      clear hK K
      intro _
      have hSz := hS.size
      refine takeAtK (i := 3) (v := .tuple #[.agg (arrC E1), .bool true]) rfl (some 5) rfl (take_run rfl (fun _ _ => by go_simp)) hS ?_
      simp only [Act.put, sia, sc0, scs]
      refine takeAtK (i := 4) (v := .agg (arrC E1)) rfl (some 9) rfl (take_run rfl (fun _ _ => by go_simp)) hS ?_
      simp only [Act.put, sia, sc0, scs]
      refine takeAtK (i := 5) (v := .bool true) rfl (some 10) rfl (take_run rfl (fun _ _ => by go_simp)) hS ?_
      simp only [Act.put, sia, sc0, scs]
      refine wpAnyH_ready (rs := [7]) (by kernel_rfl) (by simp) ?_
      refine (AllReadyH.cons rfl ?_ AllReadyH.nil)
      intro K hK
      rw [if_pos (by rfl)]
      refine wp_store_row 22 _ _ rfl (w2.heap.size) (arrC E1) rfl rfl 22 (zL) xh3 (info32_of (arrC E1) (arrC_size _)) (zL_size.trans (arrC_size _).symm) (arrC_one _) ?_
      refine put_at (none) rfl ?_
      simp only [Act.put, sia, sc0, scs]
      have xh3 : (w14.setRow (w2.heap.size) (arrC E1)).heap[w2.heap.size]? = some (.cells (arrC E1) 22 (0, 0)) := (setRow_heap _ _ _ _ _ _ xh3)
      have hS := hS.storeNew (arrC E1) (show w1.heap.size ≤ w2.heap.size by omega)
      generalize w14.setRow (w2.heap.size) (arrC E1) = w15 at *
      refine hK.out _ _ hS ?_
      clear hK K
      intro _
      have hSz := hS.size
      refine takeAtK (i := 8) (v := .bool true) rfl (some 4) rfl (take_run rfl (fun _ _ => by go_simp)) hS ?_
      simp only [Act.put, sia, sc0, scs]
      refine wpAnyH_done (by kernel_rfl) ?_ _
      refine NoPanic.normal ?_
      have hsz := hS.size
      have h1 : w15.heap[w.heap.size]? = some (.cells (arrC N) 22 (0, 0)) := hS.old h1 (Nat.ne_of_lt (heap_lt h1))
      have h3 := xh3
      have hBw15 : Hid (Below w.heap.size w w15) := Lib.hid (hBw1.out.trans (hS.below (by omega) hBw1.out.size))
      clear hS
      go_wp2_with fail
      go_meet
      exact ⟨w2.heap.size, rfl, Lib.hid (show w1.heap.size ≤ w2.heap.size by omega), Lib.hid h3, rfl, Lib.hid h1, Lib.hid hBw15.out, Lib.hid (show w1.heap.size ≤ w15.heap.size by omega)⟩
  case rest =>
    obtain ⟨g3, rfl, Hg3, Hh3, rfl, Hh1, hBw17, Hsz17⟩ := hcut
    obtain ⟨w17, rfl⟩ : ∃ u : World, u = wc := ⟨_, rfl⟩
    have hgl3 := Hg3.out
    have h3 := Hh3.out
    have hgu3 := heap_lt h3
    have h1 := Hh1.out
    have hsz17 := Hsz17.out
    go_wp2_with (first
      | ((with_reducible refine at_dst 11 ?_); refine wpList_load_row rfl 22 _ rfl (w.heap.size) rfl 22 (arrC N) (0, 0) _ h1 under32 rfl (info32_of (arrC N) (arrC_size _)) ?_))
    refine (isPoint_s N P lN hN _).mono ?_
    rintro e w18 ⟨rfl, hC18⟩
    have hs18 : w17.heap.size ≤ w18.heap.size := by have := hC18.size; (try simp only [alloc_size, setRow_size] at this); omega
    replace h1 : w18.heap[w.heap.size]? = some (.cells (arrC N) 22 (0, 0)) := (heap_call hC18 h1)
    replace h3 : w18.heap[g3]? = some (.cells (arrC E1) 22 (0, 0)) := (heap_call hC18 h3)
    have hBw18 : Hid (Below w.heap.size w w18) := Lib.hid (below_call hBw17.out hC18)
    clear hC18
    go_wp2_with fail
    try simp only [Act.put]
    refine wp_named ?_
    intro w19 ew19
    have hs19 : w18.heap.size ≤ w19.heap.size := by rw [ew19]; (try simp only [alloc_size, setRow_size]); omega
    replace h1 : w19.heap[w.heap.size]? = some (.cells (arrC N) 22 (0, 0)) := by rw [ew19]; exact h1
    replace h3 : w19.heap[g3]? = some (.cells (arrC E1) 22 (0, 0)) := by rw [ew19]; exact h3
    have hBw19 : Hid (Below w.heap.size w w19) := Lib.hid (by rw [ew19]; exact hBw18.out)
    clear ew19
    refine wp_region_noPanic ?_
    refine wp_region_held_drew (S := Keep (w19.heap.size) w19) (by kernel_rfl) (Keep.start _ _) ?_
    intro hS
    obtain ⟨w20, ed⟩ : ∃ u : World, u = w19.drew := ⟨_, rfl⟩
    rw [← ed] at hS ⊢
    have xh1 : w20.heap[w.heap.size]? = some (.cells (arrC N) 22 (0, 0)) := by rw [ed]; exact h1
    have xh3 : w20.heap[g3]? = some (.cells (arrC E1) 22 (0, 0)) := by rw [ed]; exact h3
    clear ed
    have hSz := hS.size
    clear xh1
    clear xh3
    refine takeAtK (i := 0) (v := .bool true) rfl (some 16) rfl (take_run rfl (fun _ _ => by go_simp)) hS ?_
    simp only [Act.put, sia, sc0, scs]
    refine takeAtK (i := 1) (v := .bool true) rfl (some 17) rfl (take_run rfl (fun _ _ => by go_simp)) hS ?_
    simp only [Act.put, sia, sc0, scs]
    refine takeAtK (i := 2) (v := .agg (arrC E1)) rfl (some 18) rfl (take_row rfl _ _ rfl (g3) rfl _ _ _ h3 (Nat.ne_of_lt (heap_lt h3)) under32 rfl (info32_of (arrC E1) (arrC_size _))) hS ?_
    simp only [Act.put, sia, sc0, scs]
    refine takeAtK (i := 3) (v := .agg (arrC N)) rfl (some 19) rfl (take_row rfl _ _ rfl (w.heap.size) rfl _ _ _ h1 (Nat.ne_of_lt (heap_lt h1)) under32 rfl (info32_of (arrC N) (arrC_size _))) hS ?_
    simp only [Act.put, sia, sc0, scs]
    refine wpAnyH_ready (rs := [4]) (by kernel_rfl) (by simp) ?_
    refine (AllReadyH.cons rfl ?_ AllReadyH.nil)
    intro K hK
    refine ready_call rfl (some 20) rfl 24 #[.agg (arrC N)] (by go_simp) ?_
    refine (told_toe P E1 HE1 N lN hN B _ (hD0.later (hBw19.out.trans (hS.below (by omega) hBw19.out.size))) (hD1.later (hBw19.out.trans (hS.below (by omega) hBw19.out.size))) (hD2.later (hBw19.out.trans (hS.below (by omega) hBw19.out.size)))).mono ?_
    rintro e w21 ⟨rfl, hC⟩
    refine ⟨_, rfl, ?_⟩
    simp only [Act.put, sia, sc0, scs]
    have hS := hS.call hC
    have hz21 := hC.size
    clear hC
    refine hK.out _ _ hS ?_
    clear hK K
    intro _
    have hSz := hS.size
    refine takeAtK (i := 5) (v := .bool true) rfl (some 21) rfl (take_run rfl (fun _ _ => by go_simp; rw [run_eq_arr _ _ lE1 lE1]; simp)) hS ?_
    simp only [Act.put, sia, sc0, scs]
    refine takeAtK (i := 6) (v := .bool true) rfl (some 22) rfl (take_run rfl (fun _ _ => by go_simp)) hS ?_
    simp only [Act.put, sia, sc0, scs]
    refine takeAtK (i := 7) (v := .bool true) rfl (some 2) rfl (take_run rfl (fun _ _ => by go_simp)) hS ?_
    simp only [Act.put, sia, sc0, scs]
    refine wpAnyH_done (by kernel_rfl) ?_ _
    refine NoPanic.normal ?_
    have hsz := hS.size
    have h1 : w21.heap[w.heap.size]? = some (.cells (arrC N) 22 (0, 0)) := hS.old h1 (Nat.ne_of_lt (heap_lt h1))
    have h3 : w21.heap[g3]? = some (.cells (arrC E1) 22 (0, 0)) := hS.old h3 (Nat.ne_of_lt (heap_lt h3))
    have hBw21 : Hid (Below w.heap.size w w21) := Lib.hid (hBw19.out.trans (hS.below (by omega) hBw19.out.size))
    clear hS
    go_wp2
    go_ret
    exact ⟨rfl, hBw21.out⟩
set_option maxHeartbeats 4000000 in
theorem PtNeu_n (N : Nat) (lN : N < 256 ^ 32) (hN : Hid (decP N = none)) (B : Nat) (w : World) (hD0 : Var 1 z5 B w) (hD1 : Var 0 i5 B w) (hD2 : Var 2 o5 B w) :
    Calls Tryd.prog 9 #[.agg (arrC N)] w fun e w' => e = .returned (.bool true) ∧ Below w.heap.size w w' := by
  have hBl := hD0.1
  obtain ⟨E0, qE0⟩ : ∃ u : Nat, u = encN (CP.zero) := ⟨_, rfl⟩
  have HE0 := Lib.hid qE0
  have lE0 : E0 < 256 ^ 32 := by rw [qE0]; exact encN_lt _
  clear qE0
  go_enter Tryd.func9, Tryd.ntmps9
  go_wp2_with fail
  try simp only [Act.put]
  refine wp_named ?_
  intro w1 ew1
  have hs1 : w.heap.size + 1 ≤ w1.heap.size := by rw [ew1]; (try simp only [alloc_size, setRow_size]); omega
  replace h1 : w1.heap[w.heap.size]? = some (.cells (arrC N) 22 (0, 0)) := by rw [ew1]; exact (heap_new_at _ _ _ rfl)
  have hBw1 : Hid (Below w.heap.size w w1) := Lib.hid (by rw [ew1]; exact (below_alloc (Below.refl _ w) _))
  clear ew1
  go_cut [3, 4] (fun s3 s4 wx => ∃ g3 : Nat, s3 = .pointer (some ⟨g3, 0, none⟩) ∧ Hid (w1.heap.size ≤ g3) ∧ Hid (wx.heap[g3]? = some (.cells (zL) 22 (0, 0))) ∧ s4 = .bool false ∧ Hid (wx.heap[w.heap.size]? = some (.cells (arrC N) 22 (0, 0))) ∧ Hid (Below w.heap.size w wx) ∧ Hid (w1.heap.size ≤ wx.heap.size))
  case first =>
    refine wp_region_noPanic ?_
    refine wp_region_held_drew (S := Keep (w1.heap.size) w1) (by kernel_rfl) (Keep.start _ _) ?_
    intro hS
    obtain ⟨w2, ed⟩ : ∃ u : World, u = w1.drew := ⟨_, rfl⟩
    rw [← ed] at hS ⊢
    have xh1 : w2.heap[w.heap.size]? = some (.cells (arrC N) 22 (0, 0)) := by rw [ed]; exact h1
    clear ed
    have hSz := hS.size
    clear xh1
    refine takeAtK (i := 0) (v := .agg (arrC N)) rfl (some 6) rfl (take_row rfl _ _ rfl (w.heap.size) rfl _ _ _ h1 (Nat.ne_of_lt (heap_lt h1)) under32 rfl (info32_of (arrC N) (arrC_size _))) hS ?_
    simp only [Act.put, sia, sc0, scs]
    refine wpAnyH_ready (rs := [1, 6]) (by kernel_rfl) (by simp) ?_
    refine (AllReadyH.cons rfl ?_ (AllReadyH.cons rfl ?_ AllReadyH.nil))
    · intro K hK
      refine ready_call rfl (some 7) rfl 15 #[] (by go_simp) ?_
      refine (iIdentitye E0 HE0 B _ (hD0.later (hBw1.out.trans (hS.below (by omega) hBw1.out.size))) (hD1.later (hBw1.out.trans (hS.below (by omega) hBw1.out.size))) (hD2.later (hBw1.out.trans (hS.below (by omega) hBw1.out.size)))).mono ?_
      rintro e w3 ⟨rfl, hC⟩
      refine ⟨_, rfl, ?_⟩
      simp only [Act.put, sia, sc0, scs]
      have hS := hS.call hC
      have hz3 := hC.size
      clear hC
      refine hK.out _ _ hS ?_
      clear hK K
      intro _
      have hSz := hS.size
      refine wpAnyH_ready (rs := [2, 6]) (by kernel_rfl) (by simp) ?_
      refine (AllReadyH.cons rfl ?_ (AllReadyH.cons rfl ?_ AllReadyH.nil))
      · intro K hK
        refine ready_call rfl (some 8) rfl 23 #[.agg (arrC N), .agg (arrC E0)] (by go_simp) ?_
        refine (iAdd_ns N E0 (CP.zero)  lN hN lE0 (Lib.hid (by rw [HE0.out]; exact dec_enc _)) B _ (hD0.later (hBw1.out.trans (hS.below (by omega) hBw1.out.size))) (hD1.later (hBw1.out.trans (hS.below (by omega) hBw1.out.size))) (hD2.later (hBw1.out.trans (hS.below (by omega) hBw1.out.size)))).mono ?_
        rintro e w4 ⟨rfl, hC⟩
        refine ⟨_, rfl, ?_⟩
        simp only [Act.put, sia, sc0, scs]
        have hS := hS.call hC
        have hz4 := hC.size
        clear hC
        refine hK.out _ _ hS ?_
        clear hK K
        intro _
        have hSz := hS.size
        refine takeAtK (i := 3) (v := .tuple #[.agg (zL), .bool false]) rfl (some 5) rfl (take_run rfl (fun _ _ => by go_simp)) hS ?_
        simp only [Act.put, sia, sc0, scs]
        refine takeAtK (i := 4) (v := .agg (zL)) rfl (some 9) rfl (take_run rfl (fun _ _ => by go_simp)) hS ?_
        simp only [Act.put, sia, sc0, scs]
        refine takeAtK (i := 5) (v := .bool false) rfl (some 10) rfl (take_run rfl (fun _ _ => by go_simp)) hS ?_
        simp only [Act.put, sia, sc0, scs]
        refine wpAnyH_ready (rs := [6]) (by kernel_rfl) (by simp) ?_
        refine (AllReadyH.cons rfl ?_ AllReadyH.nil)
        intro K hK
        refine ready_run rfl (some 3) rfl (.pointer (some ⟨w4.heap.size, 0, none⟩)) (w4.alloc (.cells zL 22)) (by go_simp; try rfl) ?_
        simp only [Act.put, sia, sc0, scs]
        obtain ⟨w5, ea⟩ : ∃ u : World, u = w4.alloc (.cells zL 22) := ⟨_, rfl⟩
        rw [← ea]
        have hS := hS.alloc (.cells zL 22)
        rw [← ea] at hS
        have hz5 : w4.heap.size + 1 ≤ w5.heap.size := by rw [ea, alloc_size]; omega
        have hy5 : w1.heap.size ≤ w4.heap.size := hSz
        have xh3 : w5.heap[w4.heap.size]? = some (.cells (zL) 22 (0, 0)) := by rw [ea]; exact heap_new_at _ _ _ rfl
        clear ea
        refine hK.out _ _ hS ?_
        clear hK K
        intro _
        have hSz := hS.size
        refine wpAnyH_ready (rs := [7]) (by kernel_rfl) (by simp) ?_
        refine (AllReadyH.cons rfl ?_ AllReadyH.nil)
        intro K hK
        rw [if_pos (by rfl)]
        refine wp_store_row 22 _ _ rfl (w4.heap.size) (zL) rfl rfl 22 (zL) xh3 (info32_of (zL) zL_size) (zL_size.trans zL_size.symm) zL_one ?_
        refine put_at (none) rfl ?_
        simp only [Act.put, sia, sc0, scs]
        have xh3 : (w5.setRow (w4.heap.size) (zL)).heap[w4.heap.size]? = some (.cells (zL) 22 (0, 0)) := (setRow_heap _ _ _ _ _ _ xh3)
        have hS := hS.storeNew (zL) (show w1.heap.size ≤ w4.heap.size by omega)
        generalize w5.setRow (w4.heap.size) (zL) = w6 at *
        refine hK.out _ _ hS ?_
        clear hK K
        intro _
        have hSz := hS.size
        refine takeAtK (i := 8) (v := .bool false) rfl (some 4) rfl (take_run rfl (fun _ _ => by go_simp)) hS ?_
        simp only [Act.put, sia, sc0, scs]
        refine wpAnyH_done (by kernel_rfl) ?_ _
        refine NoPanic.normal ?_
        have hsz := hS.size
        have h1 : w6.heap[w.heap.size]? = some (.cells (arrC N) 22 (0, 0)) := hS.old h1 (Nat.ne_of_lt (heap_lt h1))
        have h3 := xh3
        have hBw6 : Hid (Below w.heap.size w w6) := Lib.hid (hBw1.out.trans (hS.below (by omega) hBw1.out.size))
        clear hS
        go_wp2_with fail
        go_meet
        exact ⟨w4.heap.size, rfl, Lib.hid (show w1.heap.size ≤ w4.heap.size by omega), Lib.hid h3, rfl, Lib.hid h1, Lib.hid hBw6.out, Lib.hid (show w1.heap.size ≤ w6.heap.size by omega)⟩
      · intro K hK
        refine ready_run rfl (some 3) rfl (.pointer (some ⟨w3.heap.size, 0, none⟩)) (w3.alloc (.cells zL 22)) (by go_simp; try rfl) ?_
        simp only [Act.put, sia, sc0, scs]
        obtain ⟨w8, ea⟩ : ∃ u : World, u = w3.alloc (.cells zL 22) := ⟨_, rfl⟩
        rw [← ea]
        have hS := hS.alloc (.cells zL 22)
        rw [← ea] at hS
        have hz8 : w3.heap.size + 1 ≤ w8.heap.size := by rw [ea, alloc_size]; omega
        have hy8 : w1.heap.size ≤ w3.heap.size := hSz
        have xh3 : w8.heap[w3.heap.size]? = some (.cells (zL) 22 (0, 0)) := by rw [ea]; exact heap_new_at _ _ _ rfl
        clear ea
        refine hK.out _ _ hS ?_
        clear hK K
        intro _
        have hSz := hS.size
        refine wpAnyH_ready (rs := [2]) (by kernel_rfl) (by simp) ?_
        refine (AllReadyH.cons rfl ?_ AllReadyH.nil)
        intro K hK
        refine ready_call rfl (some 8) rfl 23 #[.agg (arrC N), .agg (arrC E0)] (by go_simp) ?_
        refine (iAdd_ns N E0 (CP.zero)  lN hN lE0 (Lib.hid (by rw [HE0.out]; exact dec_enc _)) B _ (hD0.later (hBw1.out.trans (hS.below (by omega) hBw1.out.size))) (hD1.later (hBw1.out.trans (hS.below (by omega) hBw1.out.size))) (hD2.later (hBw1.out.trans (hS.below (by omega) hBw1.out.size)))).mono ?_
        rintro e w9 ⟨rfl, hC⟩
        refine ⟨_, rfl, ?_⟩
        simp only [Act.put, sia, sc0, scs]
        have xh3 : w9.heap[w3.heap.size]? = some (.cells (zL) 22 (0, 0)) := (heap_call hC xh3)
        have hS := hS.call hC
        have hz9 := hC.size
        clear hC
        refine hK.out _ _ hS ?_
        clear hK K
        intro _
        have hSz := hS.size
        refine takeAtK (i := 3) (v := .tuple #[.agg (zL), .bool false]) rfl (some 5) rfl (take_run rfl (fun _ _ => by go_simp)) hS ?_
        simp only [Act.put, sia, sc0, scs]
        refine takeAtK (i := 4) (v := .agg (zL)) rfl (some 9) rfl (take_run rfl (fun _ _ => by go_simp)) hS ?_
        simp only [Act.put, sia, sc0, scs]
        refine takeAtK (i := 5) (v := .bool false) rfl (some 10) rfl (take_run rfl (fun _ _ => by go_simp)) hS ?_
        simp only [Act.put, sia, sc0, scs]
        refine wpAnyH_ready (rs := [7]) (by kernel_rfl) (by simp) ?_
        refine (AllReadyH.cons rfl ?_ AllReadyH.nil)
        intro K hK
        rw [if_pos (by rfl)]
        refine wp_store_row 22 _ _ rfl (w3.heap.size) (zL) rfl rfl 22 (zL) xh3 (info32_of (zL) zL_size) (zL_size.trans zL_size.symm) zL_one ?_
        refine put_at (none) rfl ?_
        simp only [Act.put, sia, sc0, scs]
        have xh3 : (w9.setRow (w3.heap.size) (zL)).heap[w3.heap.size]? = some (.cells (zL) 22 (0, 0)) := (setRow_heap _ _ _ _ _ _ xh3)
        have hS := hS.storeNew (zL) (show w1.heap.size ≤ w3.heap.size by omega)
        generalize w9.setRow (w3.heap.size) (zL) = w10 at *
        refine hK.out _ _ hS ?_
        clear hK K
        intro _
        have hSz := hS.size
        refine takeAtK (i := 8) (v := .bool false) rfl (some 4) rfl (take_run rfl (fun _ _ => by go_simp)) hS ?_
        simp only [Act.put, sia, sc0, scs]
        refine wpAnyH_done (by kernel_rfl) ?_ _
        refine NoPanic.normal ?_
        have hsz := hS.size
        have h1 : w10.heap[w.heap.size]? = some (.cells (arrC N) 22 (0, 0)) := hS.old h1 (Nat.ne_of_lt (heap_lt h1))
        have h3 := xh3
        have hBw10 : Hid (Below w.heap.size w w10) := Lib.hid (hBw1.out.trans (hS.below (by omega) hBw1.out.size))
        clear hS
        go_wp2_with fail
        go_meet
        exact ⟨w3.heap.size, rfl, Lib.hid (show w1.heap.size ≤ w3.heap.size by omega), Lib.hid h3, rfl, Lib.hid h1, Lib.hid hBw10.out, Lib.hid (show w1.heap.size ≤ w10.heap.size by omega)⟩
    · intro K hK
      refine ready_run rfl (some 3) rfl (.pointer (some ⟨w2.heap.size, 0, none⟩)) (w2.alloc (.cells zL 22)) (by go_simp; try rfl) ?_
      simp only [Act.put, sia, sc0, scs]
      obtain ⟨w12, ea⟩ : ∃ u : World, u = w2.alloc (.cells zL 22) := ⟨_, rfl⟩
      rw [← ea]
      have hS := hS.alloc (.cells zL 22)
      rw [← ea] at hS
      have hz12 : w2.heap.size + 1 ≤ w12.heap.size := by rw [ea, alloc_size]; omega
      have hy12 : w1.heap.size ≤ w2.heap.size := hSz
      have xh3 : w12.heap[w2.heap.size]? = some (.cells (zL) 22 (0, 0)) := by rw [ea]; exact heap_new_at _ _ _ rfl
      clear ea
      refine hK.out _ _ hS ?_
      clear hK K
      intro _
      have hSz := hS.size
      refine wpAnyH_ready (rs := [1]) (by kernel_rfl) (by simp) ?_
      refine (AllReadyH.cons rfl ?_ AllReadyH.nil)
      intro K hK
      refine ready_call rfl (some 7) rfl 15 #[] (by go_simp) ?_
      refine (iIdentitye E0 HE0 B _ (hD0.later (hBw1.out.trans (hS.below (by omega) hBw1.out.size))) (hD1.later (hBw1.out.trans (hS.below (by omega) hBw1.out.size))) (hD2.later (hBw1.out.trans (hS.below (by omega) hBw1.out.size)))).mono ?_
      rintro e w13 ⟨rfl, hC⟩
      refine ⟨_, rfl, ?_⟩
      simp only [Act.put, sia, sc0, scs]
      have xh3 : w13.heap[w2.heap.size]? = some (.cells (zL) 22 (0, 0)) := (heap_call hC xh3)
      have hS := hS.call hC
      have hz13 := hC.size
      clear hC
      refine hK.out _ _ hS ?_
      clear hK K
      intro _
      have hSz := hS.size
      refine wpAnyH_ready (rs := [2]) (by kernel_rfl) (by simp) ?_
      refine (AllReadyH.cons rfl ?_ AllReadyH.nil)
      intro K hK
      refine ready_call rfl (some 8) rfl 23 #[.agg (arrC N), .agg (arrC E0)] (by go_simp) ?_
      refine (iAdd_ns N E0 (CP.zero)  lN hN lE0 (Lib.hid (by rw [HE0.out]; exact dec_enc _)) B _ (hD0.later (hBw1.out.trans (hS.below (by omega) hBw1.out.size))) (hD1.later (hBw1.out.trans (hS.below (by omega) hBw1.out.size))) (hD2.later (hBw1.out.trans (hS.below (by omega) hBw1.out.size)))).mono ?_
      rintro e w14 ⟨rfl, hC⟩
      refine ⟨_, rfl, ?_⟩
      simp only [Act.put, sia, sc0, scs]
      have xh3 : w14.heap[w2.heap.size]? = some (.cells (zL) 22 (0, 0)) := (heap_call hC xh3)
      have hS := hS.call hC
      have hz14 := hC.size
      clear hC
      refine hK.out _ _ hS ?_
      clear hK K
      intro _
      have hSz := hS.size
      refine takeAtK (i := 3) (v := .tuple #[.agg (zL), .bool false]) rfl (some 5) rfl (take_run rfl (fun _ _ => by go_simp)) hS ?_
      simp only [Act.put, sia, sc0, scs]
      refine takeAtK (i := 4) (v := .agg (zL)) rfl (some 9) rfl (take_run rfl (fun _ _ => by go_simp)) hS ?_
      simp only [Act.put, sia, sc0, scs]
      refine takeAtK (i := 5) (v := .bool false) rfl (some 10) rfl (take_run rfl (fun _ _ => by go_simp)) hS ?_
      simp only [Act.put, sia, sc0, scs]
      refine wpAnyH_ready (rs := [7]) (by kernel_rfl) (by simp) ?_
      refine (AllReadyH.cons rfl ?_ AllReadyH.nil)
      intro K hK
      rw [if_pos (by rfl)]
      refine wp_store_row 22 _ _ rfl (w2.heap.size) (zL) rfl rfl 22 (zL) xh3 (info32_of (zL) zL_size) (zL_size.trans zL_size.symm) zL_one ?_
      refine put_at (none) rfl ?_
      simp only [Act.put, sia, sc0, scs]
      have xh3 : (w14.setRow (w2.heap.size) (zL)).heap[w2.heap.size]? = some (.cells (zL) 22 (0, 0)) := (setRow_heap _ _ _ _ _ _ xh3)
      have hS := hS.storeNew (zL) (show w1.heap.size ≤ w2.heap.size by omega)
      generalize w14.setRow (w2.heap.size) (zL) = w15 at *
      refine hK.out _ _ hS ?_
      clear hK K
      intro _
      have hSz := hS.size
      refine takeAtK (i := 8) (v := .bool false) rfl (some 4) rfl (take_run rfl (fun _ _ => by go_simp)) hS ?_
      simp only [Act.put, sia, sc0, scs]
      refine wpAnyH_done (by kernel_rfl) ?_ _
      refine NoPanic.normal ?_
      have hsz := hS.size
      have h1 : w15.heap[w.heap.size]? = some (.cells (arrC N) 22 (0, 0)) := hS.old h1 (Nat.ne_of_lt (heap_lt h1))
      have h3 := xh3
      have hBw15 : Hid (Below w.heap.size w w15) := Lib.hid (hBw1.out.trans (hS.below (by omega) hBw1.out.size))
      clear hS
      go_wp2_with fail
      go_meet
      exact ⟨w2.heap.size, rfl, Lib.hid (show w1.heap.size ≤ w2.heap.size by omega), Lib.hid h3, rfl, Lib.hid h1, Lib.hid hBw15.out, Lib.hid (show w1.heap.size ≤ w15.heap.size by omega)⟩
  case rest =>
    obtain ⟨g3, rfl, Hg3, Hh3, rfl, Hh1, hBw17, Hsz17⟩ := hcut
    obtain ⟨w17, rfl⟩ : ∃ u : World, u = wc := ⟨_, rfl⟩
    have hgl3 := Hg3.out
    have h3 := Hh3.out
    have hgu3 := heap_lt h3
    have h1 := Hh1.out
    have hsz17 := Hsz17.out
    go_wp2_with (first
      | ((with_reducible refine at_dst 11 ?_); refine wpList_load_row rfl 22 _ rfl (w.heap.size) rfl 22 (arrC N) (0, 0) _ h1 under32 rfl (info32_of (arrC N) (arrC_size _)) ?_))
    refine (isPoint_n N  lN hN _).mono ?_
    rintro e w18 ⟨rfl, hC18⟩
    have hs18 : w17.heap.size ≤ w18.heap.size := by have := hC18.size; (try simp only [alloc_size, setRow_size] at this); omega
    replace h1 : w18.heap[w.heap.size]? = some (.cells (arrC N) 22 (0, 0)) := (heap_call hC18 h1)
    replace h3 : w18.heap[g3]? = some (.cells (zL) 22 (0, 0)) := (heap_call hC18 h3)
    have hBw18 : Hid (Below w.heap.size w w18) := Lib.hid (below_call hBw17.out hC18)
    clear hC18
    go_wp2
    go_ret
    exact ⟨rfl, hBw18.out⟩
theorem PtNeu_walk (N : Nat) (lN : N < 256 ^ 32) (B : Nat) (w : World) (hD0 : Var 1 z5 B w) (hD1 : Var 0 i5 B w) (hD2 : Var 2 o5 B w) : Calls Tryd.prog 9 #[.agg (arrC N)] w fun e w' => e = .returned (.bool true) ∧ Below w.heap.size w w' := by
  cases hP : decP N with
  | none => exact PtNeu_n N lN (Lib.hid hP) B w hD0 hD1 hD2
  | some P => exact PtNeu_s N P lN (Lib.hid hP) B w hD0 hD1 hD2
end

section
open Go.ChangeShapes Go.WideShapes Go.ChangeAt Go.RowKit
set_option maxRecDepth 100000 in
theorem fnPointNeutral_laid {W : World} (h : laidMetH Tryd.prog Rows.fnPointNeutralRow.laid W) : Var 1 z5 W.heap.size W ∧ Var 2 o5 W.heap.size W ∧ Var 0 i5 W.heap.size W := by
  rw [MakeChecks.laidMetH_plain _ _ _ (by kernel_rfl)] at h
  obtain ⟨ps, ⟨g0, t0, cs0, f0, q0, r0, hg0, ht0, hv0, hd0, ⟨g1, t1, cs1, f1, q1, r1, hg1, ht1, hv1, hd1, ⟨g2, t2, cs2, f2, q2, r2, hg2, ht2, hv2, hd2, hlast, hp2⟩, hp1⟩, hp0⟩, _, hfr⟩ := h
  obtain rfl := Option.some.inj ((show Tryd.prog.globalNamed "loop.example/pub-g03328/pub/field.feZero" = some 1 by kernel_rfl).symm.trans hg0)
  obtain rfl := Option.some.inj ((show (Tryd.prog.globals[1]?).map (·.type) = some 68 by kernel_rfl).symm.trans ht0)
  obtain rfl := Option.some.inj ((show Tryd.prog.globalNamed "loop.example/pub-g03328/pub/field.feOne" = some 2 by kernel_rfl).symm.trans hg1)
  obtain rfl := Option.some.inj ((show (Tryd.prog.globals[2]?).map (·.type) = some 68 by kernel_rfl).symm.trans ht1)
  obtain rfl := Option.some.inj ((show Tryd.prog.globalNamed "loop.example/pub-g03328/pub/field.sqrtM1" = some 0 by kernel_rfl).symm.trans hg2)
  obtain rfl := Option.some.inj ((show (Tryd.prog.globals[0]?).map (·.type) = some 68 by kernel_rfl).symm.trans ht2)
  have hin0 : ∀ x, x ∈ q0 → x ∈ ps := by
    intro x hx
    rw [hp0]
    simp [hx]
  have hD0 := laid_el 0 0 0 0 0 hg0 hv0 hd0 (fun b off hm => (hfr b off (hin0 _ hm)).1)
  have hin1 : ∀ x, x ∈ q1 → x ∈ ps := by
    intro x hx
    rw [hp0, hp1]
    simp [hx]
  have hD1 := laid_el 1 0 0 0 0 hg1 hv1 hd1 (fun b off hm => (hfr b off (hin1 _ hm)).1)
  have hin2 : ∀ x, x ∈ q2 → x ∈ ps := by
    intro x hx
    rw [hp0, hp1, hp2]
    simp [hx]
  have hD2 := laid_el 1718705420411056 234908883556509 2233514472574048 2117202627021982 765476049583133 hg2 hv2 hd2 (fun b off hm => (hfr b off (hin2 _ hm)).1)
  exact ⟨hD0, hD1, hD2⟩
theorem fnPointNeutral_met (os : Os) (args : Array Value) : laidMetH Tryd.prog Rows.fnPointNeutralRow.laid ((World.doorLaid Tryd.prog 400 os).forCall (fun _ _ => 0) ⟨#[], args, []⟩).memory :=
  laidMetH_of_parts3 (fuel := 8) (laidMet_of_run' 8 (by kernel_rfl) (by kernel_rfl)) (by kernel_rfl) (by kernel_rfl)
set_option maxRecDepth 100000 in
theorem fnPointNeutral_lifted (os : Os) (started : os.Started) (H : Type) (enc : TypeId × Value → H) :
    ReturnsInHanded {} Tryd.checked os 9 .any (fun w args => (Rows.fnPointNeutralSpec.pre enc Tryd.prog Tryd.f9 [] false w args ∧ laidMetH Tryd.prog Rows.fnPointNeutralRow.laid w) ∧ sizedMet enc Tryd.prog Tryd.f9 (OpenSpec.ofChange Rows.fnPointNeutralSpec) false w args)
      (Rows.fnPointNeutralSpec.post enc Tryd.prog Tryd.f9 false true false false) := by
  refine returnsInHanded_of_change_and (C := Tryd.checked) (X := fun w _ => laidMetH Tryd.prog Rows.fnPointNeutralRow.laid w) (fun _ _ _ hh h => h.of_heap hh) Tryd.own started (by kernel_rfl) Tryd.func9
    (ChangeSpec.witness_shaped (enc := enc) (C := Tryd.checked) (os := os) (X := fun w _ => laidMetH Tryd.prog Rows.fnPointNeutralRow.laid w) false (World.doorLaid Tryd.prog 400 os) #[.agg #[.int .u8 0, .int .u8 0, .int .u8 0, .int .u8 0, .int .u8 0, .int .u8 0, .int .u8 0, .int .u8 0, .int .u8 0, .int .u8 0, .int .u8 0, .int .u8 0, .int .u8 0, .int .u8 0, .int .u8 0, .int .u8 0, .int .u8 0, .int .u8 0, .int .u8 0, .int .u8 0, .int .u8 0, .int .u8 0, .int .u8 0, .int .u8 0, .int .u8 0, .int .u8 0, .int .u8 0, .int .u8 0, .int .u8 0, .int .u8 0, .int .u8 0, .int .u8 0]] 8 rfl (World.shaped_of_RefB (by kernel_rfl) (by kernel_rfl)) (by kernel_rfl) (by kernel_rfl) (by kernel_rfl) (fnPointNeutral_met os _)) ?_
  intro W base args ds gs before hval0 hW _ _ hL _
  have hval : ∀ (j : Nat) t v, Tryd.f9.params[j]? = some t → args[j]? = some v → Value.okWide Tryd.prog W .any base t v := hval0
  have hW' := hW
  obtain ⟨p, q, hA0, hV, rfl, hfz, hnd⟩ := hW
  have hA : DataW.TrodAll enc Tryd.prog W 0 (fun _ => true) true Tryd.f9.params.toList args.toList ds p := hA0
  rw [Tryd.params9] at hA hval
  obtain ⟨v0, d0, rfl, rfl, h0⟩ := trodAll_one hA
  obtain ⟨X, bX, rfl, rfl, sX⟩ := open32 (hval 0 22 v0 rfl rfl) h0
  clear hA0 hval0 hA
  have hVV : DataW.TrodVars enc Tryd.prog W (fun _ => true) ["loop.example/pub-g03328/pub/field.feOne", "loop.example/pub-g03328/pub/field.sqrtM1", "loop.example/pub-g03328/pub/field.feZero"] gs q := hV
  have hVs := fun W' (hB : Below W.heap.size W W') => vars_stay hB (ns := ["loop.example/pub-g03328/pub/field.feOne", "loop.example/pub-g03328/pub/field.sqrtM1", "loop.example/pub-g03328/pub/field.feZero"]) (gs := gs) (q := q) (by
    intro n hn g t hg ht
    simp only [List.mem_cons, List.not_mem_nil, or_false] at hn
    rcases hn with rfl | rfl | rfl
    · obtain rfl := Option.some.inj ((show Tryd.prog.globalNamed "loop.example/pub-g03328/pub/field.feOne" = some 2 by kernel_rfl).symm.trans hg)
      obtain rfl := Option.some.inj ((show (Tryd.prog.globals[2]?).map (·.type) = some 68 by kernel_rfl).symm.trans ht)
      exact ⟨by kernel_rfl, of_decide_eq_true (by kernel_rfl)⟩
    · obtain rfl := Option.some.inj ((show Tryd.prog.globalNamed "loop.example/pub-g03328/pub/field.sqrtM1" = some 0 by kernel_rfl).symm.trans hg)
      obtain rfl := Option.some.inj ((show (Tryd.prog.globals[0]?).map (·.type) = some 68 by kernel_rfl).symm.trans ht)
      exact ⟨by kernel_rfl, of_decide_eq_true (by kernel_rfl)⟩
    · obtain rfl := Option.some.inj ((show Tryd.prog.globalNamed "loop.example/pub-g03328/pub/field.feZero" = some 1 by kernel_rfl).symm.trans hg)
      obtain rfl := Option.some.inj ((show (Tryd.prog.globals[1]?).map (·.type) = some 68 by kernel_rfl).symm.trans ht)
      exact ⟨by kernel_rfl, of_decide_eq_true (by kernel_rfl)⟩) hVV
  obtain ⟨y0, y1, y2, hgs⟩ := list_len3 (trodVars_len hVV)
  subst hgs
  obtain ⟨hD0, hD1, hD2⟩ := fnPointNeutral_laid hL
  refine (PtNeu_walk X bX W.heap.size W hD0 hD2 hD1).mono fun e W' ⟨he, hB⟩ => ?_
  subst he
  exact ⟨_, rfl, _, _, _, [], [], q, hW', trodAll_mk1 (shut_bool (by kernel_rfl) true), trodAll_mk1 (sX W' _), hVs W' hB, hB.frame _, fun h => by cases h⟩
theorem fnPointNeutral_holds : Rows.FnPointNeutralSaid :=
  OpenClaim.holds_of_wide 9 Tryd.f9 rfl rfl rfl rfl rfl rfl rfl ⟨rfl, rfl, rfl, rfl, rfl⟩ rfl rfl rfl rfl rfl (by kernel_rfl) Tryd.func9 (by kernel_rfl)
    (of_decide_eq_true (by kernel_rfl)) (by unfold Func.isWrapper; first | (rw [if_pos (by decide +kernel)]; kernel_rfl) | (rw [if_neg (by decide +kernel)]; exact ⟨rfl, rfl⟩))
    (fun os started H enc _ => fnPointNeutral_lifted os started H enc)
theorem fnPointNeutral_card : Rows.FnPointNeutralCardSaid :=
  Claim7.holds_tied_plain_at .later [] [.widerDeep, .widerDeep, .widerDeep] true Rows.fnPointNeutralCard.stood.harness false
    fnPointNeutral_holds (fun _ h => by cases h) (by kernel_rfl) (fun _ h => by cases h) fnPointNeutral_row_tie rfl ⟨rfl, rfl⟩ (by kernel_rfl) rfl
    (fun f fn hf hfn => by
      obtain rfl : f = 9 := Option.some.inj ((show Tryd.prog.funcNamed "loop.example/pub-g03328/laws.FnPointNeutral" = some 9 by kernel_rfl).symm.trans hf) |>.symm
      obtain rfl : fn = Tryd.f9 := (Option.some.inj (Tryd.func9.symm.trans hfn)).symm
      exact ⟨by kernel_rfl, fun j t ht => by
        rw [Tryd.params9] at ht
        have h3 : t = 22 := by
          rcases j with _ | j
          · simp at ht; subst ht; simp
          · simp at ht
        subst h3
        exact (show Tryd.prog.wantsStandIn 22 = false by kernel_rfl)⟩)
    (by kernel_rfl)
end

end Go.Proofs.YtcenlinpbpbpoaaDoor
