/- Parts of texts for several laws: laws. -/
import Derived.BigRegion
import Derived.ChangeKeysEq
import Derived.Deep.DeepCutAuto
import Derived.Deep.Draws
import Derived.Deep.Fields
import Derived.Deep.MidRow
import Derived.Deep.Quiet
import Derived.Deep.RegionHeld3
import Derived.Deep.WholeRow
import Derived.Great.BuildSlice
import Derived.LaidMore
import Derived.Laws.AppendOwn
import Derived.Laws.Bits64b
import Derived.Laws.CopyOwn
import Derived.Laws.CopyRow
import Derived.Laws.Externs
import Derived.Laws.StructEq
import Derived.Laws.Tables
import Derived.Lib.Hide
import Derived.LoopTactic
import Derived.OpenShut
import Derived.ProofKit
import Derived.StillTailTactics
import Derived.Stop.Joined
import Derived.Test.YtcenlinpbpbpoaaDoorProg
import Derived.WalkKit
import Derived.WalkLawsBesides
import Derived.WalkSpells
import Derived.WideKeyArgs
import Derived.Test.YtcenlinpbpbpoaaDoorKC0
import Derived.Test.YtcenlinpbpbpoaaDoorKC1
import Derived.Test.YtcenlinpbpbpoaaDoorKC10
import Derived.Test.YtcenlinpbpbpoaaDoorKC2
import Derived.Test.YtcenlinpbpbpoaaDoorKC3
import Derived.Test.YtcenlinpbpbpoaaDoorKC4
import Derived.Test.YtcenlinpbpbpoaaDoorKC5
import Derived.Test.YtcenlinpbpbpoaaDoorKC6
import Derived.Test.YtcenlinpbpbpoaaDoorKC7
import Derived.Test.YtcenlinpbpbpoaaDoorKC8
import Derived.Test.YtcenlinpbpbpoaaDoorKC9
import Derived.Test.YtcenlinpbpbpoaaDoorKHF1
import Derived.Test.YtcenlinpbpbpoaaDoorKHF3
import Derived.Test.YtcenlinpbpbpoaaDoorKHGr
import Derived.Test.YtcenlinpbpbpoaaDoorKHPI
import Derived.Test.YtcenlinpbpbpoaaDoorKHPO
import Derived.Test.YtcenlinpbpbpoaaDoorKHPP
import Derived.Test.YtcenlinpbpbpoaaDoorKHPS
import Derived.Test.YtcenlinpbpbpoaaDoorKHS8
import Derived.Test.YtcenlinpbpbpoaaDoorKHSQ
import Derived.Test.YtcenlinpbpbpoaaDoorKHSQB
import Derived.Test.YtcenlinpbpbpoaaDoorKHSQN
import Derived.Test.YtcenlinpbpbpoaaDoorKHSRD
import Derived.Test.YtcenlinpbpbpoaaDoorKHU1
import Derived.Test.YtcenlinpbpbpoaaDoorKHUM
import Derived.Test.YtcenlinpbpbpoaaDoorKHUN
import Derived.Test.YtcenlinpbpbpoaaDoorKHUS
import Derived.Test.YtcenlinpbpbpoaaDoorKHUSR
import Derived.Test.YtcenlinpbpbpoaaDoorKHUSe
import Derived.Test.YtcenlinpbpbpoaaDoorKL0
import Derived.Test.YtcenlinpbpbpoaaDoorKL1
import Derived.Test.YtcenlinpbpbpoaaDoorKL2
import Derived.Test.YtcenlinpbpbpoaaDoorKL3
import Derived.Test.YtcenlinpbpbpoaaDoorKL4
namespace Go.Proofs.YtcenlinpbpbpoaaDoor
set_option maxRecDepth 4000
set_option linter.unusedSimpArgs false
set_option linter.unusedVariables false
section
open Go.RowKit
set_option maxHeartbeats 4000000 in
theorem told_to (N : Nat) (P : CP) (lN : N < 256 ^ 32) (hN : Hid (decP N = some P)) (B : Nat) (w : World) (hD0 : Var 1 z5 B w) (hD1 : Var 0 i5 B w) (hD2 : Var 2 o5 B w) :
    Calls Tryd.prog 24 #[.agg (arrC N)] w fun e w' => e = .returned (.agg (arrC (encN P))) ∧ Below w.heap.size w w' := by
  have hBl := hD0.1
  go_enter Tryd.func24, Tryd.ntmps24
  go_wp2_with fail
  try simp only [Act.put]
  refine wp_named ?_
  intro w1 ew1
  have hs1 : w.heap.size + 1 + 1 ≤ w1.heap.size := by rw [ew1]; (try simp only [alloc_size, setRow_size]); omega
  replace h1 : w1.heap[w.heap.size]? = some (.cells (arrC N) 22 (0, 0)) := by rw [ew1]; exact (heap_old _ (heap_new_at _ _ _ rfl))
  replace h2 : w1.heap[w.heap.size + 1]? = some (.cells (zL) 22 (0, 0)) := by rw [ew1]; exact (heap_new_at _ _ _ (by simp only [alloc_size, setRow_size]))
  have hBw1 : Hid (Below w.heap.size w w1) := Lib.hid (by rw [ew1]; exact (below_alloc (below_alloc (Below.refl _ w) _) _))
  clear ew1
  go_cut [3, 4, 5] (fun s3 s4 s5 wx => ∃ g3 : Nat, s3 = .pointer (some ⟨g3, 0, none⟩) ∧ Hid (w1.heap.size ≤ g3) ∧ Hid (wx.heap[g3]? = some (.cells (arrC (encN P)) 22 (0, 0))) ∧ s4 = .bool true ∧ s5 = .bool true ∧ Hid (wx.heap[w.heap.size]? = some (.cells (arrC N) 22 (0, 0))) ∧ Hid (wx.heap[w.heap.size + 1]? = some (.cells (zL) 22 (0, 0))) ∧ Hid (Below w.heap.size w wx) ∧ Hid (w1.heap.size ≤ wx.heap.size))
  case first =>
    refine wp_region_noPanic ?_
    refine wp_region_held_drew (S := Keep (w1.heap.size) w1) (by kernel_rfl) (Keep.start _ _) ?_
    intro hS
    obtain ⟨w2, ed⟩ : ∃ u : World, u = w1.drew := ⟨_, rfl⟩
    rw [← ed] at hS ⊢
    have xh1 : w2.heap[w.heap.size]? = some (.cells (arrC N) 22 (0, 0)) := by rw [ed]; exact h1
    have xh2 : w2.heap[w.heap.size + 1]? = some (.cells (zL) 22 (0, 0)) := by rw [ed]; exact h2
    clear ed
    have hSz := hS.size
    clear xh1
    clear xh2
    refine takeAtK (i := 1) (v := .agg (arrC N)) rfl (some 8) rfl (take_row rfl _ _ rfl (w.heap.size) rfl _ _ _ h1 (Nat.ne_of_lt (heap_lt h1)) under32 rfl (info32_of (arrC N) (arrC_size _))) hS ?_
    simp only [Act.put, sia, sc0, scs]
    refine wpAnyH_ready (rs := [0, 8]) (by kernel_rfl) (by simp) ?_
    refine (AllReadyH.cons rfl ?_ (AllReadyH.cons rfl ?_ AllReadyH.nil))
    · intro K hK
      refine ready_call rfl (some 7) rfl 15 #[] (by go_simp) ?_
      refine (iIdentity B _ (hD0.later (hBw1.out.trans (hS.below (by omega) hBw1.out.size))) (hD1.later (hBw1.out.trans (hS.below (by omega) hBw1.out.size))) (hD2.later (hBw1.out.trans (hS.below (by omega) hBw1.out.size)))).mono ?_
      rintro e w3 ⟨rfl, hC⟩
      refine ⟨_, rfl, ?_⟩
      simp only [Act.put, sia, sc0, scs]
      have hS := hS.call hC
      have hz3 := hC.size
      clear hC
      refine hK.out _ _ hS ?_
      clear hK K
      intro _
      have hSz := hS.size
      refine wpAnyH_ready (rs := [2, 8]) (by kernel_rfl) (by simp) ?_
      refine (AllReadyH.cons rfl ?_ (AllReadyH.cons rfl ?_ AllReadyH.nil))
      · intro K hK
        refine ready_call rfl (some 9) rfl 16 #[.agg (arrC N)] (by go_simp) ?_
        refine (slice_any N _).mono ?_
        rintro e w4 ⟨b1_2, c1_2, rfl, hcap1_2, hlb1_2, hC, xhr1_2⟩
        refine ⟨_, rfl, ?_⟩
        simp only [Act.put, sia, sc0, scs]
        have hS := hS.call hC
        have hz4 := hC.size
        clear hC
        have hlb1_2 : w3.heap.size ≤ b1_2 := by (try simp only [alloc_size, setRow_size] at hlb1_2); omega
        have hub1_2 := xhr1_2.lt
        refine hK.out _ _ hS ?_
        clear hK K
        intro _
        have hSz := hS.size
        refine wpAnyH_ready (rs := [3, 8]) (by kernel_rfl) (by simp) ?_
        refine (AllReadyH.cons rfl ?_ (AllReadyH.cons rfl ?_ AllReadyH.nil))
        · intro K hK
          refine ready_call rfl (some 10) rfl 13 #[.agg (arrC (encN (CP.zero))), .slice (some ⟨b1_2, 0, none⟩) 32 c1_2] (by go_simp) ?_
          refine (iSet_some_some (encN (CP.zero)) N (b1_2) (0) (c1_2) (CP.zero) P (encN_lt _) (Lib.hid (dec_enc _)) lN hN hcap1_2 B _ (hD0.later (hBw1.out.trans (hS.below (by omega) hBw1.out.size))) (hD1.later (hBw1.out.trans (hS.below (by omega) hBw1.out.size))) (hD2.later (hBw1.out.trans (hS.below (by omega) hBw1.out.size))) xhr1_2).mono ?_
          rintro e w5 ⟨rfl, hC⟩
          refine ⟨_, rfl, ?_⟩
          simp only [Act.put, sia, sc0, scs]
          have xhr1_2 : Row w5 (b1_2) (0) 32 (byV N) := (Row.below_all xhr1_2 hC)
          have hS := hS.call hC
          have hz5 := hC.size
          clear hC
          refine hK.out _ _ hS ?_
          clear hK K
          intro _
          have hSz := hS.size
          refine takeAtK (i := 4) (v := .tuple #[.agg (arrC (encN P)), .bool true, .bool true]) rfl (some 6) rfl (take_run rfl (fun _ _ => by go_simp)) hS ?_
          simp only [Act.put, sia, sc0, scs]
          refine takeAtK (i := 5) (v := .agg (arrC (encN P))) rfl (some 11) rfl (take_run rfl (fun _ _ => by go_simp)) hS ?_
          simp only [Act.put, sia, sc0, scs]
          refine takeAtK (i := 6) (v := .bool true) rfl (some 12) rfl (take_run rfl (fun _ _ => by go_simp)) hS ?_
          simp only [Act.put, sia, sc0, scs]
          refine takeAtK (i := 7) (v := .bool true) rfl (some 13) rfl (take_run rfl (fun _ _ => by go_simp)) hS ?_
          simp only [Act.put, sia, sc0, scs]
          refine wpAnyH_ready (rs := [8]) (by kernel_rfl) (by simp) ?_
          refine (AllReadyH.cons rfl ?_ AllReadyH.nil)
          intro K hK
          refine ready_run rfl (some 3) rfl (.pointer (some ⟨w5.heap.size, 0, none⟩)) (w5.alloc (.cells zL 22)) (by go_simp; try rfl) ?_
          simp only [Act.put, sia, sc0, scs]
          obtain ⟨w6, ea⟩ : ∃ u : World, u = w5.alloc (.cells zL 22) := ⟨_, rfl⟩
          rw [← ea]
          have hS := hS.alloc (.cells zL 22)
          rw [← ea] at hS
          have hz6 : w5.heap.size + 1 ≤ w6.heap.size := by rw [ea, alloc_size]; omega
          have hy6 : w1.heap.size ≤ w5.heap.size := hSz
          have xh3 : w6.heap[w5.heap.size]? = some (.cells (zL) 22 (0, 0)) := by rw [ea]; exact heap_new_at _ _ _ rfl
          clear ea
          refine hK.out _ _ hS ?_
          clear hK K
          intro _
          have hSz := hS.size
          refine wpAnyH_ready (rs := [9]) (by kernel_rfl) (by simp) ?_
          refine (AllReadyH.cons rfl ?_ AllReadyH.nil)
          intro K hK
          rw [if_pos (by rfl)]
          refine wp_store_row 22 _ _ rfl (w5.heap.size) (arrC (encN P)) rfl rfl 22 (zL) xh3 (info32_of (arrC (encN P)) (arrC_size _)) (zL_size.trans (arrC_size _).symm) (arrC_one _) ?_
          refine put_at (none) rfl ?_
          simp only [Act.put, sia, sc0, scs]
          have xh3 : (w6.setRow (w5.heap.size) (arrC (encN P))).heap[w5.heap.size]? = some (.cells (arrC (encN P)) 22 (0, 0)) := (setRow_heap _ _ _ _ _ _ xh3)
          have hS := hS.storeNew (arrC (encN P)) (show w1.heap.size ≤ w5.heap.size by omega)
          generalize w6.setRow (w5.heap.size) (arrC (encN P)) = w7 at *
          refine hK.out _ _ hS ?_
          clear hK K
          intro _
          have hSz := hS.size
          refine takeAtK (i := 10) (v := .bool true) rfl (some 4) rfl (take_run rfl (fun _ _ => by go_simp)) hS ?_
          simp only [Act.put, sia, sc0, scs]
          refine takeAtK (i := 11) (v := .bool true) rfl (some 5) rfl (take_run rfl (fun _ _ => by go_simp)) hS ?_
          simp only [Act.put, sia, sc0, scs]
          refine wpAnyH_done (by kernel_rfl) ?_ _
          refine NoPanic.normal ?_
          have hsz := hS.size
          have h1 : w7.heap[w.heap.size]? = some (.cells (arrC N) 22 (0, 0)) := hS.old h1 (Nat.ne_of_lt (heap_lt h1))
          have h2 : w7.heap[w.heap.size + 1]? = some (.cells (zL) 22 (0, 0)) := hS.old h2 (Nat.ne_of_lt (heap_lt h2))
          have h3 := xh3
          have hBw7 : Hid (Below w.heap.size w w7) := Lib.hid (hBw1.out.trans (hS.below (by omega) hBw1.out.size))
          clear hS
          go_wp2_with fail
          go_meet
          exact ⟨w5.heap.size, rfl, Lib.hid (show w1.heap.size ≤ w5.heap.size by omega), Lib.hid h3, rfl, rfl, Lib.hid h1, Lib.hid h2, Lib.hid hBw7.out, Lib.hid (show w1.heap.size ≤ w7.heap.size by omega)⟩
        · intro K hK
          refine ready_run rfl (some 3) rfl (.pointer (some ⟨w4.heap.size, 0, none⟩)) (w4.alloc (.cells zL 22)) (by go_simp; try rfl) ?_
          simp only [Act.put, sia, sc0, scs]
          obtain ⟨w9, ea⟩ : ∃ u : World, u = w4.alloc (.cells zL 22) := ⟨_, rfl⟩
          rw [← ea]
          have xhr1_2 : Row w9 (b1_2) (0) 32 (byV N) := by rw [ea]; exact (Row.alloc xhr1_2 _)
          have hS := hS.alloc (.cells zL 22)
          rw [← ea] at hS
          have hz9 : w4.heap.size + 1 ≤ w9.heap.size := by rw [ea, alloc_size]; omega
          have hy9 : w1.heap.size ≤ w4.heap.size := hSz
          have xh3 : w9.heap[w4.heap.size]? = some (.cells (zL) 22 (0, 0)) := by rw [ea]; exact heap_new_at _ _ _ rfl
          clear ea
          refine hK.out _ _ hS ?_
          clear hK K
          intro _
          have hSz := hS.size
          refine wpAnyH_ready (rs := [3]) (by kernel_rfl) (by simp) ?_
          refine (AllReadyH.cons rfl ?_ AllReadyH.nil)
          intro K hK
          refine ready_call rfl (some 10) rfl 13 #[.agg (arrC (encN (CP.zero))), .slice (some ⟨b1_2, 0, none⟩) 32 c1_2] (by go_simp) ?_
          refine (iSet_some_some (encN (CP.zero)) N (b1_2) (0) (c1_2) (CP.zero) P (encN_lt _) (Lib.hid (dec_enc _)) lN hN hcap1_2 B _ (hD0.later (hBw1.out.trans (hS.below (by omega) hBw1.out.size))) (hD1.later (hBw1.out.trans (hS.below (by omega) hBw1.out.size))) (hD2.later (hBw1.out.trans (hS.below (by omega) hBw1.out.size))) xhr1_2).mono ?_
          rintro e w10 ⟨rfl, hC⟩
          refine ⟨_, rfl, ?_⟩
          simp only [Act.put, sia, sc0, scs]
          have xhr1_2 : Row w10 (b1_2) (0) 32 (byV N) := (Row.below_all xhr1_2 hC)
          have xh3 : w10.heap[w4.heap.size]? = some (.cells (zL) 22 (0, 0)) := (heap_call hC xh3)
          have hS := hS.call hC
          have hz10 := hC.size
          clear hC
          refine hK.out _ _ hS ?_
          clear hK K
          intro _
          have hSz := hS.size
          refine takeAtK (i := 4) (v := .tuple #[.agg (arrC (encN P)), .bool true, .bool true]) rfl (some 6) rfl (take_run rfl (fun _ _ => by go_simp)) hS ?_
          simp only [Act.put, sia, sc0, scs]
          refine takeAtK (i := 5) (v := .agg (arrC (encN P))) rfl (some 11) rfl (take_run rfl (fun _ _ => by go_simp)) hS ?_
          simp only [Act.put, sia, sc0, scs]
          refine takeAtK (i := 6) (v := .bool true) rfl (some 12) rfl (take_run rfl (fun _ _ => by go_simp)) hS ?_
          simp only [Act.put, sia, sc0, scs]
          refine takeAtK (i := 7) (v := .bool true) rfl (some 13) rfl (take_run rfl (fun _ _ => by go_simp)) hS ?_
          simp only [Act.put, sia, sc0, scs]
          refine wpAnyH_ready (rs := [9]) (by kernel_rfl) (by simp) ?_
          refine (AllReadyH.cons rfl ?_ AllReadyH.nil)
          intro K hK
          rw [if_pos (by rfl)]
          refine wp_store_row 22 _ _ rfl (w4.heap.size) (arrC (encN P)) rfl rfl 22 (zL) xh3 (info32_of (arrC (encN P)) (arrC_size _)) (zL_size.trans (arrC_size _).symm) (arrC_one _) ?_
          refine put_at (none) rfl ?_
          simp only [Act.put, sia, sc0, scs]
          have xh3 : (w10.setRow (w4.heap.size) (arrC (encN P))).heap[w4.heap.size]? = some (.cells (arrC (encN P)) 22 (0, 0)) := (setRow_heap _ _ _ _ _ _ xh3)
          have hS := hS.storeNew (arrC (encN P)) (show w1.heap.size ≤ w4.heap.size by omega)
          generalize w10.setRow (w4.heap.size) (arrC (encN P)) = w11 at *
          refine hK.out _ _ hS ?_
          clear hK K
          intro _
          have hSz := hS.size
          refine takeAtK (i := 10) (v := .bool true) rfl (some 4) rfl (take_run rfl (fun _ _ => by go_simp)) hS ?_
          simp only [Act.put, sia, sc0, scs]
          refine takeAtK (i := 11) (v := .bool true) rfl (some 5) rfl (take_run rfl (fun _ _ => by go_simp)) hS ?_
          simp only [Act.put, sia, sc0, scs]
          refine wpAnyH_done (by kernel_rfl) ?_ _
          refine NoPanic.normal ?_
          have hsz := hS.size
          have h1 : w11.heap[w.heap.size]? = some (.cells (arrC N) 22 (0, 0)) := hS.old h1 (Nat.ne_of_lt (heap_lt h1))
          have h2 : w11.heap[w.heap.size + 1]? = some (.cells (zL) 22 (0, 0)) := hS.old h2 (Nat.ne_of_lt (heap_lt h2))
          have h3 := xh3
          have hBw11 : Hid (Below w.heap.size w w11) := Lib.hid (hBw1.out.trans (hS.below (by omega) hBw1.out.size))
          clear hS
          go_wp2_with fail
          go_meet
          exact ⟨w4.heap.size, rfl, Lib.hid (show w1.heap.size ≤ w4.heap.size by omega), Lib.hid h3, rfl, rfl, Lib.hid h1, Lib.hid h2, Lib.hid hBw11.out, Lib.hid (show w1.heap.size ≤ w11.heap.size by omega)⟩
      · intro K hK
        refine ready_run rfl (some 3) rfl (.pointer (some ⟨w3.heap.size, 0, none⟩)) (w3.alloc (.cells zL 22)) (by go_simp; try rfl) ?_
        simp only [Act.put, sia, sc0, scs]
        obtain ⟨w13, ea⟩ : ∃ u : World, u = w3.alloc (.cells zL 22) := ⟨_, rfl⟩
        rw [← ea]
        have hS := hS.alloc (.cells zL 22)
        rw [← ea] at hS
        have hz13 : w3.heap.size + 1 ≤ w13.heap.size := by rw [ea, alloc_size]; omega
        have hy13 : w1.heap.size ≤ w3.heap.size := hSz
        have xh3 : w13.heap[w3.heap.size]? = some (.cells (zL) 22 (0, 0)) := by rw [ea]; exact heap_new_at _ _ _ rfl
        clear ea
        refine hK.out _ _ hS ?_
        clear hK K
        intro _
        have hSz := hS.size
        refine wpAnyH_ready (rs := [2]) (by kernel_rfl) (by simp) ?_
        refine (AllReadyH.cons rfl ?_ AllReadyH.nil)
        intro K hK
        refine ready_call rfl (some 9) rfl 16 #[.agg (arrC N)] (by go_simp) ?_
        refine (slice_any N _).mono ?_
        rintro e w14 ⟨b1_2, c1_2, rfl, hcap1_2, hlb1_2, hC, xhr1_2⟩
        refine ⟨_, rfl, ?_⟩
        simp only [Act.put, sia, sc0, scs]
        have xh3 : w14.heap[w3.heap.size]? = some (.cells (zL) 22 (0, 0)) := (heap_call hC xh3)
        have hS := hS.call hC
        have hz14 := hC.size
        clear hC
        have hlb1_2 : w13.heap.size ≤ b1_2 := by (try simp only [alloc_size, setRow_size] at hlb1_2); omega
        have hub1_2 := xhr1_2.lt
        refine hK.out _ _ hS ?_
        clear hK K
        intro _
        have hSz := hS.size
        refine wpAnyH_ready (rs := [3]) (by kernel_rfl) (by simp) ?_
        refine (AllReadyH.cons rfl ?_ AllReadyH.nil)
        intro K hK
        refine ready_call rfl (some 10) rfl 13 #[.agg (arrC (encN (CP.zero))), .slice (some ⟨b1_2, 0, none⟩) 32 c1_2] (by go_simp) ?_
        refine (iSet_some_some (encN (CP.zero)) N (b1_2) (0) (c1_2) (CP.zero) P (encN_lt _) (Lib.hid (dec_enc _)) lN hN hcap1_2 B _ (hD0.later (hBw1.out.trans (hS.below (by omega) hBw1.out.size))) (hD1.later (hBw1.out.trans (hS.below (by omega) hBw1.out.size))) (hD2.later (hBw1.out.trans (hS.below (by omega) hBw1.out.size))) xhr1_2).mono ?_
        rintro e w15 ⟨rfl, hC⟩
        refine ⟨_, rfl, ?_⟩
        simp only [Act.put, sia, sc0, scs]
        have xh3 : w15.heap[w3.heap.size]? = some (.cells (zL) 22 (0, 0)) := (heap_call hC xh3)
        have xhr1_2 : Row w15 (b1_2) (0) 32 (byV N) := (Row.below_all xhr1_2 hC)
        have hS := hS.call hC
        have hz15 := hC.size
        clear hC
        refine hK.out _ _ hS ?_
        clear hK K
        intro _
        have hSz := hS.size
        refine takeAtK (i := 4) (v := .tuple #[.agg (arrC (encN P)), .bool true, .bool true]) rfl (some 6) rfl (take_run rfl (fun _ _ => by go_simp)) hS ?_
        simp only [Act.put, sia, sc0, scs]
        refine takeAtK (i := 5) (v := .agg (arrC (encN P))) rfl (some 11) rfl (take_run rfl (fun _ _ => by go_simp)) hS ?_
        simp only [Act.put, sia, sc0, scs]
        refine takeAtK (i := 6) (v := .bool true) rfl (some 12) rfl (take_run rfl (fun _ _ => by go_simp)) hS ?_
        simp only [Act.put, sia, sc0, scs]
        refine takeAtK (i := 7) (v := .bool true) rfl (some 13) rfl (take_run rfl (fun _ _ => by go_simp)) hS ?_
        simp only [Act.put, sia, sc0, scs]
        refine wpAnyH_ready (rs := [9]) (by kernel_rfl) (by simp) ?_
        refine (AllReadyH.cons rfl ?_ AllReadyH.nil)
        intro K hK
        rw [if_pos (by rfl)]
        refine wp_store_row 22 _ _ rfl (w3.heap.size) (arrC (encN P)) rfl rfl 22 (zL) xh3 (info32_of (arrC (encN P)) (arrC_size _)) (zL_size.trans (arrC_size _).symm) (arrC_one _) ?_
        refine put_at (none) rfl ?_
        simp only [Act.put, sia, sc0, scs]
        have xh3 : (w15.setRow (w3.heap.size) (arrC (encN P))).heap[w3.heap.size]? = some (.cells (arrC (encN P)) 22 (0, 0)) := (setRow_heap _ _ _ _ _ _ xh3)
        have hS := hS.storeNew (arrC (encN P)) (show w1.heap.size ≤ w3.heap.size by omega)
        generalize w15.setRow (w3.heap.size) (arrC (encN P)) = w16 at *
        refine hK.out _ _ hS ?_
        clear hK K
        intro _
        have hSz := hS.size
        refine takeAtK (i := 10) (v := .bool true) rfl (some 4) rfl (take_run rfl (fun _ _ => by go_simp)) hS ?_
        simp only [Act.put, sia, sc0, scs]
        refine takeAtK (i := 11) (v := .bool true) rfl (some 5) rfl (take_run rfl (fun _ _ => by go_simp)) hS ?_
        simp only [Act.put, sia, sc0, scs]
        refine wpAnyH_done (by kernel_rfl) ?_ _
        refine NoPanic.normal ?_
        have hsz := hS.size
        have h1 : w16.heap[w.heap.size]? = some (.cells (arrC N) 22 (0, 0)) := hS.old h1 (Nat.ne_of_lt (heap_lt h1))
        have h2 : w16.heap[w.heap.size + 1]? = some (.cells (zL) 22 (0, 0)) := hS.old h2 (Nat.ne_of_lt (heap_lt h2))
        have h3 := xh3
        have hBw16 : Hid (Below w.heap.size w w16) := Lib.hid (hBw1.out.trans (hS.below (by omega) hBw1.out.size))
        clear hS
        go_wp2_with fail
        go_meet
        exact ⟨w3.heap.size, rfl, Lib.hid (show w1.heap.size ≤ w3.heap.size by omega), Lib.hid h3, rfl, rfl, Lib.hid h1, Lib.hid h2, Lib.hid hBw16.out, Lib.hid (show w1.heap.size ≤ w16.heap.size by omega)⟩
    · intro K hK
      refine ready_run rfl (some 3) rfl (.pointer (some ⟨w2.heap.size, 0, none⟩)) (w2.alloc (.cells zL 22)) (by go_simp; try rfl) ?_
      simp only [Act.put, sia, sc0, scs]
      obtain ⟨w18, ea⟩ : ∃ u : World, u = w2.alloc (.cells zL 22) := ⟨_, rfl⟩
      rw [← ea]
      have hS := hS.alloc (.cells zL 22)
      rw [← ea] at hS
      have hz18 : w2.heap.size + 1 ≤ w18.heap.size := by rw [ea, alloc_size]; omega
      have hy18 : w1.heap.size ≤ w2.heap.size := hSz
      have xh3 : w18.heap[w2.heap.size]? = some (.cells (zL) 22 (0, 0)) := by rw [ea]; exact heap_new_at _ _ _ rfl
      clear ea
      refine hK.out _ _ hS ?_
      clear hK K
      intro _
      have hSz := hS.size
      refine wpAnyH_ready (rs := [0]) (by kernel_rfl) (by simp) ?_
      refine (AllReadyH.cons rfl ?_ AllReadyH.nil)
      intro K hK
      refine ready_call rfl (some 7) rfl 15 #[] (by go_simp) ?_
      refine (iIdentity B _ (hD0.later (hBw1.out.trans (hS.below (by omega) hBw1.out.size))) (hD1.later (hBw1.out.trans (hS.below (by omega) hBw1.out.size))) (hD2.later (hBw1.out.trans (hS.below (by omega) hBw1.out.size)))).mono ?_
      rintro e w19 ⟨rfl, hC⟩
      refine ⟨_, rfl, ?_⟩
      simp only [Act.put, sia, sc0, scs]
      have xh3 : w19.heap[w2.heap.size]? = some (.cells (zL) 22 (0, 0)) := (heap_call hC xh3)
      have hS := hS.call hC
      have hz19 := hC.size
      clear hC
      refine hK.out _ _ hS ?_
      clear hK K
      intro _
      have hSz := hS.size
      refine wpAnyH_ready (rs := [2]) (by kernel_rfl) (by simp) ?_
      refine (AllReadyH.cons rfl ?_ AllReadyH.nil)
      intro K hK
      refine ready_call rfl (some 9) rfl 16 #[.agg (arrC N)] (by go_simp) ?_
      refine (slice_any N _).mono ?_
      rintro e w20 ⟨b1_2, c1_2, rfl, hcap1_2, hlb1_2, hC, xhr1_2⟩
      refine ⟨_, rfl, ?_⟩
      simp only [Act.put, sia, sc0, scs]
      have xh3 : w20.heap[w2.heap.size]? = some (.cells (zL) 22 (0, 0)) := (heap_call hC xh3)
      have hS := hS.call hC
      have hz20 := hC.size
      clear hC
      have hlb1_2 : w19.heap.size ≤ b1_2 := by (try simp only [alloc_size, setRow_size] at hlb1_2); omega
      have hub1_2 := xhr1_2.lt
      refine hK.out _ _ hS ?_
      clear hK K
      intro _
      have hSz := hS.size
      refine wpAnyH_ready (rs := [3]) (by kernel_rfl) (by simp) ?_
      refine (AllReadyH.cons rfl ?_ AllReadyH.nil)
      intro K hK
      refine ready_call rfl (some 10) rfl 13 #[.agg (arrC (encN (CP.zero))), .slice (some ⟨b1_2, 0, none⟩) 32 c1_2] (by go_simp) ?_
      refine (iSet_some_some (encN (CP.zero)) N (b1_2) (0) (c1_2) (CP.zero) P (encN_lt _) (Lib.hid (dec_enc _)) lN hN hcap1_2 B _ (hD0.later (hBw1.out.trans (hS.below (by omega) hBw1.out.size))) (hD1.later (hBw1.out.trans (hS.below (by omega) hBw1.out.size))) (hD2.later (hBw1.out.trans (hS.below (by omega) hBw1.out.size))) xhr1_2).mono ?_
      rintro e w21 ⟨rfl, hC⟩
      refine ⟨_, rfl, ?_⟩
      simp only [Act.put, sia, sc0, scs]
      have xh3 : w21.heap[w2.heap.size]? = some (.cells (zL) 22 (0, 0)) := (heap_call hC xh3)
      have xhr1_2 : Row w21 (b1_2) (0) 32 (byV N) := (Row.below_all xhr1_2 hC)
      have hS := hS.call hC
      have hz21 := hC.size
      clear hC
      refine hK.out _ _ hS ?_
      clear hK K
      intro _
      have hSz := hS.size
      refine takeAtK (i := 4) (v := .tuple #[.agg (arrC (encN P)), .bool true, .bool true]) rfl (some 6) rfl (take_run rfl (fun _ _ => by go_simp)) hS ?_
      simp only [Act.put, sia, sc0, scs]
      refine takeAtK (i := 5) (v := .agg (arrC (encN P))) rfl (some 11) rfl (take_run rfl (fun _ _ => by go_simp)) hS ?_
      simp only [Act.put, sia, sc0, scs]
      refine takeAtK (i := 6) (v := .bool true) rfl (some 12) rfl (take_run rfl (fun _ _ => by go_simp)) hS ?_
      simp only [Act.put, sia, sc0, scs]
      refine takeAtK (i := 7) (v := .bool true) rfl (some 13) rfl (take_run rfl (fun _ _ => by go_simp)) hS ?_
      simp only [Act.put, sia, sc0, scs]
      refine wpAnyH_ready (rs := [9]) (by kernel_rfl) (by simp) ?_
      refine (AllReadyH.cons rfl ?_ AllReadyH.nil)
      intro K hK
      rw [if_pos (by rfl)]
      refine wp_store_row 22 _ _ rfl (w2.heap.size) (arrC (encN P)) rfl rfl 22 (zL) xh3 (info32_of (arrC (encN P)) (arrC_size _)) (zL_size.trans (arrC_size _).symm) (arrC_one _) ?_
      refine put_at (none) rfl ?_
      simp only [Act.put, sia, sc0, scs]
      have xh3 : (w21.setRow (w2.heap.size) (arrC (encN P))).heap[w2.heap.size]? = some (.cells (arrC (encN P)) 22 (0, 0)) := (setRow_heap _ _ _ _ _ _ xh3)
      have hS := hS.storeNew (arrC (encN P)) (show w1.heap.size ≤ w2.heap.size by omega)
      generalize w21.setRow (w2.heap.size) (arrC (encN P)) = w22 at *
      refine hK.out _ _ hS ?_
      clear hK K
      intro _
      have hSz := hS.size
      refine takeAtK (i := 10) (v := .bool true) rfl (some 4) rfl (take_run rfl (fun _ _ => by go_simp)) hS ?_
      simp only [Act.put, sia, sc0, scs]
      refine takeAtK (i := 11) (v := .bool true) rfl (some 5) rfl (take_run rfl (fun _ _ => by go_simp)) hS ?_
      simp only [Act.put, sia, sc0, scs]
      refine wpAnyH_done (by kernel_rfl) ?_ _
      refine NoPanic.normal ?_
      have hsz := hS.size
      have h1 : w22.heap[w.heap.size]? = some (.cells (arrC N) 22 (0, 0)) := hS.old h1 (Nat.ne_of_lt (heap_lt h1))
      have h2 : w22.heap[w.heap.size + 1]? = some (.cells (zL) 22 (0, 0)) := hS.old h2 (Nat.ne_of_lt (heap_lt h2))
      have h3 := xh3
      have hBw22 : Hid (Below w.heap.size w w22) := Lib.hid (hBw1.out.trans (hS.below (by omega) hBw1.out.size))
      clear hS
      go_wp2_with fail
      go_meet
      exact ⟨w2.heap.size, rfl, Lib.hid (show w1.heap.size ≤ w2.heap.size by omega), Lib.hid h3, rfl, rfl, Lib.hid h1, Lib.hid h2, Lib.hid hBw22.out, Lib.hid (show w1.heap.size ≤ w22.heap.size by omega)⟩
  case rest =>
    obtain ⟨g3, rfl, Hg3, Hh3, rfl, rfl, Hh1, Hh2, hBw24, Hsz24⟩ := hcut
    obtain ⟨w24, rfl⟩ : ∃ u : World, u = wc := ⟨_, rfl⟩
    have hgl3 := Hg3.out
    have h3 := Hh3.out
    have hgu3 := heap_lt h3
    have h1 := Hh1.out
    have h2 := Hh2.out
    have hsz24 := Hsz24.out
    go_wp2_with (first
      | ((with_reducible refine at_dst 14 ?_); refine wpList_load_row rfl 22 _ rfl (g3) rfl 22 (arrC (encN P)) (0, 0) _ h3 under32 rfl (info32_of (arrC (encN P)) (arrC_size _)) ?_)
      | ((with_reducible refine at_store 2 ?_); refine wpList_store_row rfl 22 _ _ rfl (w.heap.size + 1) (arrC (encN P)) rfl rfl 22 (zL) h2 (info32_of (arrC (encN P)) (arrC_size _)) (zL_size.trans (arrC_size _).symm) (arrC_one _) ?_))
    refine bodyPost_ret (results_cell_row rfl _ _ (w.heap.size + 1) 22 (arrC (encN P)) (0, 0) _ rfl (setRow_heap _ _ _ _ _ _ h2) under32 rfl (info32_of (arrC (encN P)) (arrC_size _))) rfl ⟨rfl, (below_setRow hBw24.out (by omega) _)⟩
theorem told_toe (P : CP) (E : Nat) (HE : Hid (E = encN P)) (N : Nat) (lN : N < 256 ^ 32) (hN : Hid (decP N = some P)) (B : Nat) (w : World) (hD0 : Var 1 z5 B w) (hD1 : Var 0 i5 B w) (hD2 : Var 2 o5 B w) :
    Calls Tryd.prog 24 #[.agg (arrC N)] w fun e w' => e = .returned (.agg (arrC E)) ∧ Below w.heap.size w w' := by
  rw [HE.out]
  exact told_to N P lN hN B w hD0 hD1 hD2
end

end Go.Proofs.YtcenlinpbpbpoaaDoor
