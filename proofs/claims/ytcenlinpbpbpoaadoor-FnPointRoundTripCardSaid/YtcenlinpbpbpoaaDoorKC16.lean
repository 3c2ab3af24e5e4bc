/- Parts of texts for several laws: impl's calls on points. -/
import Derived.BigRegion
import Derived.ChangeKeysEq
import Derived.Deep.DeepCutAuto
import Derived.Deep.Draws
import Derived.Deep.Fields
import Derived.Deep.MidRow
import Derived.Deep.Quiet
import Derived.Deep.RegionHeld3
import Derived.Deep.WholeRow
import Derived.Great.BuildSlice
import Derived.LaidMore
import Derived.Laws.AppendOwn
import Derived.Laws.Bits64b
import Derived.Laws.CopyOwn
import Derived.Laws.CopyRow
import Derived.Laws.Externs
import Derived.Laws.StructEq
import Derived.Laws.Tables
import Derived.Lib.Hide
import Derived.LoopTactic
import Derived.OpenShut
import Derived.ProofKit
import Derived.StillTailTactics
import Derived.Stop.Joined
import Derived.Test.YtcenlinpbpbpoaaDoorProg
import Derived.WalkKit
import Derived.WalkLawsBesides
import Derived.WalkSpells
import Derived.WideKeyArgs
import Derived.Test.YtcenlinpbpbpoaaDoorKC0
import Derived.Test.YtcenlinpbpbpoaaDoorKC2
import Derived.Test.YtcenlinpbpbpoaaDoorKC6
import Derived.Test.YtcenlinpbpbpoaaDoorKHF1
import Derived.Test.YtcenlinpbpbpoaaDoorKHF3
import Derived.Test.YtcenlinpbpbpoaaDoorKHGr
import Derived.Test.YtcenlinpbpbpoaaDoorKHPI
import Derived.Test.YtcenlinpbpbpoaaDoorKHPO
import Derived.Test.YtcenlinpbpbpoaaDoorKHPP
import Derived.Test.YtcenlinpbpbpoaaDoorKHPS
import Derived.Test.YtcenlinpbpbpoaaDoorKHS8
import Derived.Test.YtcenlinpbpbpoaaDoorKHSQ
import Derived.Test.YtcenlinpbpbpoaaDoorKHSQB
import Derived.Test.YtcenlinpbpbpoaaDoorKHSQN
import Derived.Test.YtcenlinpbpbpoaaDoorKHSRD
import Derived.Test.YtcenlinpbpbpoaaDoorKHU1
import Derived.Test.YtcenlinpbpbpoaaDoorKHUM
import Derived.Test.YtcenlinpbpbpoaaDoorKHUN
import Derived.Test.YtcenlinpbpbpoaaDoorKHUS
import Derived.Test.YtcenlinpbpbpoaaDoorKHUSR
import Derived.Test.YtcenlinpbpbpoaaDoorKHUSe
import Derived.Test.YtcenlinpbpbpoaaDoorKL0
import Derived.Test.YtcenlinpbpbpoaaDoorKL1
import Derived.Test.YtcenlinpbpbpoaaDoorKL2
import Derived.Test.YtcenlinpbpbpoaaDoorKL3
import Derived.Test.YtcenlinpbpbpoaaDoorKL4
namespace Go.Proofs.YtcenlinpbpbpoaaDoor
set_option maxRecDepth 4000
set_option linter.unusedSimpArgs false
set_option linter.unusedVariables false
section
open Go.RowKit
set_option maxHeartbeats 4000000 in
theorem iSet_some_none (N M xb xo cap : Nat) (P : CP) (lN : N < 256 ^ 32) (hN : Hid (decP N = some P)) (lM : M < 256 ^ 32) (hM : Hid (decP M = none)) (hcap : 32 ≤ cap) (B : Nat) (w : World) (hD0 : Var 1 z5 B w) (hD1 : Var 0 i5 B w) (hD2 : Var 2 o5 B w) (hx : Row w xb xo 32 (byV M)) :
    Calls Tryd.prog 13 #[.agg (arrC N), .slice (some ⟨xb, xo, none⟩) 32 cap] w fun e w' => e = .returned (.tuple #[.agg (arrC (encN P)), .bool false, .bool true]) ∧ Below w.heap.size w w' := by
  have hBl := hD0.1
  have hxl := hx.lt
  go_enter Tryd.func13, Tryd.ntmps13
  go_wp2_with (first
    | ((with_reducible refine at_dst 12 ?_); refine wpList_load_row rfl 22 _ rfl (w.heap.size) rfl 22 (arrC N) (0, 0) _ (heap_old _ (heap_new_at _ _ _ rfl)) under32 rfl (info32_of (arrC N) (arrC_size _)) ?_))
  refine (pointOf_some N P lN hN B _ (hD0.later (below_alloc (below_alloc (Below.refl _ w) _) _)) (hD1.later (below_alloc (below_alloc (Below.refl _ w) _) _)) (hD2.later (below_alloc (below_alloc (Below.refl _ w) _) _))).mono ?_
  rintro e w1 ⟨b1_1, x1_1_0, x1_1_1, x1_1_2, x1_1_3, rfl, hlb1_1, hC1, hq1_1, xhf1_1_0, xhf1_1_1, xhf1_1_2, xhf1_1_3⟩
  have hs1 : w.heap.size + 1 + 1 ≤ w1.heap.size := by have := hC1.size; (try simp only [alloc_size, setRow_size] at this); omega
  replace hx : Row w1 (xb) (xo) 32 (byV M) := (Row.below_all (Row.alloc (Row.alloc hx _) _) hC1)
  replace h2 : w1.heap[w.heap.size]? = some (.cells (arrC N) 22 (0, 0)) := (heap_call hC1 (heap_old _ (heap_new_at _ _ _ rfl)))
  replace h4 : w1.heap[w.heap.size + 1]? = some (.cells (zL) 22 (0, 0)) := (heap_call hC1 (heap_new_at _ _ _ (by simp only [alloc_size, setRow_size])))
  have hBw1 : Hid (Below w.heap.size w w1) := Lib.hid (below_call (below_alloc (below_alloc (Below.refl _ w) _) _) hC1)
  clear hC1
  have hlb1_1 : w.heap.size + 1 + 1 ≤ b1_1 := by (try simp only [alloc_size, setRow_size] at hlb1_1); omega
  have hub1_1 := xhf1_1_0.lt
  go_wp2_with fail
  refine (pt_setBytes_none (b1_1) (0) (xb) (xo) (M) (cap) _ _ _ _ hM.out (by omega) (by omega) B _ (hD0.later hBw1.out) (hD1.later hBw1.out) (hD2.later hBw1.out) (by omega) xhf1_1_0 xhf1_1_1 xhf1_1_2 xhf1_1_3 hx).mono ?_
  rintro e w2 ⟨u4_2, rfl, hC2⟩
  have hs2 : w1.heap.size ≤ w2.heap.size := by have := hC2.size; (try simp only [alloc_size, setRow_size] at this); omega
  replace hx : Row w2 (xb) (xo) 32 (byV M) := (Row.below_all hx hC2)
  replace h2 : w2.heap[w.heap.size]? = some (.cells (arrC N) 22 (0, 0)) := (heap_call hC2 h2)
  replace h4 : w2.heap[w.heap.size + 1]? = some (.cells (zL) 22 (0, 0)) := (heap_call hC2 h4)
  replace hf1_1_0 : Fe w2 (b1_1) (0) (x1_1_0.val) := (Fe.below_all xhf1_1_0 hC2)
  replace hf1_1_1 : Fe w2 (b1_1) (5) (x1_1_1.val) := (Fe.below_all xhf1_1_1 hC2)
  replace hf1_1_2 : Fe w2 (b1_1) (10) (x1_1_2.val) := (Fe.below_all xhf1_1_2 hC2)
  replace hf1_1_3 : Fe w2 (b1_1) (15) (x1_1_3.val) := (Fe.below_all xhf1_1_3 hC2)
  have hBw2 : Hid (Below w.heap.size w w2) := Lib.hid (below_call hBw1.out hC2)
  clear hC2
  go_wp2_with fail
  try simp only [Act.put]
  refine wp_named ?_
  intro w3 ew3
  have hs3 : w2.heap.size ≤ w3.heap.size := by rw [ew3]; (try simp only [alloc_size, setRow_size]); omega
  replace hx : Row w3 (xb) (xo) 32 (byV M) := by rw [ew3]; exact hx
  replace h2 : w3.heap[w.heap.size]? = some (.cells (arrC N) 22 (0, 0)) := by rw [ew3]; exact h2
  replace h4 : w3.heap[w.heap.size + 1]? = some (.cells (zL) 22 (0, 0)) := by rw [ew3]; exact h4
  replace hf1_1_0 : Fe w3 (b1_1) (0) (x1_1_0.val) := by rw [ew3]; exact hf1_1_0
  replace hf1_1_1 : Fe w3 (b1_1) (5) (x1_1_1.val) := by rw [ew3]; exact hf1_1_1
  replace hf1_1_2 : Fe w3 (b1_1) (10) (x1_1_2.val) := by rw [ew3]; exact hf1_1_2
  replace hf1_1_3 : Fe w3 (b1_1) (15) (x1_1_3.val) := by rw [ew3]; exact hf1_1_3
  have hBw3 : Hid (Below w.heap.size w w3) := Lib.hid (by rw [ew3]; exact hBw2.out)
  clear ew3
  refine wp_region_noPanic ?_
  refine wp_region_held_drew (S := Keep (w.heap.size + 1) w3) (by kernel_rfl) (Keep.start _ _) ?_
  intro hS
  obtain ⟨w4, ed⟩ : ∃ u : World, u = w3.drew := ⟨_, rfl⟩
  rw [← ed] at hS ⊢
  have xhx : Row w4 (xb) (xo) 32 (byV M) := by rw [ed]; exact hx
  have xh2 : w4.heap[w.heap.size]? = some (.cells (arrC N) 22 (0, 0)) := by rw [ed]; exact h2
  have xh4 : w4.heap[w.heap.size + 1]? = some (.cells (zL) 22 (0, 0)) := by rw [ed]; exact h4
  have xhf1_1_0 : Fe w4 (b1_1) (0) (x1_1_0.val) := by rw [ed]; exact hf1_1_0
  have xhf1_1_1 : Fe w4 (b1_1) (5) (x1_1_1.val) := by rw [ed]; exact hf1_1_1
  have xhf1_1_2 : Fe w4 (b1_1) (10) (x1_1_2.val) := by rw [ed]; exact hf1_1_2
  have xhf1_1_3 : Fe w4 (b1_1) (15) (x1_1_3.val) := by rw [ed]; exact hf1_1_3
  clear ed
  have hSz := hS.size
  clear xh2
  refine takeAtK (i := 0) (v := .pointer (some ⟨b1_1, 0, none⟩)) rfl (some 25) rfl (take_run rfl (fun _ _ => by go_simp)) hS ?_
  simp only [Act.put, sia, sc0, scs]
  refine takeAtK (i := 2) (v := .iface 108 u4_2) rfl (some 27) rfl (take_run rfl (fun _ _ => by go_simp)) hS ?_
  simp only [Act.put, sia, sc0, scs]
  refine takeAtK (i := 3) (v := .bool false) rfl (some 28) rfl (take_run rfl (fun _ _ => by go_simp; try rfl)) hS ?_
  simp only [Act.put, sia, sc0, scs]
  refine wpAnyH_ready (rs := [1]) (by kernel_rfl) (by simp) ?_
  refine (AllReadyH.cons rfl ?_ AllReadyH.nil)
  intro K hK
  refine ready_call rfl (some 26) rfl 31 #[.pointer (some ⟨b1_1, 0, none⟩)] (by go_simp) ?_
  refine (pointBytes_to (b1_1) (0) x1_1_0 x1_1_1 x1_1_2 x1_1_3 P hq1_1 _ xhf1_1_0 xhf1_1_1 xhf1_1_2 xhf1_1_3).mono ?_
  rintro e w5 ⟨rfl, hC⟩
  refine ⟨_, rfl, ?_⟩
  simp only [Act.put, sia, sc0, scs]
  have xhx : Row w5 (xb) (xo) 32 (byV M) := (Row.below_all xhx hC)
  have xh4 : w5.heap[w.heap.size + 1]? = some (.cells (zL) 22 (0, 0)) := (heap_call hC xh4)
  have xhf1_1_0 : Fe w5 (b1_1) (0) (x1_1_0.val) := (Fe.below_all xhf1_1_0 hC)
  have xhf1_1_1 : Fe w5 (b1_1) (5) (x1_1_1.val) := (Fe.below_all xhf1_1_1 hC)
  have xhf1_1_2 : Fe w5 (b1_1) (10) (x1_1_2.val) := (Fe.below_all xhf1_1_2 hC)
  have xhf1_1_3 : Fe w5 (b1_1) (15) (x1_1_3.val) := (Fe.below_all xhf1_1_3 hC)
  have hS := hS.call hC
  have hz5 := hC.size
  clear hC
  refine hK.out _ _ hS ?_
  clear hK K
  intro _
  have hSz := hS.size
  refine wpAnyH_ready (rs := [4]) (by kernel_rfl) (by simp) ?_
  refine (AllReadyH.cons rfl ?_ AllReadyH.nil)
  intro K hK
  rw [if_pos (by rfl)]
  refine wp_store_row 22 _ _ rfl (w.heap.size + 1) (arrC (encN P)) rfl rfl 22 (zL) xh4 (info32_of (arrC (encN P)) (arrC_size _)) (zL_size.trans (arrC_size _).symm) (arrC_one _) ?_
  refine put_at (none) rfl ?_
  simp only [Act.put, sia, sc0, scs]
  have xhx : Row (w5.setRow (w.heap.size + 1) (arrC (encN P))) (xb) (xo) 32 (byV M) := (Row.keep xhx (setRow_other _ _ _ _ (by omega)))
  have xh4 : (w5.setRow (w.heap.size + 1) (arrC (encN P))).heap[w.heap.size + 1]? = some (.cells (arrC (encN P)) 22 (0, 0)) := (setRow_heap _ _ _ _ _ _ xh4)
  have xhf1_1_0 : Fe (w5.setRow (w.heap.size + 1) (arrC (encN P))) (b1_1) (0) (x1_1_0.val) := (Fe.keep xhf1_1_0 (setRow_other _ _ _ _ (by omega)))
  have xhf1_1_1 : Fe (w5.setRow (w.heap.size + 1) (arrC (encN P))) (b1_1) (5) (x1_1_1.val) := (Fe.keep xhf1_1_1 (setRow_other _ _ _ _ (by omega)))
  have xhf1_1_2 : Fe (w5.setRow (w.heap.size + 1) (arrC (encN P))) (b1_1) (10) (x1_1_2.val) := (Fe.keep xhf1_1_2 (setRow_other _ _ _ _ (by omega)))
  have xhf1_1_3 : Fe (w5.setRow (w.heap.size + 1) (arrC (encN P))) (b1_1) (15) (x1_1_3.val) := (Fe.keep xhf1_1_3 (setRow_other _ _ _ _ (by omega)))
  have hS := hS.store (arrC (encN P))
  generalize w5.setRow (w.heap.size + 1) (arrC (encN P)) = w6 at *
  refine hK.out _ _ hS ?_
  clear hK K
  intro _
  have hSz := hS.size
  refine takeAtK (i := 5) (v := .bool false) rfl (some 5) rfl (take_run rfl (fun _ _ => by go_simp)) hS ?_
  simp only [Act.put, sia, sc0, scs]
  refine takeAtK (i := 6) (v := .bool true) rfl (some 6) rfl (take_run rfl (fun _ _ => by go_simp)) hS ?_
  simp only [Act.put, sia, sc0, scs]
  refine wpAnyH_done (by kernel_rfl) ?_ _
  refine NoPanic.normal ?_
  have hsz := hS.size
  have h2 : w6.heap[w.heap.size]? = some (.cells (arrC N) 22 (0, 0)) := hS.old h2 (by omega)
  have hx := xhx
  have h4 := xh4
  have hf1_1_0 := xhf1_1_0
  have hf1_1_1 := xhf1_1_1
  have hf1_1_2 := xhf1_1_2
  have hf1_1_3 := xhf1_1_3
  have hBw6 : Hid (Below w.heap.size w w6) := Lib.hid (hBw3.out.trans (hS.below (by omega) hBw3.out.size))
  clear hS
  go_wp2
  refine bodyPost_ret (results_row_tmp2 rfl _ _ (w.heap.size + 1) 22 (arrC (encN P)) (0, 0) _ rfl h4 under32 rfl (info32_of (arrC (encN P)) (arrC_size _))) rfl ⟨rfl, hBw6.out⟩
end

end Go.Proofs.YtcenlinpbpbpoaaDoor
