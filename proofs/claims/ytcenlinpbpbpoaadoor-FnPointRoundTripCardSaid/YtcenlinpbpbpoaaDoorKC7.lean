/- Parts of texts for several laws: impl's calls on points. -/
import Derived.BigRegion
import Derived.ChangeKeysEq
import Derived.Deep.DeepCutAuto
import Derived.Deep.Draws
import Derived.Deep.Fields
import Derived.Deep.MidRow
import Derived.Deep.Quiet
import Derived.Deep.RegionHeld3
import Derived.Deep.WholeRow
import Derived.Great.BuildSlice
import Derived.LaidMore
import Derived.Laws.AppendOwn
import Derived.Laws.Bits64b
import Derived.Laws.CopyOwn
import Derived.Laws.CopyRow
import Derived.Laws.Externs
import Derived.Laws.StructEq
import Derived.Laws.Tables
import Derived.Lib.Hide
import Derived.LoopTactic
import Derived.OpenShut
import Derived.ProofKit
import Derived.StillTailTactics
import Derived.Stop.Joined
import Derived.Test.YtcenlinpbpbpoaaDoorProg
import Derived.WalkKit
import Derived.WalkLawsBesides
import Derived.WalkSpells
import Derived.WideKeyArgs
import Derived.Test.YtcenlinpbpbpoaaDoorKC0
import Derived.Test.YtcenlinpbpbpoaaDoorKHF1
import Derived.Test.YtcenlinpbpbpoaaDoorKHF3
import Derived.Test.YtcenlinpbpbpoaaDoorKHGr
import Derived.Test.YtcenlinpbpbpoaaDoorKHPI
import Derived.Test.YtcenlinpbpbpoaaDoorKHPO
import Derived.Test.YtcenlinpbpbpoaaDoorKHPP
import Derived.Test.YtcenlinpbpbpoaaDoorKHPS
import Derived.Test.YtcenlinpbpbpoaaDoorKHS8
import Derived.Test.YtcenlinpbpbpoaaDoorKHSQ
import Derived.Test.YtcenlinpbpbpoaaDoorKHSQB
import Derived.Test.YtcenlinpbpbpoaaDoorKHSQN
import Derived.Test.YtcenlinpbpbpoaaDoorKHSRD
import Derived.Test.YtcenlinpbpbpoaaDoorKHU1
import Derived.Test.YtcenlinpbpbpoaaDoorKHUM
import Derived.Test.YtcenlinpbpbpoaaDoorKHUN
import Derived.Test.YtcenlinpbpbpoaaDoorKHUS
import Derived.Test.YtcenlinpbpbpoaaDoorKHUSR
import Derived.Test.YtcenlinpbpbpoaaDoorKHUSe
import Derived.Test.YtcenlinpbpbpoaaDoorKL0
import Derived.Test.YtcenlinpbpbpoaaDoorKL1
import Derived.Test.YtcenlinpbpbpoaaDoorKL2
import Derived.Test.YtcenlinpbpbpoaaDoorKL3
import Derived.Test.YtcenlinpbpbpoaaDoorKL4
namespace Go.Proofs.YtcenlinpbpbpoaaDoor
set_option maxRecDepth 4000
set_option linter.unusedSimpArgs false
set_option linter.unusedVariables false
section
open Go.RowKit
set_option maxHeartbeats 2000000 in
theorem iIdentity  (B : Nat) (w : World) (hD0 : Var 1 z5 B w) (hD1 : Var 0 i5 B w) (hD2 : Var 2 o5 B w) :
    Calls Tryd.prog 15 #[] w fun e w' => e = .returned (.agg (arrC (encN CP.zero))) ∧ Below w.heap.size w w' := by
  have hBl := hD0.1
  go_enter Tryd.func15, Tryd.ntmps15
  go_wp2_with fail
  refine (newIdentity_new B _ (hD0.later (below_alloc (Below.refl _ w) _)) (hD1.later (below_alloc (Below.refl _ w) _)) (hD2.later (below_alloc (Below.refl _ w) _))).mono ?_
  rintro e w1 ⟨b1_0, x1_0_0, x1_0_1, x1_0_2, x1_0_3, rfl, hlb1_0, hC1, hq1_0, xhf1_0_0, xhf1_0_1, xhf1_0_2, xhf1_0_3⟩
  have hs1 : w.heap.size + 1 ≤ w1.heap.size := by have := hC1.size; (try simp only [alloc_size, setRow_size] at this); omega
  replace h0 : w1.heap[w.heap.size]? = some (.cells (zL) 22 (0, 0)) := (heap_call hC1 (heap_new_at _ _ _ rfl))
  have hBw1 : Hid (Below w.heap.size w w1) := Lib.hid (below_call (below_alloc (Below.refl _ w) _) hC1)
  clear hC1
  have hlb1_0 : w.heap.size + 1 ≤ b1_0 := by (try simp only [alloc_size, setRow_size] at hlb1_0); omega
  have hub1_0 := xhf1_0_0.lt
  go_wp2_with fail
  refine (pointBytes_to (b1_0) (0) x1_0_0 x1_0_1 x1_0_2 x1_0_3 (CP.zero) hq1_0 _ xhf1_0_0 xhf1_0_1 xhf1_0_2 xhf1_0_3).mono ?_
  rintro e w2 ⟨rfl, hC2⟩
  have hs2 : w1.heap.size ≤ w2.heap.size := by have := hC2.size; (try simp only [alloc_size, setRow_size] at this); omega
  replace h0 : w2.heap[w.heap.size]? = some (.cells (zL) 22 (0, 0)) := (heap_call hC2 h0)
  replace hf1_0_0 : Fe w2 (b1_0) (0) (x1_0_0.val) := (Fe.below_all xhf1_0_0 hC2)
  replace hf1_0_1 : Fe w2 (b1_0) (5) (x1_0_1.val) := (Fe.below_all xhf1_0_1 hC2)
  replace hf1_0_2 : Fe w2 (b1_0) (10) (x1_0_2.val) := (Fe.below_all xhf1_0_2 hC2)
  replace hf1_0_3 : Fe w2 (b1_0) (15) (x1_0_3.val) := (Fe.below_all xhf1_0_3 hC2)
  have hBw2 : Hid (Below w.heap.size w w2) := Lib.hid (below_call hBw1.out hC2)
  clear hC2
  go_wp2_with (first
    | ((with_reducible refine at_store 0 ?_); refine wpList_store_row rfl 22 _ _ rfl (w.heap.size) (arrC (encN (CP.zero))) rfl rfl 22 (zL) h0 (info32_of (arrC (encN (CP.zero))) (arrC_size _)) (zL_size.trans (arrC_size _).symm) (arrC_one _) ?_))
  refine bodyPost_ret (results_cell_row rfl _ _ (w.heap.size) 22 (arrC (encN (CP.zero))) (0, 0) _ rfl (setRow_heap _ _ _ _ _ _ h0) under32 rfl (info32_of (arrC (encN (CP.zero))) (arrC_size _))) rfl ⟨rfl, (below_setRow hBw2.out (by omega) _)⟩
end

end Go.Proofs.YtcenlinpbpbpoaaDoor
