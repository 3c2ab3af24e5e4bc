/- Parts of texts for several laws: The reference's calls on points. -/
import Derived.BigRegion
import Derived.ChangeKeysEq
import Derived.Deep.DeepCutAuto
import Derived.Deep.Draws
import Derived.Deep.Fields
import Derived.Deep.MidRow
import Derived.Deep.Quiet
import Derived.Deep.RegionHeld3
import Derived.Deep.WholeRow
import Derived.Great.BuildSlice
import Derived.LaidMore
import Derived.Laws.Bits64b
import Derived.Laws.CopyOwn
import Derived.Laws.CopyRow
import Derived.Laws.Externs
import Derived.Laws.StructEq
import Derived.Laws.Tables
import Derived.Lib.Hide
import Derived.LoopTactic
import Derived.OpenShut
import Derived.ProofKit
import Derived.StillTailTactics
import Derived.Stop.Joined
import Derived.Test.YtcenlinpbpbpoaaDoorProg
import Derived.WalkKit
import Derived.WalkLawsBesides
import Derived.WalkSpells
import Derived.WideKeyArgs
import Derived.Test.YtcenlinpbpbpoaaDoorKC0
import Derived.Test.YtcenlinpbpbpoaaDoorKC2
import Derived.Test.YtcenlinpbpbpoaaDoorKHF1
import Derived.Test.YtcenlinpbpbpoaaDoorKHF3
import Derived.Test.YtcenlinpbpbpoaaDoorKHGr
import Derived.Test.YtcenlinpbpbpoaaDoorKHPI
import Derived.Test.YtcenlinpbpbpoaaDoorKHPO
import Derived.Test.YtcenlinpbpbpoaaDoorKHPP
import Derived.Test.YtcenlinpbpbpoaaDoorKHPS
import Derived.Test.YtcenlinpbpbpoaaDoorKHS8
import Derived.Test.YtcenlinpbpbpoaaDoorKHSQ
import Derived.Test.YtcenlinpbpbpoaaDoorKHSQB
import Derived.Test.YtcenlinpbpbpoaaDoorKHSQN
import Derived.Test.YtcenlinpbpbpoaaDoorKHSRD
import Derived.Test.YtcenlinpbpbpoaaDoorKHU1
import Derived.Test.YtcenlinpbpbpoaaDoorKHUM
import Derived.Test.YtcenlinpbpbpoaaDoorKHUN
import Derived.Test.YtcenlinpbpbpoaaDoorKHUS
import Derived.Test.YtcenlinpbpbpoaaDoorKHUSR
import Derived.Test.YtcenlinpbpbpoaaDoorKHUSe
import Derived.Test.YtcenlinpbpbpoaaDoorKL0
import Derived.Test.YtcenlinpbpbpoaaDoorKL1
import Derived.Test.YtcenlinpbpbpoaaDoorKL2
import Derived.Test.YtcenlinpbpbpoaaDoorKL3
import Derived.Test.YtcenlinpbpbpoaaDoorKL4
namespace Go.Proofs.YtcenlinpbpbpoaaDoor
set_option maxRecDepth 4000
set_option linter.unusedSimpArgs false
set_option linter.unusedVariables false
section
open Go.RowKit
set_option maxHeartbeats 4000000 in
theorem sNeg_n (N : Nat) (lN : N < 256 ^ 32) (hN : Hid (decP N = none)) (w : World) :
    Calls Tryd.prog 34 #[.agg (arrC N)] w fun e w' => e = .returned (.tuple #[.agg (zL), .bool false]) ∧ Below w.heap.size w w' := by
  go_enter Tryd.func34, Tryd.ntmps34
  go_wp2_with (first
    | ((with_reducible refine at_dst 7 ?_); refine wpList_load_row rfl 22 _ rfl (w.heap.size) rfl 22 (arrC N) (0, 0) _ (heap_old _ (heap_new_at _ _ _ rfl)) under32 rfl (info32_of (arrC N) (arrC_size _)) ?_))
  refine (sdecoded_none N lN hN.out _).mono ?_
  rintro e w1 ⟨rfl, hC1⟩
  have hs1 : w.heap.size + 1 + 1 ≤ w1.heap.size := by have := hC1.size; (try simp only [alloc_size, setRow_size] at this); omega
  replace h1 : w1.heap[w.heap.size]? = some (.cells (arrC N) 22 (0, 0)) := (heap_call hC1 (heap_old _ (heap_new_at _ _ _ rfl)))
  replace h2 : w1.heap[w.heap.size + 1]? = some (.cells (zL) 22 (0, 0)) := (heap_call hC1 (heap_new_at _ _ _ (by simp only [alloc_size, setRow_size])))
  have hBw1 : Hid (Below w.heap.size w w1) := Lib.hid (below_call (below_alloc (below_alloc (Below.refl _ w) _) _) hC1)
  clear hC1
  go_wp2_with (first
    | ((with_reducible refine at_store 4 ?_); refine wpList_store_row rfl 45 _ _ rfl (w1.heap.size) (z12) rfl rfl 45 (z12) (heap_new_at _ _ _ rfl) (infoPt_of (z12) z12_size) (z12_size.trans z12_size.symm) z12_one ?_)
    | ((with_reducible refine at_store 2 ?_); refine wpList_store_row rfl 22 _ _ rfl (w.heap.size + 1) (zL) rfl rfl 22 (zL) (heap_row _ (by omega) (heap_old _ h2)) (info32_of (zL) zL_size) (zL_size.trans zL_size.symm) zL_one ?_))
  refine bodyPost_ret (results_row_tmp rfl _ _ (w.heap.size + 1) 22 (zL) (0, 0) _ rfl (setRow_heap _ _ _ _ _ _ (heap_row _ (by omega) (heap_old _ h2))) under32 rfl (info32_of (zL) zL_size)) rfl ⟨rfl, (below_setRow (below_setRow (below_alloc hBw1.out _) (by omega) _) (by omega) _)⟩
set_option maxHeartbeats 1000000 in
theorem isPoint_n (N : Nat) (lN : N < 256 ^ 32) (hN : Hid (decP N = none)) (w : World) :
    Calls Tryd.prog 17 #[.agg (arrC N)] w fun e w' => e = .returned (.bool false) ∧ Below w.heap.size w w' := by
  go_enter Tryd.func17, Tryd.ntmps17
  go_wp2_with (first
    | ((with_reducible refine at_dst 6 ?_); refine wpList_load_row rfl 22 _ rfl (w.heap.size) rfl 22 (arrC N) (0, 0) _ (heap_new_at _ _ _ rfl) under32 rfl (info32_of (arrC N) (arrC_size _)) ?_))
  refine (sNeg_n N lN hN _).mono ?_
  rintro e w1 ⟨rfl, hC1⟩
  have hs1 : w.heap.size + 1 ≤ w1.heap.size := by have := hC1.size; (try simp only [alloc_size, setRow_size] at this); omega
  replace h1 : w1.heap[w.heap.size]? = some (.cells (arrC N) 22 (0, 0)) := (heap_call hC1 (heap_new_at _ _ _ rfl))
  have hBw1 : Hid (Below w.heap.size w w1) := Lib.hid (below_call (below_alloc (Below.refl _ w) _) hC1)
  clear hC1
  go_wp2_with (first
    | ((with_reducible refine at_store 3 ?_); refine wpList_store_row rfl 22 _ _ rfl (w1.heap.size) (zL) rfl rfl 22 (zL) (heap_new_at _ _ _ rfl) (info32_of (zL) zL_size) (zL_size.trans zL_size.symm) zL_one ?_))
  go_ret
  exact ⟨rfl, (below_setRow (below_alloc hBw1.out _) (by omega) _)⟩
end

end Go.Proofs.YtcenlinpbpbpoaaDoor
