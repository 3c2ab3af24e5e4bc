/- Parts of texts for several laws: impl's calls on points. -/
import Derived.BigRegion
import Derived.ChangeKeysEq
import Derived.Deep.DeepCutAuto
import Derived.Deep.Draws
import Derived.Deep.Fields
import Derived.Deep.MidRow
import Derived.Deep.Quiet
import Derived.Deep.RegionHeld3
import Derived.Deep.WholeRow
import Derived.Great.BuildSlice
import Derived.LaidMore
import Derived.Laws.AppendOwn
import Derived.Laws.Bits64b
import Derived.Laws.CopyOwn
import Derived.Laws.CopyRow
import Derived.Laws.Externs
import Derived.Laws.StructEq
import Derived.Laws.Tables
import Derived.Lib.Hide
import Derived.LoopTactic
import Derived.OpenShut
import Derived.ProofKit
import Derived.StillTailTactics
import Derived.Stop.Joined
import Derived.Test.YtcenlinpbpbpoaaDoorProg
import Derived.WalkKit
import Derived.WalkLawsBesides
import Derived.WalkSpells
import Derived.WideKeyArgs
import Derived.Test.YtcenlinpbpbpoaaDoorKC0
import Derived.Test.YtcenlinpbpbpoaaDoorKC1
import Derived.Test.YtcenlinpbpbpoaaDoorKC2
import Derived.Test.YtcenlinpbpbpoaaDoorKC3
import Derived.Test.YtcenlinpbpbpoaaDoorKC4
import Derived.Test.YtcenlinpbpbpoaaDoorKC5
import Derived.Test.YtcenlinpbpbpoaaDoorKC8
import Derived.Test.YtcenlinpbpbpoaaDoorKC9
import Derived.Test.YtcenlinpbpbpoaaDoorKHF1
import Derived.Test.YtcenlinpbpbpoaaDoorKHF3
import Derived.Test.YtcenlinpbpbpoaaDoorKHGr
import Derived.Test.YtcenlinpbpbpoaaDoorKHPI
import Derived.Test.YtcenlinpbpbpoaaDoorKHPO
import Derived.Test.YtcenlinpbpbpoaaDoorKHPP
import Derived.Test.YtcenlinpbpbpoaaDoorKHPS
import Derived.Test.YtcenlinpbpbpoaaDoorKHS8
import Derived.Test.YtcenlinpbpbpoaaDoorKHSQ
import Derived.Test.YtcenlinpbpbpoaaDoorKHSQB
import Derived.Test.YtcenlinpbpbpoaaDoorKHSQN
import Derived.Test.YtcenlinpbpbpoaaDoorKHSRD
import Derived.Test.YtcenlinpbpbpoaaDoorKHU1
import Derived.Test.YtcenlinpbpbpoaaDoorKHUM
import Derived.Test.YtcenlinpbpbpoaaDoorKHUN
import Derived.Test.YtcenlinpbpbpoaaDoorKHUS
import Derived.Test.YtcenlinpbpbpoaaDoorKHUSR
import Derived.Test.YtcenlinpbpbpoaaDoorKHUSe
import Derived.Test.YtcenlinpbpbpoaaDoorKL0
import Derived.Test.YtcenlinpbpbpoaaDoorKL1
import Derived.Test.YtcenlinpbpbpoaaDoorKL2
import Derived.Test.YtcenlinpbpbpoaaDoorKL3
import Derived.Test.YtcenlinpbpbpoaaDoorKL4
namespace Go.Proofs.YtcenlinpbpbpoaaDoor
set_option maxRecDepth 4000
set_option linter.unusedSimpArgs false
set_option linter.unusedVariables false
section
open Go.RowKit
set_option maxHeartbeats 4000000 in
theorem iAdd_ns (N M : Nat) (Q : CP) (lN : N < 256 ^ 32) (hN : Hid (decP N = none)) (lM : M < 256 ^ 32) (hM : Hid (decP M = some Q)) (B : Nat) (w : World) (hD0 : Var 1 z5 B w) (hD1 : Var 0 i5 B w) (hD2 : Var 2 o5 B w) :
    Calls Tryd.prog 23 #[.agg (arrC N), .agg (arrC M)] w fun e w' => e = .returned (.tuple #[.agg (zL), .bool false]) ∧ Below w.heap.size w w' := by
  have hBl := hD0.1
  go_enter Tryd.func23, Tryd.ntmps23
  go_wp2_with (first
    | ((with_reducible refine at_dst 11 ?_); refine wpList_load_row rfl 22 _ rfl (w.heap.size) rfl 22 (arrC N) (0, 0) _ (heap_old _ (heap_old _ (heap_new_at _ _ _ rfl))) under32 rfl (info32_of (arrC N) (arrC_size _)) ?_))
  refine (pointOf_none N hN B _ (hD0.later (below_alloc (below_alloc (below_alloc (Below.refl _ w) _) _) _)) (hD1.later (below_alloc (below_alloc (below_alloc (Below.refl _ w) _) _) _)) (hD2.later (below_alloc (below_alloc (below_alloc (Below.refl _ w) _) _) _))).mono ?_
  rintro e w1 ⟨rfl, hC1⟩
  have hs1 : w.heap.size + 1 + 1 + 1 ≤ w1.heap.size := by have := hC1.size; (try simp only [alloc_size, setRow_size] at this); omega
  replace h2 : w1.heap[w.heap.size]? = some (.cells (arrC N) 22 (0, 0)) := (heap_call hC1 (heap_old _ (heap_old _ (heap_new_at _ _ _ rfl))))
  replace h3 : w1.heap[w.heap.size + 1]? = some (.cells (arrC M) 22 (0, 0)) := (heap_call hC1 (heap_old _ (heap_new_at _ _ _ (by simp only [alloc_size, setRow_size]))))
  replace h4 : w1.heap[w.heap.size + 1 + 1]? = some (.cells (zL) 22 (0, 0)) := (heap_call hC1 (heap_new_at _ _ _ (by simp only [alloc_size, setRow_size])))
  have hBw1 : Hid (Below w.heap.size w w1) := Lib.hid (below_call (below_alloc (below_alloc (below_alloc (Below.refl _ w) _) _) _) hC1)
  clear hC1
  go_wp2_with (first
    | ((with_reducible refine at_dst 16 ?_); refine wpList_load_row rfl 22 _ rfl (w.heap.size + 1) rfl 22 (arrC M) (0, 0) _ h3 under32 rfl (info32_of (arrC M) (arrC_size _)) ?_))
  refine (pointOf_some M Q lM hM B _ (hD0.later hBw1.out) (hD1.later hBw1.out) (hD2.later hBw1.out)).mono ?_
  rintro e w2 ⟨b2_1, x2_1_0, x2_1_1, x2_1_2, x2_1_3, rfl, hlb2_1, hC2, hq2_1, xhf2_1_0, xhf2_1_1, xhf2_1_2, xhf2_1_3⟩
  have hs2 : w1.heap.size ≤ w2.heap.size := by have := hC2.size; (try simp only [alloc_size, setRow_size] at this); omega
  replace h2 : w2.heap[w.heap.size]? = some (.cells (arrC N) 22 (0, 0)) := (heap_call hC2 h2)
  replace h3 : w2.heap[w.heap.size + 1]? = some (.cells (arrC M) 22 (0, 0)) := (heap_call hC2 h3)
  replace h4 : w2.heap[w.heap.size + 1 + 1]? = some (.cells (zL) 22 (0, 0)) := (heap_call hC2 h4)
  have hBw2 : Hid (Below w.heap.size w w2) := Lib.hid (below_call hBw1.out hC2)
  clear hC2
  have hlb2_1 : w1.heap.size ≤ b2_1 := by (try simp only [alloc_size, setRow_size] at hlb2_1); omega
  have hub2_1 := xhf2_1_0.lt
  go_wp2_with (first
    | ((with_reducible refine at_store 4 ?_); refine wpList_store_row rfl 22 _ _ rfl (w.heap.size + 1 + 1) (zL) rfl rfl 22 (zL) h4 (info32_of (zL) zL_size) (zL_size.trans zL_size.symm) zL_one ?_))
  refine bodyPost_ret (results_row_tmp rfl _ _ (w.heap.size + 1 + 1) 22 (zL) (0, 0) _ rfl (setRow_heap _ _ _ _ _ _ h4) under32 rfl (info32_of (zL) zL_size)) rfl ⟨rfl, (below_setRow hBw2.out (by omega) _)⟩
end

end Go.Proofs.YtcenlinpbpbpoaaDoor
