/- Parts of texts for several laws: Point. -/
import Derived.BigRegion
import Derived.ChangeKeysEq
import Derived.Deep.DeepCutAuto
import Derived.Deep.Draws
import Derived.Deep.Fields
import Derived.Deep.MidRow
import Derived.Deep.Quiet
import Derived.Deep.RegionHeld3
import Derived.Deep.WholeRow
import Derived.Great.BuildSlice
import Derived.LaidMore
import Derived.Laws.AppendOwn
import Derived.Laws.Bits64b
import Derived.Laws.CopyOwn
import Derived.Laws.CopyRow
import Derived.Laws.Externs
import Derived.Laws.StructEq
import Derived.Laws.Tables
import Derived.Lib.Hide
import Derived.LoopTactic
import Derived.OpenShut
import Derived.ProofKit
import Derived.StillTailTactics
import Derived.Stop.Joined
import Derived.Test.YtcenlinpbpbpoaaDoorProg
import Derived.WalkKit
import Derived.WalkLawsBesides
import Derived.WalkSpells
import Derived.WideKeyArgs
import Derived.Test.YtcenlinpbpbpoaaDoorKHF1
import Derived.Test.YtcenlinpbpbpoaaDoorKHF3
import Derived.Test.YtcenlinpbpbpoaaDoorKHGr
import Derived.Test.YtcenlinpbpbpoaaDoorKHPI
import Derived.Test.YtcenlinpbpbpoaaDoorKHPP
import Derived.Test.YtcenlinpbpbpoaaDoorKHPS
import Derived.Test.YtcenlinpbpbpoaaDoorKHU1
import Derived.Test.YtcenlinpbpbpoaaDoorKHUM
import Derived.Test.YtcenlinpbpbpoaaDoorKHUN
import Derived.Test.YtcenlinpbpbpoaaDoorKHUS
import Derived.Test.YtcenlinpbpbpoaaDoorKHUSR
import Derived.Test.YtcenlinpbpbpoaaDoorKHUSe
import Derived.Test.YtcenlinpbpbpoaaDoorKL0
import Derived.Test.YtcenlinpbpbpoaaDoorKL1
import Derived.Test.YtcenlinpbpbpoaaDoorKL2
import Derived.Test.YtcenlinpbpbpoaaDoorKL3
import Derived.Test.YtcenlinpbpbpoaaDoorKL4
namespace Go.Proofs.YtcenlinpbpbpoaaDoor
set_option maxRecDepth 4000
set_option linter.unusedSimpArgs false
set_option linter.unusedVariables false
section
open Go.RowKit
set_option maxHeartbeats 4000000 in
theorem pointOf_some (N : Nat) (P : CP) (lN : N < 256 ^ 32) (hN : Hid (decP N = some P)) (B : Nat) (w : World) (hD0 : Var 1 z5 B w) (hD1 : Var 0 i5 B w) (hD2 : Var 2 o5 B w) :
    Calls Tryd.prog 26 #[.agg (arrC N)] w fun e w' => ∃ b, ∃ r0 r1 r2 r3 : Fp, e = .returned (.tuple #[.pointer (some ⟨b, 0, none⟩), .bool true]) ∧ w.heap.size ≤ b ∧ Below w.heap.size w w' ∧ Rq P r0 r1 r2 r3 ∧ Fe w' b 0 r0.val ∧ Fe w' b 5 r1.val ∧ Fe w' b 10 r2.val ∧ Fe w' b 15 r3.val := by
  have hBl := hD0.1
  go_enter Tryd.func26, Tryd.ntmps26
  go_wp2_with fail
  try simp only [Act.put]
  refine wp_named ?_
  intro w1 ew1
  have hs1 : w.heap.size + 1 ≤ w1.heap.size := by rw [ew1]; (try simp only [alloc_size, setRow_size]); omega
  replace h1 : w1.heap[w.heap.size]? = some (.cells (arrC N) 22 (0, 0)) := by rw [ew1]; exact (heap_new_at _ _ _ rfl)
  have hBw1 : Hid (Below w.heap.size w w1) := Lib.hid (by rw [ew1]; exact (below_alloc (Below.refl _ w) _))
  clear ew1
  refine wp_region_noPanic ?_
  refine wp_region_held_drew (S := Keep (w1.heap.size) w1) (by kernel_rfl) (Keep.start _ _) ?_
  intro hS
  obtain ⟨w2, ed⟩ : ∃ u : World, u = w1.drew := ⟨_, rfl⟩
  rw [← ed] at hS ⊢
  have xh1 : w2.heap[w.heap.size]? = some (.cells (arrC N) 22 (0, 0)) := by rw [ed]; exact h1
  clear ed
  have hSz := hS.size
  clear xh1
  refine takeAtK (i := 1) (v := .slice (some ⟨w.heap.size, 0, none⟩) 32 32) rfl (some 8) rfl (take_run rfl (fun _ _ => by go_simp)) hS ?_
  simp only [Act.put, sia, sc0, scs]
  refine wpAnyH_ready (rs := [0]) (by kernel_rfl) (by simp) ?_
  refine (AllReadyH.cons rfl ?_ AllReadyH.nil)
  intro K hK
  refine ready_call rfl (some 7) rfl 33 #[] (by go_simp) ?_
  refine (newIdentity_new B _ (hD0.later (hBw1.out.trans (hS.below (by omega) hBw1.out.size))) (hD1.later (hBw1.out.trans (hS.below (by omega) hBw1.out.size))) (hD2.later (hBw1.out.trans (hS.below (by omega) hBw1.out.size)))).mono ?_
  rintro e w3 ⟨b1_0, x1_0_0, x1_0_1, x1_0_2, x1_0_3, rfl, hlb1_0, hC, hq1_0, xhf1_0_0, xhf1_0_1, xhf1_0_2, xhf1_0_3⟩
  refine ⟨_, rfl, ?_⟩
  simp only [Act.put, sia, sc0, scs]
  have hS := hS.call hC
  have hz3 := hC.size
  clear hC
  have hlb1_0 : w2.heap.size ≤ b1_0 := by (try simp only [alloc_size, setRow_size] at hlb1_0); omega
  have hub1_0 := xhf1_0_0.lt
  refine hK.out _ _ hS ?_
  clear hK K
  intro _
  have hSz := hS.size
  refine wpAnyH_ready (rs := [2]) (by kernel_rfl) (by simp) ?_
  refine (AllReadyH.cons rfl ?_ AllReadyH.nil)
  intro K hK
  refine ready_call rfl (some 9) rfl 30 #[.pointer (some ⟨b1_0, 0, none⟩), .slice (some ⟨w.heap.size, 0, none⟩) 32 32] (by go_simp) ?_
  refine (pt_setBytes_some (b1_0) (0) (w.heap.size) (0) (N) (32) _ _ _ _ P lN hN.out (by omega) (by omega) B _ (hD0.later (hBw1.out.trans (hS.below (by omega) hBw1.out.size))) (hD1.later (hBw1.out.trans (hS.below (by omega) hBw1.out.size))) (hD2.later (hBw1.out.trans (hS.below (by omega) hBw1.out.size))) (by omega) xhf1_0_0 xhf1_0_1 xhf1_0_2 xhf1_0_3 (Row.ofArr (hS.old h1 (Nat.ne_of_lt (heap_lt h1))))).mono ?_
  rintro e w4 ⟨rfl, hC, k1_2_0, k1_2_1, k1_2_2, k1_2_3, hK1_2, y1_2_0, y1_2_1, y1_2_2, y1_2_3⟩
  refine ⟨_, rfl, ?_⟩
  simp only [Act.put, sia, sc0, scs]
  have hz4 := hC.size
  have xhf1_0_0 : Fe w4 (b1_0) (0) (k1_2_0.val) := y1_2_0
  have xhf1_0_1 : Fe w4 (b1_0) (5) (k1_2_1.val) := y1_2_1
  have xhf1_0_2 : Fe w4 (b1_0) (10) (k1_2_2.val) := y1_2_2
  have xhf1_0_3 : Fe w4 (b1_0) (15) (k1_2_3.val) := y1_2_3
  have hS := hS.frNew hC (by have := hS.size; omega)
  clear hC
  refine hK.out _ _ hS ?_
  clear hK K
  intro _
  have hSz := hS.size
  refine takeAtK (i := 3) (v := .tuple #[.pointer (some ⟨b1_0, 0, none⟩), .nilIface]) rfl (some 6) rfl (take_run rfl (fun _ _ => by go_simp)) hS ?_
  simp only [Act.put, sia, sc0, scs]
  refine takeAtK (i := 4) (v := .pointer (some ⟨b1_0, 0, none⟩)) rfl (some 10) rfl (take_run rfl (fun _ _ => by go_simp)) hS ?_
  simp only [Act.put, sia, sc0, scs]
  refine takeAtK (i := 5) (v := .nilIface) rfl (some 11) rfl (take_run rfl (fun _ _ => by go_simp)) hS ?_
  simp only [Act.put, sia, sc0, scs]
  refine takeAtK (i := 6) (v := .pointer (some ⟨b1_0, 0, none⟩)) rfl (some 4) rfl (take_run rfl (fun _ _ => by go_simp)) hS ?_
  simp only [Act.put, sia, sc0, scs]
  refine takeAtK (i := 7) (v := .nilIface) rfl (some 5) rfl (take_run rfl (fun _ _ => by go_simp)) hS ?_
  simp only [Act.put, sia, sc0, scs]
  refine wpAnyH_done (by kernel_rfl) ?_ _
  refine NoPanic.normal ?_
  have hsz := hS.size
  have h1 : w4.heap[w.heap.size]? = some (.cells (arrC N) 22 (0, 0)) := hS.old h1 (Nat.ne_of_lt (heap_lt h1))
  have hf1_0_0 := xhf1_0_0
  have hf1_0_1 := xhf1_0_1
  have hf1_0_2 := xhf1_0_2
  have hf1_0_3 := xhf1_0_3
  have hBw4 : Hid (Below w.heap.size w w4) := Lib.hid (hBw1.out.trans (hS.below (by omega) hBw1.out.size))
  clear hS
  go_wp2_with fail
  try simp only [Act.put]
  refine wp_named ?_
  intro w6 ew6
  have hs6 : w4.heap.size ≤ w6.heap.size := by rw [ew6]; (try simp only [alloc_size, setRow_size]); omega
  replace hf1_0_0 : Fe w6 (b1_0) (0) (k1_2_0.val) := by rw [ew6]; exact hf1_0_0
  replace hf1_0_1 : Fe w6 (b1_0) (5) (k1_2_1.val) := by rw [ew6]; exact hf1_0_1
  replace hf1_0_2 : Fe w6 (b1_0) (10) (k1_2_2.val) := by rw [ew6]; exact hf1_0_2
  replace hf1_0_3 : Fe w6 (b1_0) (15) (k1_2_3.val) := by rw [ew6]; exact hf1_0_3
  replace h1 : w6.heap[w.heap.size]? = some (.cells (arrC N) 22 (0, 0)) := by rw [ew6]; exact h1
  have hBw6 : Hid (Below w.heap.size w w6) := Lib.hid (by rw [ew6]; exact hBw4.out)
  clear ew6
  refine wp_region_noPanic ?_
  refine wp_region_held_drew (S := Keep (w6.heap.size) w6) (by kernel_rfl) (Keep.start _ _) ?_
  intro hS
  obtain ⟨w7, ed⟩ : ∃ u : World, u = w6.drew := ⟨_, rfl⟩
  rw [← ed] at hS ⊢
  have xhf1_0_0 : Fe w7 (b1_0) (0) (k1_2_0.val) := by rw [ed]; exact hf1_0_0
  have xhf1_0_1 : Fe w7 (b1_0) (5) (k1_2_1.val) := by rw [ed]; exact hf1_0_1
  have xhf1_0_2 : Fe w7 (b1_0) (10) (k1_2_2.val) := by rw [ed]; exact hf1_0_2
  have xhf1_0_3 : Fe w7 (b1_0) (15) (k1_2_3.val) := by rw [ed]; exact hf1_0_3
  have xh1 : w7.heap[w.heap.size]? = some (.cells (arrC N) 22 (0, 0)) := by rw [ed]; exact h1
  clear ed
  have hSz := hS.size
  clear xh1
  refine takeAtK (i := 0) (v := .pointer (some ⟨b1_0, 0, none⟩)) rfl (some 12) rfl (take_run rfl (fun _ _ => by go_simp)) hS ?_
  simp only [Act.put, sia, sc0, scs]
  refine takeAtK (i := 1) (v := .nilIface) rfl (some 13) rfl (take_run rfl (fun _ _ => by go_simp)) hS ?_
  simp only [Act.put, sia, sc0, scs]
  refine takeAtK (i := 2) (v := .bool true) rfl (some 14) rfl (take_run rfl (fun _ _ => by go_simp)) hS ?_
  simp only [Act.put, sia, sc0, scs]
  refine takeAtK (i := 3) (v := .pointer (some ⟨b1_0, 0, none⟩)) rfl (some 2) rfl (take_run rfl (fun _ _ => by go_simp)) hS ?_
  simp only [Act.put, sia, sc0, scs]
  refine takeAtK (i := 4) (v := .bool true) rfl (some 3) rfl (take_run rfl (fun _ _ => by go_simp)) hS ?_
  simp only [Act.put, sia, sc0, scs]
  refine wpAnyH_done (by kernel_rfl) ?_ _
  refine NoPanic.normal ?_
  have hsz := hS.size
  have h1 : w7.heap[w.heap.size]? = some (.cells (arrC N) 22 (0, 0)) := hS.old h1 (Nat.ne_of_lt (heap_lt h1))
  have hf1_0_0 := xhf1_0_0
  have hf1_0_1 := xhf1_0_1
  have hf1_0_2 := xhf1_0_2
  have hf1_0_3 := xhf1_0_3
  have hBw7 : Hid (Below w.heap.size w w7) := Lib.hid (hBw6.out.trans (hS.below (by omega) hBw6.out.size))
  clear hS
  go_wp2
  go_ret2
  exact ⟨_, k1_2_0, k1_2_1, k1_2_2, k1_2_3, rfl, by omega, hBw7.out, hK1_2, hf1_0_0, hf1_0_1, hf1_0_2, hf1_0_3⟩
end

end Go.Proofs.YtcenlinpbpbpoaaDoor
