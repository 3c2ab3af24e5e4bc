/- laws.FnPointAddOrder returns true for all p and q, feZero, feOne and sqrtM1 being laid by the program's text. -/
import Derived.BigRegion
import Derived.ChangeBears2
import Derived.ChangeKeysEq
import Derived.ChangeVars
import Derived.Deep.DeepCutAuto
import Derived.Deep.Draws
import Derived.Deep.Fields
import Derived.Deep.MidRow
import Derived.Deep.Quiet
import Derived.Deep.RegionHeld3
import Derived.Deep.WholeRow
import Derived.Great.BuildSlice
import Derived.LaidMore
import Derived.Laws.AppendOwn
import Derived.Laws.Bits64b
import Derived.Laws.CopyOwn
import Derived.Laws.CopyRow
import Derived.Laws.Externs
import Derived.Laws.StructEq
import Derived.Laws.Tables
import Derived.Lib.Hide
import Derived.LoopTactic
import Derived.OpenShut
import Derived.ProofKit
import Derived.StillTailTactics
import Derived.Stop.Joined
import Derived.Test.YtcenlinpbpbpoaaDoorCards
import Derived.Test.YtcenlinpbpbpoaaDoorProg
import Derived.Test.YtcenlinpbpbpoaaDoorRows
import Derived.Test.YtcenlinpbpbpoaaDoorTie
import Derived.WalkKit
import Derived.WalkLawsBesides
import Derived.WalkSpells
import Derived.WideKeyArgs
import Derived.Test.YtcenlinpbpbpoaaDoorKC0
import Derived.Test.YtcenlinpbpbpoaaDoorKC1
import Derived.Test.YtcenlinpbpbpoaaDoorKC12
import Derived.Test.YtcenlinpbpbpoaaDoorKC15
import Derived.Test.YtcenlinpbpbpoaaDoorKC2
import Derived.Test.YtcenlinpbpbpoaaDoorKC3
import Derived.Test.YtcenlinpbpbpoaaDoorKC4
import Derived.Test.YtcenlinpbpbpoaaDoorKC5
import Derived.Test.YtcenlinpbpbpoaaDoorKC8
import Derived.Test.YtcenlinpbpbpoaaDoorKC9
import Derived.Test.YtcenlinpbpbpoaaDoorKHF1
import Derived.Test.YtcenlinpbpbpoaaDoorKHF3
import Derived.Test.YtcenlinpbpbpoaaDoorKHGr
import Derived.Test.YtcenlinpbpbpoaaDoorKHPI
import Derived.Test.YtcenlinpbpbpoaaDoorKHPO
import Derived.Test.YtcenlinpbpbpoaaDoorKHPP
import Derived.Test.YtcenlinpbpbpoaaDoorKHPS
import Derived.Test.YtcenlinpbpbpoaaDoorKHS8
import Derived.Test.YtcenlinpbpbpoaaDoorKHSQ
import Derived.Test.YtcenlinpbpbpoaaDoorKHSQB
import Derived.Test.YtcenlinpbpbpoaaDoorKHSQN
import Derived.Test.YtcenlinpbpbpoaaDoorKHSRD
import Derived.Test.YtcenlinpbpbpoaaDoorKHU1
import Derived.Test.YtcenlinpbpbpoaaDoorKHUM
import Derived.Test.YtcenlinpbpbpoaaDoorKHUN
import Derived.Test.YtcenlinpbpbpoaaDoorKHUS
import Derived.Test.YtcenlinpbpbpoaaDoorKHUSR
import Derived.Test.YtcenlinpbpbpoaaDoorKHUSe
import Derived.Test.YtcenlinpbpbpoaaDoorKL0
import Derived.Test.YtcenlinpbpbpoaaDoorKL1
import Derived.Test.YtcenlinpbpbpoaaDoorKL2
import Derived.Test.YtcenlinpbpbpoaaDoorKL3
import Derived.Test.YtcenlinpbpbpoaaDoorKL4
namespace Go.Proofs.YtcenlinpbpbpoaaDoor
set_option maxRecDepth 4000
set_option linter.unusedSimpArgs false
set_option linter.unusedVariables false
section
theorem CP.add_comm (P Q : CP) : P.add Q = Q.add P := by
  refine CP.ext' (fp_cancel (P.np Q) ?_) (fp_cancel (P.nm Q) ?_)
  · have h1 := P.hx Q
    have h2 := Q.hx P
    have e : Q.e P = P.e Q := by unfold CP.e; grind
    rw [e] at h2
    show (1 + P.e Q) * P.ax Q = (1 + P.e Q) * Q.ax P
    grind
  · have h1 := P.hy Q
    have h2 := Q.hy P
    have e : Q.e P = P.e Q := by unfold CP.e; grind
    rw [e] at h2
    show (1 - P.e Q) * P.ay Q = (1 - P.e Q) * Q.ay P
    grind
end

section
open Go.RowKit
set_option maxHeartbeats 4000000 in
theorem iAdd_sn (N M : Nat) (P : CP) (lN : N < 256 ^ 32) (hN : Hid (decP N = some P)) (lM : M < 256 ^ 32) (hM : Hid (decP M = none)) (B : Nat) (w : World) (hD0 : Var 1 z5 B w) (hD1 : Var 0 i5 B w) (hD2 : Var 2 o5 B w) :
    Calls Tryd.prog 23 #[.agg (arrC N), .agg (arrC M)] w fun e w' => e = .returned (.tuple #[.agg (zL), .bool false]) ∧ Below w.heap.size w w' := by
  have hBl := hD0.1
  go_enter Tryd.func23, Tryd.ntmps23
  go_wp2_with (first
    | ((with_reducible refine at_dst 11 ?_); refine wpList_load_row rfl 22 _ rfl (w.heap.size) rfl 22 (arrC N) (0, 0) _ (heap_old _ (heap_old _ (heap_new_at _ _ _ rfl))) under32 rfl (info32_of (arrC N) (arrC_size _)) ?_))
  refine (pointOf_some N P lN hN B _ (hD0.later (below_alloc (below_alloc (below_alloc (Below.refl _ w) _) _) _)) (hD1.later (below_alloc (below_alloc (below_alloc (Below.refl _ w) _) _) _)) (hD2.later (below_alloc (below_alloc (below_alloc (Below.refl _ w) _) _) _))).mono ?_
  rintro e w1 ⟨b1_1, x1_1_0, x1_1_1, x1_1_2, x1_1_3, rfl, hlb1_1, hC1, hq1_1, xhf1_1_0, xhf1_1_1, xhf1_1_2, xhf1_1_3⟩
  have hs1 : w.heap.size + 1 + 1 + 1 ≤ w1.heap.size := by have := hC1.size; (try simp only [alloc_size, setRow_size] at this); omega
  replace h2 : w1.heap[w.heap.size]? = some (.cells (arrC N) 22 (0, 0)) := (heap_call hC1 (heap_old _ (heap_old _ (heap_new_at _ _ _ rfl))))
  replace h3 : w1.heap[w.heap.size + 1]? = some (.cells (arrC M) 22 (0, 0)) := (heap_call hC1 (heap_old _ (heap_new_at _ _ _ (by simp only [alloc_size, setRow_size]))))
  replace h4 : w1.heap[w.heap.size + 1 + 1]? = some (.cells (zL) 22 (0, 0)) := (heap_call hC1 (heap_new_at _ _ _ (by simp only [alloc_size, setRow_size])))
  have hBw1 : Hid (Below w.heap.size w w1) := Lib.hid (below_call (below_alloc (below_alloc (below_alloc (Below.refl _ w) _) _) _) hC1)
  clear hC1
  have hlb1_1 : w.heap.size + 1 + 1 + 1 ≤ b1_1 := by (try simp only [alloc_size, setRow_size] at hlb1_1); omega
  have hub1_1 := xhf1_1_0.lt
  go_wp2_with (first
    | ((with_reducible refine at_dst 16 ?_); refine wpList_load_row rfl 22 _ rfl (w.heap.size + 1) rfl 22 (arrC M) (0, 0) _ h3 under32 rfl (info32_of (arrC M) (arrC_size _)) ?_))
  refine (pointOf_none M hM B _ (hD0.later hBw1.out) (hD1.later hBw1.out) (hD2.later hBw1.out)).mono ?_
  rintro e w2 ⟨rfl, hC2⟩
  have hs2 : w1.heap.size ≤ w2.heap.size := by have := hC2.size; (try simp only [alloc_size, setRow_size] at this); omega
  replace h2 : w2.heap[w.heap.size]? = some (.cells (arrC N) 22 (0, 0)) := (heap_call hC2 h2)
  replace h3 : w2.heap[w.heap.size + 1]? = some (.cells (arrC M) 22 (0, 0)) := (heap_call hC2 h3)
  replace h4 : w2.heap[w.heap.size + 1 + 1]? = some (.cells (zL) 22 (0, 0)) := (heap_call hC2 h4)
  replace hf1_1_0 : Fe w2 (b1_1) (0) (x1_1_0.val) := (Fe.below_all xhf1_1_0 hC2)
  replace hf1_1_1 : Fe w2 (b1_1) (5) (x1_1_1.val) := (Fe.below_all xhf1_1_1 hC2)
  replace hf1_1_2 : Fe w2 (b1_1) (10) (x1_1_2.val) := (Fe.below_all xhf1_1_2 hC2)
  replace hf1_1_3 : Fe w2 (b1_1) (15) (x1_1_3.val) := (Fe.below_all xhf1_1_3 hC2)
  have hBw2 : Hid (Below w.heap.size w w2) := Lib.hid (below_call hBw1.out hC2)
  clear hC2
  go_wp2_with (first
    | ((with_reducible refine at_store 4 ?_); refine wpList_store_row rfl 22 _ _ rfl (w.heap.size + 1 + 1) (zL) rfl rfl 22 (zL) h4 (info32_of (zL) zL_size) (zL_size.trans zL_size.symm) zL_one ?_))
  refine bodyPost_ret (results_row_tmp rfl _ _ (w.heap.size + 1 + 1) 22 (zL) (0, 0) _ rfl (setRow_heap _ _ _ _ _ _ h4) under32 rfl (info32_of (zL) zL_size)) rfl ⟨rfl, (below_setRow hBw2.out (by omega) _)⟩
set_option maxHeartbeats 4000000 in
theorem iAdd_nn (N M : Nat) (lN : N < 256 ^ 32) (hN : Hid (decP N = none)) (lM : M < 256 ^ 32) (hM : Hid (decP M = none)) (B : Nat) (w : World) (hD0 : Var 1 z5 B w) (hD1 : Var 0 i5 B w) (hD2 : Var 2 o5 B w) :
    Calls Tryd.prog 23 #[.agg (arrC N), .agg (arrC M)] w fun e w' => e = .returned (.tuple #[.agg (zL), .bool false]) ∧ Below w.heap.size w w' := by
  have hBl := hD0.1
  go_enter Tryd.func23, Tryd.ntmps23
  go_wp2_with (first
    | ((with_reducible refine at_dst 11 ?_); refine wpList_load_row rfl 22 _ rfl (w.heap.size) rfl 22 (arrC N) (0, 0) _ (heap_old _ (heap_old _ (heap_new_at _ _ _ rfl))) under32 rfl (info32_of (arrC N) (arrC_size _)) ?_))
  refine (pointOf_none N hN B _ (hD0.later (below_alloc (below_alloc (below_alloc (Below.refl _ w) _) _) _)) (hD1.later (below_alloc (below_alloc (below_alloc (Below.refl _ w) _) _) _)) (hD2.later (below_alloc (below_alloc (below_alloc (Below.refl _ w) _) _) _))).mono ?_
  rintro e w1 ⟨rfl, hC1⟩
  have hs1 : w.heap.size + 1 + 1 + 1 ≤ w1.heap.size := by have := hC1.size; (try simp only [alloc_size, setRow_size] at this); omega
  replace h2 : w1.heap[w.heap.size]? = some (.cells (arrC N) 22 (0, 0)) := (heap_call hC1 (heap_old _ (heap_old _ (heap_new_at _ _ _ rfl))))
  replace h3 : w1.heap[w.heap.size + 1]? = some (.cells (arrC M) 22 (0, 0)) := (heap_call hC1 (heap_old _ (heap_new_at _ _ _ (by simp only [alloc_size, setRow_size]))))
  replace h4 : w1.heap[w.heap.size + 1 + 1]? = some (.cells (zL) 22 (0, 0)) := (heap_call hC1 (heap_new_at _ _ _ (by simp only [alloc_size, setRow_size])))
  have hBw1 : Hid (Below w.heap.size w w1) := Lib.hid (below_call (below_alloc (below_alloc (below_alloc (Below.refl _ w) _) _) _) hC1)
  clear hC1
  go_wp2_with (first
    | ((with_reducible refine at_dst 16 ?_); refine wpList_load_row rfl 22 _ rfl (w.heap.size + 1) rfl 22 (arrC M) (0, 0) _ h3 under32 rfl (info32_of (arrC M) (arrC_size _)) ?_))
  refine (pointOf_none M hM B _ (hD0.later hBw1.out) (hD1.later hBw1.out) (hD2.later hBw1.out)).mono ?_
  rintro e w2 ⟨rfl, hC2⟩
  have hs2 : w1.heap.size ≤ w2.heap.size := by have := hC2.size; (try simp only [alloc_size, setRow_size] at this); omega
  replace h2 : w2.heap[w.heap.size]? = some (.cells (arrC N) 22 (0, 0)) := (heap_call hC2 h2)
  replace h3 : w2.heap[w.heap.size + 1]? = some (.cells (arrC M) 22 (0, 0)) := (heap_call hC2 h3)
  replace h4 : w2.heap[w.heap.size + 1 + 1]? = some (.cells (zL) 22 (0, 0)) := (heap_call hC2 h4)
  have hBw2 : Hid (Below w.heap.size w w2) := Lib.hid (below_call hBw1.out hC2)
  clear hC2
  go_wp2_with (first
    | ((with_reducible refine at_store 4 ?_); refine wpList_store_row rfl 22 _ _ rfl (w.heap.size + 1 + 1) (zL) rfl rfl 22 (zL) h4 (info32_of (zL) zL_size) (zL_size.trans zL_size.symm) zL_one ?_))
  refine bodyPost_ret (results_row_tmp rfl _ _ (w.heap.size + 1 + 1) 22 (zL) (0, 0) _ rfl (setRow_heap _ _ _ _ _ _ h4) under32 rfl (info32_of (zL) zL_size)) rfl ⟨rfl, (below_setRow hBw2.out (by omega) _)⟩
end

section
open Go.RowKit
set_option maxHeartbeats 4000000 in
theorem PtAO_ss (N : Nat) (M : Nat) (P : CP) (Q : CP) (lN : N < 256 ^ 32) (hN : Hid (decP N = some P)) (lM : M < 256 ^ 32) (hM : Hid (decP M = some Q)) (B : Nat) (w : World) (hD0 : Var 1 z5 B w) (hD1 : Var 0 i5 B w) (hD2 : Var 2 o5 B w) :
    Calls Tryd.prog 8 #[.agg (arrC N), .agg (arrC M)] w fun e w' => e = .returned (.bool true) ∧ Below w.heap.size w w' := by
  have hBl := hD0.1
  obtain ⟨E1, qE1⟩ : ∃ u : Nat, u = encN (P.add Q) := ⟨_, rfl⟩
  have HE1 := Lib.hid qE1
  have lE1 : E1 < 256 ^ 32 := by rw [qE1]; exact encN_lt _
  have HE1_0 : Hid (E1 = encN (Q.add P)) := Lib.hid (by rw [qE1, CP.add_comm P Q])
  clear qE1
  have e1 : ∀ u : World, (Op.equalIn 10000 22 (.agg (arrC E1)) (.agg (arrC E1))).run Tryd.prog u = .ok true u := fun u => by rw [run_eq_arr _ _ lE1 lE1 u]; simp
  go_enter Tryd.func8, Tryd.ntmps8
  go_wp2_with (first
    | ((with_reducible refine at_dst 10 ?_); refine wpList_load_row rfl 22 _ rfl (w.heap.size) rfl 22 (arrC N) (0, 0) _ (heap_old _ (heap_new_at _ _ _ rfl)) under32 rfl (info32_of (arrC N) (arrC_size _)) ?_)
    | ((with_reducible refine at_dst 11 ?_); refine wpList_load_row rfl 22 _ rfl (w.heap.size + 1) rfl 22 (arrC M) (0, 0) _ (heap_new_at _ _ _ (by simp only [alloc_size, setRow_size])) under32 rfl (info32_of (arrC M) (arrC_size _)) ?_))
  refine (iAdd_sse P Q E1 HE1 N M  lN hN lM hM B _ (hD0.later (below_alloc (below_alloc (Below.refl _ w) _) _)) (hD1.later (below_alloc (below_alloc (Below.refl _ w) _) _)) (hD2.later (below_alloc (below_alloc (Below.refl _ w) _) _))).mono ?_
  rintro e w1 ⟨rfl, hC1⟩
  have hs1 : w.heap.size + 1 + 1 ≤ w1.heap.size := by have := hC1.size; (try simp only [alloc_size, setRow_size] at this); omega
  replace h2 : w1.heap[w.heap.size]? = some (.cells (arrC N) 22 (0, 0)) := (heap_call hC1 (heap_old _ (heap_new_at _ _ _ rfl)))
  replace h3 : w1.heap[w.heap.size + 1]? = some (.cells (arrC M) 22 (0, 0)) := (heap_call hC1 (heap_new_at _ _ _ (by simp only [alloc_size, setRow_size])))
  have hBw1 : Hid (Below w.heap.size w w1) := Lib.hid (below_call (below_alloc (below_alloc (Below.refl _ w) _) _) hC1)
  clear hC1
  go_upto_region 2 with (first
    | ((with_reducible refine at_store 5 ?_); refine wpList_store_row rfl 22 _ _ rfl (w1.heap.size) (arrC E1) rfl rfl 22 (zL) (heap_new_at _ _ _ rfl) (info32_of (arrC E1) (arrC_size _)) (zL_size.trans (arrC_size _).symm) (arrC_one _) ?_))
  try simp only [Act.put]
  refine wp_named ?_
  intro w2 ew2
  have hs2 : w1.heap.size + 1 ≤ w2.heap.size := by rw [ew2]; (try simp only [alloc_size, setRow_size]); omega
  replace h2 : w2.heap[w.heap.size]? = some (.cells (arrC N) 22 (0, 0)) := by rw [ew2]; exact (heap_row _ (by omega) (heap_old _ h2))
  replace h3 : w2.heap[w.heap.size + 1]? = some (.cells (arrC M) 22 (0, 0)) := by rw [ew2]; exact (heap_row _ (by omega) (heap_old _ h3))
  replace h5 : w2.heap[w1.heap.size]? = some (.cells (arrC E1) 22 (0, 0)) := by rw [ew2]; exact (setRow_heap _ _ _ _ _ _ (heap_new_at _ _ _ rfl))
  have hBw2 : Hid (Below w.heap.size w w2) := Lib.hid (by rw [ew2]; exact (below_setRow (below_alloc hBw1.out _) (by omega) _))
  clear ew2
  go_wp2_with (first
    | ((with_reducible refine at_dst 16 ?_); refine wpList_load_row rfl 22 _ rfl (w.heap.size + 1) rfl 22 (arrC M) (0, 0) _ h3 under32 rfl (info32_of (arrC M) (arrC_size _)) ?_)
    | ((with_reducible refine at_dst 17 ?_); refine wpList_load_row rfl 22 _ rfl (w.heap.size) rfl 22 (arrC N) (0, 0) _ h2 under32 rfl (info32_of (arrC N) (arrC_size _)) ?_))
  refine (iAdd_sse Q P E1 HE1_0 M N  lM hM lN hN B _ (hD0.later hBw2.out) (hD1.later hBw2.out) (hD2.later hBw2.out)).mono ?_
  rintro e w3 ⟨rfl, hC3⟩
  have hs3 : w2.heap.size ≤ w3.heap.size := by have := hC3.size; (try simp only [alloc_size, setRow_size] at this); omega
  replace h2 : w3.heap[w.heap.size]? = some (.cells (arrC N) 22 (0, 0)) := (heap_call hC3 h2)
  replace h3 : w3.heap[w.heap.size + 1]? = some (.cells (arrC M) 22 (0, 0)) := (heap_call hC3 h3)
  replace h5 : w3.heap[w1.heap.size]? = some (.cells (arrC E1) 22 (0, 0)) := (heap_call hC3 h5)
  have hBw3 : Hid (Below w.heap.size w w3) := Lib.hid (below_call hBw2.out hC3)
  clear hC3
  go_upto_region 3 with (first
    | ((with_reducible refine at_store 7 ?_); refine wpList_store_row rfl 22 _ _ rfl (w3.heap.size) (arrC E1) rfl rfl 22 (zL) (heap_new_at _ _ _ rfl) (info32_of (arrC E1) (arrC_size _)) (zL_size.trans (arrC_size _).symm) (arrC_one _) ?_))
  try simp only [Act.put]
  refine wp_named ?_
  intro w4 ew4
  have hs4 : w3.heap.size + 1 ≤ w4.heap.size := by rw [ew4]; (try simp only [alloc_size, setRow_size]); omega
  replace h2 : w4.heap[w.heap.size]? = some (.cells (arrC N) 22 (0, 0)) := by rw [ew4]; exact (heap_row _ (by omega) (heap_old _ h2))
  replace h3 : w4.heap[w.heap.size + 1]? = some (.cells (arrC M) 22 (0, 0)) := by rw [ew4]; exact (heap_row _ (by omega) (heap_old _ h3))
  replace h5 : w4.heap[w1.heap.size]? = some (.cells (arrC E1) 22 (0, 0)) := by rw [ew4]; exact (heap_row _ (by omega) (heap_old _ h5))
  replace h7 : w4.heap[w3.heap.size]? = some (.cells (arrC E1) 22 (0, 0)) := by rw [ew4]; exact (setRow_heap _ _ _ _ _ _ (heap_new_at _ _ _ rfl))
  have hBw4 : Hid (Below w.heap.size w w4) := Lib.hid (by rw [ew4]; exact (below_setRow (below_alloc hBw3.out _) (by omega) _))
  clear ew4
  go_wp2_with (first
    | ((with_reducible refine at_dst 21 ?_); refine wpList_load_row rfl 22 _ rfl (w1.heap.size) rfl 22 (arrC E1) (0, 0) _ h5 under32 rfl (info32_of (arrC E1) (arrC_size _)) ?_)
    | ((with_reducible refine at_dst 22 ?_); refine wpList_load_row rfl 22 _ rfl (w3.heap.size) rfl 22 (arrC E1) (0, 0) _ h7 under32 rfl (info32_of (arrC E1) (arrC_size _)) ?_)
    | ((with_reducible refine at_dst 31 ?_); refine load_guarded rfl 22 _ rfl (w.heap.size) rfl 22 (arrC N) (0, 0) _ h2 under32 rfl (info32_of (arrC N) (arrC_size _)) ?_))
  refine (isPoint_s N P lN hN _).mono ?_
  rintro e w5 ⟨rfl, hC5⟩
  have hs5 : w4.heap.size ≤ w5.heap.size := by have := hC5.size; (try simp only [alloc_size, setRow_size] at this); omega
  replace h2 : w5.heap[w.heap.size]? = some (.cells (arrC N) 22 (0, 0)) := (heap_call hC5 h2)
  replace h3 : w5.heap[w.heap.size + 1]? = some (.cells (arrC M) 22 (0, 0)) := (heap_call hC5 h3)
  replace h5 : w5.heap[w1.heap.size]? = some (.cells (arrC E1) 22 (0, 0)) := (heap_call hC5 h5)
  replace h7 : w5.heap[w3.heap.size]? = some (.cells (arrC E1) 22 (0, 0)) := (heap_call hC5 h7)
  have hBw5 : Hid (Below w.heap.size w w5) := Lib.hid (below_call hBw4.out hC5)
  clear hC5
  go_wp2_with (first
    | ((with_reducible refine at_dst 34 ?_); refine load_guarded rfl 22 _ rfl (w.heap.size + 1) rfl 22 (arrC M) (0, 0) _ h3 under32 rfl (info32_of (arrC M) (arrC_size _)) ?_))
  refine (isPoint_s M Q lM hM _).mono ?_
  rintro e w6 ⟨rfl, hC6⟩
  have hs6 : w5.heap.size ≤ w6.heap.size := by have := hC6.size; (try simp only [alloc_size, setRow_size] at this); omega
  replace h2 : w6.heap[w.heap.size]? = some (.cells (arrC N) 22 (0, 0)) := (heap_call hC6 h2)
  replace h3 : w6.heap[w.heap.size + 1]? = some (.cells (arrC M) 22 (0, 0)) := (heap_call hC6 h3)
  replace h5 : w6.heap[w1.heap.size]? = some (.cells (arrC E1) 22 (0, 0)) := (heap_call hC6 h5)
  replace h7 : w6.heap[w3.heap.size]? = some (.cells (arrC E1) 22 (0, 0)) := (heap_call hC6 h7)
  have hBw6 : Hid (Below w.heap.size w w6) := Lib.hid (below_call hBw5.out hC6)
  clear hC6
  go_wp2
  go_ret
  exact ⟨rfl, hBw6.out⟩
set_option maxHeartbeats 4000000 in
theorem PtAO_sn (N : Nat) (M : Nat) (P : CP) (lN : N < 256 ^ 32) (hN : Hid (decP N = some P)) (lM : M < 256 ^ 32) (hM : Hid (decP M = none)) (B : Nat) (w : World) (hD0 : Var 1 z5 B w) (hD1 : Var 0 i5 B w) (hD2 : Var 2 o5 B w) :
    Calls Tryd.prog 8 #[.agg (arrC N), .agg (arrC M)] w fun e w' => e = .returned (.bool true) ∧ Below w.heap.size w w' := by
  have hBl := hD0.1
  have e1 : ∀ u : World, (Op.equalIn 10000 22 (.agg zL) (.agg zL)).run Tryd.prog u = .ok true u := fun u => by rw [zL_arrC, run_eq_arr 0 0 (by omega) (by omega) u]; simp
  go_enter Tryd.func8, Tryd.ntmps8
  go_wp2_with (first
    | ((with_reducible refine at_dst 10 ?_); refine wpList_load_row rfl 22 _ rfl (w.heap.size) rfl 22 (arrC N) (0, 0) _ (heap_old _ (heap_new_at _ _ _ rfl)) under32 rfl (info32_of (arrC N) (arrC_size _)) ?_)
    | ((with_reducible refine at_dst 11 ?_); refine wpList_load_row rfl 22 _ rfl (w.heap.size + 1) rfl 22 (arrC M) (0, 0) _ (heap_new_at _ _ _ (by simp only [alloc_size, setRow_size])) under32 rfl (info32_of (arrC M) (arrC_size _)) ?_))
  refine (iAdd_sn N M P  lN hN lM hM B _ (hD0.later (below_alloc (below_alloc (Below.refl _ w) _) _)) (hD1.later (below_alloc (below_alloc (Below.refl _ w) _) _)) (hD2.later (below_alloc (below_alloc (Below.refl _ w) _) _))).mono ?_
  rintro e w1 ⟨rfl, hC1⟩
  have hs1 : w.heap.size + 1 + 1 ≤ w1.heap.size := by have := hC1.size; (try simp only [alloc_size, setRow_size] at this); omega
  replace h2 : w1.heap[w.heap.size]? = some (.cells (arrC N) 22 (0, 0)) := (heap_call hC1 (heap_old _ (heap_new_at _ _ _ rfl)))
  replace h3 : w1.heap[w.heap.size + 1]? = some (.cells (arrC M) 22 (0, 0)) := (heap_call hC1 (heap_new_at _ _ _ (by simp only [alloc_size, setRow_size])))
  have hBw1 : Hid (Below w.heap.size w w1) := Lib.hid (below_call (below_alloc (below_alloc (Below.refl _ w) _) _) hC1)
  clear hC1
  go_upto_region 2 with (first
    | ((with_reducible refine at_store 5 ?_); refine wpList_store_row rfl 22 _ _ rfl (w1.heap.size) (zL) rfl rfl 22 (zL) (heap_new_at _ _ _ rfl) (info32_of (zL) zL_size) (zL_size.trans zL_size.symm) zL_one ?_))
  try simp only [Act.put]
  refine wp_named ?_
  intro w2 ew2
  have hs2 : w1.heap.size + 1 ≤ w2.heap.size := by rw [ew2]; (try simp only [alloc_size, setRow_size]); omega
  replace h2 : w2.heap[w.heap.size]? = some (.cells (arrC N) 22 (0, 0)) := by rw [ew2]; exact (heap_row _ (by omega) (heap_old _ h2))
  replace h3 : w2.heap[w.heap.size + 1]? = some (.cells (arrC M) 22 (0, 0)) := by rw [ew2]; exact (heap_row _ (by omega) (heap_old _ h3))
  replace h5 : w2.heap[w1.heap.size]? = some (.cells (zL) 22 (0, 0)) := by rw [ew2]; exact (setRow_heap _ _ _ _ _ _ (heap_new_at _ _ _ rfl))
  have hBw2 : Hid (Below w.heap.size w w2) := Lib.hid (by rw [ew2]; exact (below_setRow (below_alloc hBw1.out _) (by omega) _))
  clear ew2
  go_wp2_with (first
    | ((with_reducible refine at_dst 16 ?_); refine wpList_load_row rfl 22 _ rfl (w.heap.size + 1) rfl 22 (arrC M) (0, 0) _ h3 under32 rfl (info32_of (arrC M) (arrC_size _)) ?_)
    | ((with_reducible refine at_dst 17 ?_); refine wpList_load_row rfl 22 _ rfl (w.heap.size) rfl 22 (arrC N) (0, 0) _ h2 under32 rfl (info32_of (arrC N) (arrC_size _)) ?_))
  refine (iAdd_ns M N P  lM hM lN hN B _ (hD0.later hBw2.out) (hD1.later hBw2.out) (hD2.later hBw2.out)).mono ?_
  rintro e w3 ⟨rfl, hC3⟩
  have hs3 : w2.heap.size ≤ w3.heap.size := by have := hC3.size; (try simp only [alloc_size, setRow_size] at this); omega
  replace h2 : w3.heap[w.heap.size]? = some (.cells (arrC N) 22 (0, 0)) := (heap_call hC3 h2)
  replace h3 : w3.heap[w.heap.size + 1]? = some (.cells (arrC M) 22 (0, 0)) := (heap_call hC3 h3)
  replace h5 : w3.heap[w1.heap.size]? = some (.cells (zL) 22 (0, 0)) := (heap_call hC3 h5)
  have hBw3 : Hid (Below w.heap.size w w3) := Lib.hid (below_call hBw2.out hC3)
  clear hC3
  go_upto_region 3 with (first
    | ((with_reducible refine at_store 7 ?_); refine wpList_store_row rfl 22 _ _ rfl (w3.heap.size) (zL) rfl rfl 22 (zL) (heap_new_at _ _ _ rfl) (info32_of (zL) zL_size) (zL_size.trans zL_size.symm) zL_one ?_))
  try simp only [Act.put]
  refine wp_named ?_
  intro w4 ew4
  have hs4 : w3.heap.size + 1 ≤ w4.heap.size := by rw [ew4]; (try simp only [alloc_size, setRow_size]); omega
  replace h2 : w4.heap[w.heap.size]? = some (.cells (arrC N) 22 (0, 0)) := by rw [ew4]; exact (heap_row _ (by omega) (heap_old _ h2))
  replace h3 : w4.heap[w.heap.size + 1]? = some (.cells (arrC M) 22 (0, 0)) := by rw [ew4]; exact (heap_row _ (by omega) (heap_old _ h3))
  replace h5 : w4.heap[w1.heap.size]? = some (.cells (zL) 22 (0, 0)) := by rw [ew4]; exact (heap_row _ (by omega) (heap_old _ h5))
  replace h7 : w4.heap[w3.heap.size]? = some (.cells (zL) 22 (0, 0)) := by rw [ew4]; exact (setRow_heap _ _ _ _ _ _ (heap_new_at _ _ _ rfl))
  have hBw4 : Hid (Below w.heap.size w w4) := Lib.hid (by rw [ew4]; exact (below_setRow (below_alloc hBw3.out _) (by omega) _))
  clear ew4
  go_wp2_with (first
    | ((with_reducible refine at_dst 21 ?_); refine wpList_load_row rfl 22 _ rfl (w1.heap.size) rfl 22 (zL) (0, 0) _ h5 under32 rfl (info32_of (zL) zL_size) ?_)
    | ((with_reducible refine at_dst 22 ?_); refine wpList_load_row rfl 22 _ rfl (w3.heap.size) rfl 22 (zL) (0, 0) _ h7 under32 rfl (info32_of (zL) zL_size) ?_)
    | ((with_reducible refine at_dst 31 ?_); refine load_guarded rfl 22 _ rfl (w.heap.size) rfl 22 (arrC N) (0, 0) _ h2 under32 rfl (info32_of (arrC N) (arrC_size _)) ?_))
  refine (isPoint_s N P lN hN _).mono ?_
  rintro e w5 ⟨rfl, hC5⟩
  have hs5 : w4.heap.size ≤ w5.heap.size := by have := hC5.size; (try simp only [alloc_size, setRow_size] at this); omega
  replace h2 : w5.heap[w.heap.size]? = some (.cells (arrC N) 22 (0, 0)) := (heap_call hC5 h2)
  replace h3 : w5.heap[w.heap.size + 1]? = some (.cells (arrC M) 22 (0, 0)) := (heap_call hC5 h3)
  replace h5 : w5.heap[w1.heap.size]? = some (.cells (zL) 22 (0, 0)) := (heap_call hC5 h5)
  replace h7 : w5.heap[w3.heap.size]? = some (.cells (zL) 22 (0, 0)) := (heap_call hC5 h7)
  have hBw5 : Hid (Below w.heap.size w w5) := Lib.hid (below_call hBw4.out hC5)
  clear hC5
  go_wp2_with (first
    | ((with_reducible refine at_dst 34 ?_); refine load_guarded rfl 22 _ rfl (w.heap.size + 1) rfl 22 (arrC M) (0, 0) _ h3 under32 rfl (info32_of (arrC M) (arrC_size _)) ?_))
  refine (isPoint_n M  lM hM _).mono ?_
  rintro e w6 ⟨rfl, hC6⟩
  have hs6 : w5.heap.size ≤ w6.heap.size := by have := hC6.size; (try simp only [alloc_size, setRow_size] at this); omega
  replace h2 : w6.heap[w.heap.size]? = some (.cells (arrC N) 22 (0, 0)) := (heap_call hC6 h2)
  replace h3 : w6.heap[w.heap.size + 1]? = some (.cells (arrC M) 22 (0, 0)) := (heap_call hC6 h3)
  replace h5 : w6.heap[w1.heap.size]? = some (.cells (zL) 22 (0, 0)) := (heap_call hC6 h5)
  replace h7 : w6.heap[w3.heap.size]? = some (.cells (zL) 22 (0, 0)) := (heap_call hC6 h7)
  have hBw6 : Hid (Below w.heap.size w w6) := Lib.hid (below_call hBw5.out hC6)
  clear hC6
  go_wp2
  go_ret
  exact ⟨rfl, hBw6.out⟩
set_option maxHeartbeats 4000000 in
theorem PtAO_ns (N : Nat) (M : Nat) (Q : CP) (lN : N < 256 ^ 32) (hN : Hid (decP N = none)) (lM : M < 256 ^ 32) (hM : Hid (decP M = some Q)) (B : Nat) (w : World) (hD0 : Var 1 z5 B w) (hD1 : Var 0 i5 B w) (hD2 : Var 2 o5 B w) :
    Calls Tryd.prog 8 #[.agg (arrC N), .agg (arrC M)] w fun e w' => e = .returned (.bool true) ∧ Below w.heap.size w w' := by
  have hBl := hD0.1
  have e1 : ∀ u : World, (Op.equalIn 10000 22 (.agg zL) (.agg zL)).run Tryd.prog u = .ok true u := fun u => by rw [zL_arrC, run_eq_arr 0 0 (by omega) (by omega) u]; simp
  go_enter Tryd.func8, Tryd.ntmps8
  go_wp2_with (first
    | ((with_reducible refine at_dst 10 ?_); refine wpList_load_row rfl 22 _ rfl (w.heap.size) rfl 22 (arrC N) (0, 0) _ (heap_old _ (heap_new_at _ _ _ rfl)) under32 rfl (info32_of (arrC N) (arrC_size _)) ?_)
    | ((with_reducible refine at_dst 11 ?_); refine wpList_load_row rfl 22 _ rfl (w.heap.size + 1) rfl 22 (arrC M) (0, 0) _ (heap_new_at _ _ _ (by simp only [alloc_size, setRow_size])) under32 rfl (info32_of (arrC M) (arrC_size _)) ?_))
  refine (iAdd_ns N M Q  lN hN lM hM B _ (hD0.later (below_alloc (below_alloc (Below.refl _ w) _) _)) (hD1.later (below_alloc (below_alloc (Below.refl _ w) _) _)) (hD2.later (below_alloc (below_alloc (Below.refl _ w) _) _))).mono ?_
  rintro e w1 ⟨rfl, hC1⟩
  have hs1 : w.heap.size + 1 + 1 ≤ w1.heap.size := by have := hC1.size; (try simp only [alloc_size, setRow_size] at this); omega
  replace h2 : w1.heap[w.heap.size]? = some (.cells (arrC N) 22 (0, 0)) := (heap_call hC1 (heap_old _ (heap_new_at _ _ _ rfl)))
  replace h3 : w1.heap[w.heap.size + 1]? = some (.cells (arrC M) 22 (0, 0)) := (heap_call hC1 (heap_new_at _ _ _ (by simp only [alloc_size, setRow_size])))
  have hBw1 : Hid (Below w.heap.size w w1) := Lib.hid (below_call (below_alloc (below_alloc (Below.refl _ w) _) _) hC1)
  clear hC1
  go_upto_region 2 with (first
    | ((with_reducible refine at_store 5 ?_); refine wpList_store_row rfl 22 _ _ rfl (w1.heap.size) (zL) rfl rfl 22 (zL) (heap_new_at _ _ _ rfl) (info32_of (zL) zL_size) (zL_size.trans zL_size.symm) zL_one ?_))
  try simp only [Act.put]
  refine wp_named ?_
  intro w2 ew2
  have hs2 : w1.heap.size + 1 ≤ w2.heap.size := by rw [ew2]; (try simp only [alloc_size, setRow_size]); omega
  replace h2 : w2.heap[w.heap.size]? = some (.cells (arrC N) 22 (0, 0)) := by rw [ew2]; exact (heap_row _ (by omega) (heap_old _ h2))
  replace h3 : w2.heap[w.heap.size + 1]? = some (.cells (arrC M) 22 (0, 0)) := by rw [ew2]; exact (heap_row _ (by omega) (heap_old _ h3))
  replace h5 : w2.heap[w1.heap.size]? = some (.cells (zL) 22 (0, 0)) := by rw [ew2]; exact (setRow_heap _ _ _ _ _ _ (heap_new_at _ _ _ rfl))
  have hBw2 : Hid (Below w.heap.size w w2) := Lib.hid (by rw [ew2]; exact (below_setRow (below_alloc hBw1.out _) (by omega) _))
  clear ew2
  go_wp2_with (first
    | ((with_reducible refine at_dst 16 ?_); refine wpList_load_row rfl 22 _ rfl (w.heap.size + 1) rfl 22 (arrC M) (0, 0) _ h3 under32 rfl (info32_of (arrC M) (arrC_size _)) ?_)
    | ((with_reducible refine at_dst 17 ?_); refine wpList_load_row rfl 22 _ rfl (w.heap.size) rfl 22 (arrC N) (0, 0) _ h2 under32 rfl (info32_of (arrC N) (arrC_size _)) ?_))
  refine (iAdd_sn M N Q  lM hM lN hN B _ (hD0.later hBw2.out) (hD1.later hBw2.out) (hD2.later hBw2.out)).mono ?_
  rintro e w3 ⟨rfl, hC3⟩
  have hs3 : w2.heap.size ≤ w3.heap.size := by have := hC3.size; (try simp only [alloc_size, setRow_size] at this); omega
  replace h2 : w3.heap[w.heap.size]? = some (.cells (arrC N) 22 (0, 0)) := (heap_call hC3 h2)
  replace h3 : w3.heap[w.heap.size + 1]? = some (.cells (arrC M) 22 (0, 0)) := (heap_call hC3 h3)
  replace h5 : w3.heap[w1.heap.size]? = some (.cells (zL) 22 (0, 0)) := (heap_call hC3 h5)
  have hBw3 : Hid (Below w.heap.size w w3) := Lib.hid (below_call hBw2.out hC3)
  clear hC3
  go_upto_region 3 with (first
    | ((with_reducible refine at_store 7 ?_); refine wpList_store_row rfl 22 _ _ rfl (w3.heap.size) (zL) rfl rfl 22 (zL) (heap_new_at _ _ _ rfl) (info32_of (zL) zL_size) (zL_size.trans zL_size.symm) zL_one ?_))
  try simp only [Act.put]
  refine wp_named ?_
  intro w4 ew4
  have hs4 : w3.heap.size + 1 ≤ w4.heap.size := by rw [ew4]; (try simp only [alloc_size, setRow_size]); omega
  replace h2 : w4.heap[w.heap.size]? = some (.cells (arrC N) 22 (0, 0)) := by rw [ew4]; exact (heap_row _ (by omega) (heap_old _ h2))
  replace h3 : w4.heap[w.heap.size + 1]? = some (.cells (arrC M) 22 (0, 0)) := by rw [ew4]; exact (heap_row _ (by omega) (heap_old _ h3))
  replace h5 : w4.heap[w1.heap.size]? = some (.cells (zL) 22 (0, 0)) := by rw [ew4]; exact (heap_row _ (by omega) (heap_old _ h5))
  replace h7 : w4.heap[w3.heap.size]? = some (.cells (zL) 22 (0, 0)) := by rw [ew4]; exact (setRow_heap _ _ _ _ _ _ (heap_new_at _ _ _ rfl))
  have hBw4 : Hid (Below w.heap.size w w4) := Lib.hid (by rw [ew4]; exact (below_setRow (below_alloc hBw3.out _) (by omega) _))
  clear ew4
  go_wp2_with (first
    | ((with_reducible refine at_dst 21 ?_); refine wpList_load_row rfl 22 _ rfl (w1.heap.size) rfl 22 (zL) (0, 0) _ h5 under32 rfl (info32_of (zL) zL_size) ?_)
    | ((with_reducible refine at_dst 22 ?_); refine wpList_load_row rfl 22 _ rfl (w3.heap.size) rfl 22 (zL) (0, 0) _ h7 under32 rfl (info32_of (zL) zL_size) ?_)
    | ((with_reducible refine at_dst 31 ?_); refine load_guarded rfl 22 _ rfl (w.heap.size) rfl 22 (arrC N) (0, 0) _ h2 under32 rfl (info32_of (arrC N) (arrC_size _)) ?_))
  refine (isPoint_n N  lN hN _).mono ?_
  rintro e w5 ⟨rfl, hC5⟩
  have hs5 : w4.heap.size ≤ w5.heap.size := by have := hC5.size; (try simp only [alloc_size, setRow_size] at this); omega
  replace h2 : w5.heap[w.heap.size]? = some (.cells (arrC N) 22 (0, 0)) := (heap_call hC5 h2)
  replace h3 : w5.heap[w.heap.size + 1]? = some (.cells (arrC M) 22 (0, 0)) := (heap_call hC5 h3)
  replace h5 : w5.heap[w1.heap.size]? = some (.cells (zL) 22 (0, 0)) := (heap_call hC5 h5)
  replace h7 : w5.heap[w3.heap.size]? = some (.cells (zL) 22 (0, 0)) := (heap_call hC5 h7)
  have hBw5 : Hid (Below w.heap.size w w5) := Lib.hid (below_call hBw4.out hC5)
  clear hC5
  go_wp2
  go_ret
  exact ⟨rfl, hBw5.out⟩
set_option maxHeartbeats 4000000 in
theorem PtAO_nn (N : Nat) (M : Nat) (lN : N < 256 ^ 32) (hN : Hid (decP N = none)) (lM : M < 256 ^ 32) (hM : Hid (decP M = none)) (B : Nat) (w : World) (hD0 : Var 1 z5 B w) (hD1 : Var 0 i5 B w) (hD2 : Var 2 o5 B w) :
    Calls Tryd.prog 8 #[.agg (arrC N), .agg (arrC M)] w fun e w' => e = .returned (.bool true) ∧ Below w.heap.size w w' := by
  have hBl := hD0.1
  have e1 : ∀ u : World, (Op.equalIn 10000 22 (.agg zL) (.agg zL)).run Tryd.prog u = .ok true u := fun u => by rw [zL_arrC, run_eq_arr 0 0 (by omega) (by omega) u]; simp
  go_enter Tryd.func8, Tryd.ntmps8
  go_wp2_with (first
    | ((with_reducible refine at_dst 10 ?_); refine wpList_load_row rfl 22 _ rfl (w.heap.size) rfl 22 (arrC N) (0, 0) _ (heap_old _ (heap_new_at _ _ _ rfl)) under32 rfl (info32_of (arrC N) (arrC_size _)) ?_)
    | ((with_reducible refine at_dst 11 ?_); refine wpList_load_row rfl 22 _ rfl (w.heap.size + 1) rfl 22 (arrC M) (0, 0) _ (heap_new_at _ _ _ (by simp only [alloc_size, setRow_size])) under32 rfl (info32_of (arrC M) (arrC_size _)) ?_))
  refine (iAdd_nn N M   lN hN lM hM B _ (hD0.later (below_alloc (below_alloc (Below.refl _ w) _) _)) (hD1.later (below_alloc (below_alloc (Below.refl _ w) _) _)) (hD2.later (below_alloc (below_alloc (Below.refl _ w) _) _))).mono ?_
  rintro e w1 ⟨rfl, hC1⟩
  have hs1 : w.heap.size + 1 + 1 ≤ w1.heap.size := by have := hC1.size; (try simp only [alloc_size, setRow_size] at this); omega
  replace h2 : w1.heap[w.heap.size]? = some (.cells (arrC N) 22 (0, 0)) := (heap_call hC1 (heap_old _ (heap_new_at _ _ _ rfl)))
  replace h3 : w1.heap[w.heap.size + 1]? = some (.cells (arrC M) 22 (0, 0)) := (heap_call hC1 (heap_new_at _ _ _ (by simp only [alloc_size, setRow_size])))
  have hBw1 : Hid (Below w.heap.size w w1) := Lib.hid (below_call (below_alloc (below_alloc (Below.refl _ w) _) _) hC1)
  clear hC1
  go_upto_region 2 with (first
    | ((with_reducible refine at_store 5 ?_); refine wpList_store_row rfl 22 _ _ rfl (w1.heap.size) (zL) rfl rfl 22 (zL) (heap_new_at _ _ _ rfl) (info32_of (zL) zL_size) (zL_size.trans zL_size.symm) zL_one ?_))
  try simp only [Act.put]
  refine wp_named ?_
  intro w2 ew2
  have hs2 : w1.heap.size + 1 ≤ w2.heap.size := by rw [ew2]; (try simp only [alloc_size, setRow_size]); omega
  replace h2 : w2.heap[w.heap.size]? = some (.cells (arrC N) 22 (0, 0)) := by rw [ew2]; exact (heap_row _ (by omega) (heap_old _ h2))
  replace h3 : w2.heap[w.heap.size + 1]? = some (.cells (arrC M) 22 (0, 0)) := by rw [ew2]; exact (heap_row _ (by omega) (heap_old _ h3))
  replace h5 : w2.heap[w1.heap.size]? = some (.cells (zL) 22 (0, 0)) := by rw [ew2]; exact (setRow_heap _ _ _ _ _ _ (heap_new_at _ _ _ rfl))
  have hBw2 : Hid (Below w.heap.size w w2) := Lib.hid (by rw [ew2]; exact (below_setRow (below_alloc hBw1.out _) (by omega) _))
  clear ew2
  go_wp2_with (first
    | ((with_reducible refine at_dst 16 ?_); refine wpList_load_row rfl 22 _ rfl (w.heap.size + 1) rfl 22 (arrC M) (0, 0) _ h3 under32 rfl (info32_of (arrC M) (arrC_size _)) ?_)
    | ((with_reducible refine at_dst 17 ?_); refine wpList_load_row rfl 22 _ rfl (w.heap.size) rfl 22 (arrC N) (0, 0) _ h2 under32 rfl (info32_of (arrC N) (arrC_size _)) ?_))
  refine (iAdd_nn M N   lM hM lN hN B _ (hD0.later hBw2.out) (hD1.later hBw2.out) (hD2.later hBw2.out)).mono ?_
  rintro e w3 ⟨rfl, hC3⟩
  have hs3 : w2.heap.size ≤ w3.heap.size := by have := hC3.size; (try simp only [alloc_size, setRow_size] at this); omega
  replace h2 : w3.heap[w.heap.size]? = some (.cells (arrC N) 22 (0, 0)) := (heap_call hC3 h2)
  replace h3 : w3.heap[w.heap.size + 1]? = some (.cells (arrC M) 22 (0, 0)) := (heap_call hC3 h3)
  replace h5 : w3.heap[w1.heap.size]? = some (.cells (zL) 22 (0, 0)) := (heap_call hC3 h5)
  have hBw3 : Hid (Below w.heap.size w w3) := Lib.hid (below_call hBw2.out hC3)
  clear hC3
  go_upto_region 3 with (first
    | ((with_reducible refine at_store 7 ?_); refine wpList_store_row rfl 22 _ _ rfl (w3.heap.size) (zL) rfl rfl 22 (zL) (heap_new_at _ _ _ rfl) (info32_of (zL) zL_size) (zL_size.trans zL_size.symm) zL_one ?_))
  try simp only [Act.put]
  refine wp_named ?_
  intro w4 ew4
  have hs4 : w3.heap.size + 1 ≤ w4.heap.size := by rw [ew4]; (try simp only [alloc_size, setRow_size]); omega
  replace h2 : w4.heap[w.heap.size]? = some (.cells (arrC N) 22 (0, 0)) := by rw [ew4]; exact (heap_row _ (by omega) (heap_old _ h2))
  replace h3 : w4.heap[w.heap.size + 1]? = some (.cells (arrC M) 22 (0, 0)) := by rw [ew4]; exact (heap_row _ (by omega) (heap_old _ h3))
  replace h5 : w4.heap[w1.heap.size]? = some (.cells (zL) 22 (0, 0)) := by rw [ew4]; exact (heap_row _ (by omega) (heap_old _ h5))
  replace h7 : w4.heap[w3.heap.size]? = some (.cells (zL) 22 (0, 0)) := by rw [ew4]; exact (setRow_heap _ _ _ _ _ _ (heap_new_at _ _ _ rfl))
  have hBw4 : Hid (Below w.heap.size w w4) := Lib.hid (by rw [ew4]; exact (below_setRow (below_alloc hBw3.out _) (by omega) _))
  clear ew4
  go_wp2_with (first
    | ((with_reducible refine at_dst 21 ?_); refine wpList_load_row rfl 22 _ rfl (w1.heap.size) rfl 22 (zL) (0, 0) _ h5 under32 rfl (info32_of (zL) zL_size) ?_)
    | ((with_reducible refine at_dst 22 ?_); refine wpList_load_row rfl 22 _ rfl (w3.heap.size) rfl 22 (zL) (0, 0) _ h7 under32 rfl (info32_of (zL) zL_size) ?_)
    | ((with_reducible refine at_dst 31 ?_); refine load_guarded rfl 22 _ rfl (w.heap.size) rfl 22 (arrC N) (0, 0) _ h2 under32 rfl (info32_of (arrC N) (arrC_size _)) ?_))
  refine (isPoint_n N  lN hN _).mono ?_
  rintro e w5 ⟨rfl, hC5⟩
  have hs5 : w4.heap.size ≤ w5.heap.size := by have := hC5.size; (try simp only [alloc_size, setRow_size] at this); omega
  replace h2 : w5.heap[w.heap.size]? = some (.cells (arrC N) 22 (0, 0)) := (heap_call hC5 h2)
  replace h3 : w5.heap[w.heap.size + 1]? = some (.cells (arrC M) 22 (0, 0)) := (heap_call hC5 h3)
  replace h5 : w5.heap[w1.heap.size]? = some (.cells (zL) 22 (0, 0)) := (heap_call hC5 h5)
  replace h7 : w5.heap[w3.heap.size]? = some (.cells (zL) 22 (0, 0)) := (heap_call hC5 h7)
  have hBw5 : Hid (Below w.heap.size w w5) := Lib.hid (below_call hBw4.out hC5)
  clear hC5
  go_wp2
  go_ret
  exact ⟨rfl, hBw5.out⟩
theorem PtAO_walk (N : Nat) (lN : N < 256 ^ 32) (M : Nat) (lM : M < 256 ^ 32) (B : Nat) (w : World) (hD0 : Var 1 z5 B w) (hD1 : Var 0 i5 B w) (hD2 : Var 2 o5 B w) : Calls Tryd.prog 8 #[.agg (arrC N), .agg (arrC M)] w fun e w' => e = .returned (.bool true) ∧ Below w.heap.size w w' := by
  cases hP : decP N with
  | none =>
    cases hQ : decP M with
    | none => exact PtAO_nn N M lN (Lib.hid hP) lM (Lib.hid hQ) B w hD0 hD1 hD2
    | some Q => exact PtAO_ns N M Q lN (Lib.hid hP) lM (Lib.hid hQ) B w hD0 hD1 hD2
  | some P =>
    cases hQ : decP M with
    | none => exact PtAO_sn N M P lN (Lib.hid hP) lM (Lib.hid hQ) B w hD0 hD1 hD2
    | some Q => exact PtAO_ss N M P Q lN (Lib.hid hP) lM (Lib.hid hQ) B w hD0 hD1 hD2
end

section
open Go.ChangeShapes Go.WideShapes Go.ChangeAt Go.RowKit
set_option maxRecDepth 100000 in
theorem fnPointAddOrder_laid {W : World} (h : laidMetH Tryd.prog Rows.fnPointAddOrderRow.laid W) : Var 1 z5 W.heap.size W ∧ Var 2 o5 W.heap.size W ∧ Var 0 i5 W.heap.size W := by
  rw [MakeChecks.laidMetH_plain _ _ _ (by kernel_rfl)] at h
  obtain ⟨ps, ⟨g0, t0, cs0, f0, q0, r0, hg0, ht0, hv0, hd0, ⟨g1, t1, cs1, f1, q1, r1, hg1, ht1, hv1, hd1, ⟨g2, t2, cs2, f2, q2, r2, hg2, ht2, hv2, hd2, hlast, hp2⟩, hp1⟩, hp0⟩, _, hfr⟩ := h
  obtain rfl := Option.some.inj ((show Tryd.prog.globalNamed "loop.example/pub-g03328/pub/field.feZero" = some 1 by kernel_rfl).symm.trans hg0)
  obtain rfl := Option.some.inj ((show (Tryd.prog.globals[1]?).map (·.type) = some 68 by kernel_rfl).symm.trans ht0)
  obtain rfl := Option.some.inj ((show Tryd.prog.globalNamed "loop.example/pub-g03328/pub/field.feOne" = some 2 by kernel_rfl).symm.trans hg1)
  obtain rfl := Option.some.inj ((show (Tryd.prog.globals[2]?).map (·.type) = some 68 by kernel_rfl).symm.trans ht1)
  obtain rfl := Option.some.inj ((show Tryd.prog.globalNamed "loop.example/pub-g03328/pub/field.sqrtM1" = some 0 by kernel_rfl).symm.trans hg2)
  obtain rfl := Option.some.inj ((show (Tryd.prog.globals[0]?).map (·.type) = some 68 by kernel_rfl).symm.trans ht2)
  have hin0 : ∀ x, x ∈ q0 → x ∈ ps := by
    intro x hx
    rw [hp0]
    simp [hx]
  have hD0 := laid_el 0 0 0 0 0 hg0 hv0 hd0 (fun b off hm => (hfr b off (hin0 _ hm)).1)
  have hin1 : ∀ x, x ∈ q1 → x ∈ ps := by
    intro x hx
    rw [hp0, hp1]
    simp [hx]
  have hD1 := laid_el 1 0 0 0 0 hg1 hv1 hd1 (fun b off hm => (hfr b off (hin1 _ hm)).1)
  have hin2 : ∀ x, x ∈ q2 → x ∈ ps := by
    intro x hx
    rw [hp0, hp1, hp2]
    simp [hx]
  have hD2 := laid_el 1718705420411056 234908883556509 2233514472574048 2117202627021982 765476049583133 hg2 hv2 hd2 (fun b off hm => (hfr b off (hin2 _ hm)).1)
  exact ⟨hD0, hD1, hD2⟩
theorem fnPointAddOrder_met (os : Os) (args : Array Value) : laidMetH Tryd.prog Rows.fnPointAddOrderRow.laid ((World.doorLaid Tryd.prog 400 os).forCall (fun _ _ => 0) ⟨#[], args, []⟩).memory :=
  laidMetH_of_parts3 (fuel := 8) (laidMet_of_run' 8 (by kernel_rfl) (by kernel_rfl)) (by kernel_rfl) (by kernel_rfl)
set_option maxRecDepth 100000 in
theorem fnPointAddOrder_lifted (os : Os) (started : os.Started) (H : Type) (enc : TypeId × Value → H) :
    ReturnsInHanded {} Tryd.checked os 8 .any (fun w args => (Rows.fnPointAddOrderSpec.pre enc Tryd.prog Tryd.f8 [] false w args ∧ laidMetH Tryd.prog Rows.fnPointAddOrderRow.laid w) ∧ sizedMet enc Tryd.prog Tryd.f8 (OpenSpec.ofChange Rows.fnPointAddOrderSpec) false w args)
      (Rows.fnPointAddOrderSpec.post enc Tryd.prog Tryd.f8 false true false false) := by
  refine returnsInHanded_of_change_and (C := Tryd.checked) (X := fun w _ => laidMetH Tryd.prog Rows.fnPointAddOrderRow.laid w) (fun _ _ _ hh h => h.of_heap hh) Tryd.own started (by kernel_rfl) Tryd.func8
    (ChangeSpec.witness_shaped (enc := enc) (C := Tryd.checked) (os := os) (X := fun w _ => laidMetH Tryd.prog Rows.fnPointAddOrderRow.laid w) false (World.doorLaid Tryd.prog 400 os) #[.agg #[.int .u8 0, .int .u8 0, .int .u8 0, .int .u8 0, .int .u8 0, .int .u8 0, .int .u8 0, .int .u8 0, .int .u8 0, .int .u8 0, .int .u8 0, .int .u8 0, .int .u8 0, .int .u8 0, .int .u8 0, .int .u8 0, .int .u8 0, .int .u8 0, .int .u8 0, .int .u8 0, .int .u8 0, .int .u8 0, .int .u8 0, .int .u8 0, .int .u8 0, .int .u8 0, .int .u8 0, .int .u8 0, .int .u8 0, .int .u8 0, .int .u8 0, .int .u8 0], .agg #[.int .u8 0, .int .u8 0, .int .u8 0, .int .u8 0, .int .u8 0, .int .u8 0, .int .u8 0, .int .u8 0, .int .u8 0, .int .u8 0, .int .u8 0, .int .u8 0, .int .u8 0, .int .u8 0, .int .u8 0, .int .u8 0, .int .u8 0, .int .u8 0, .int .u8 0, .int .u8 0, .int .u8 0, .int .u8 0, .int .u8 0, .int .u8 0, .int .u8 0, .int .u8 0, .int .u8 0, .int .u8 0, .int .u8 0, .int .u8 0, .int .u8 0, .int .u8 0]] 8 rfl (World.shaped_of_RefB (by kernel_rfl) (by kernel_rfl)) (by kernel_rfl) (by kernel_rfl) (by kernel_rfl) (fnPointAddOrder_met os _)) ?_
  intro W base args ds gs before hval0 hW _ _ hL _
  have hval : ∀ (j : Nat) t v, Tryd.f8.params[j]? = some t → args[j]? = some v → Value.okWide Tryd.prog W .any base t v := hval0
  have hW' := hW
  obtain ⟨p, q, hA0, hV, rfl, hfz, hnd⟩ := hW
  have hA : DataW.TrodAll enc Tryd.prog W 0 (fun _ => true) true Tryd.f8.params.toList args.toList ds p := hA0
  rw [Tryd.params8] at hA hval
  obtain ⟨v0, v1, d0, d1, p0, p1, rfl, rfl, rfl, h0, h1⟩ := trodAll_two hA
  obtain ⟨X, bX, rfl, rfl, sX⟩ := open32 (hval 0 22 v0 rfl rfl) h0
  obtain ⟨Y, bY, rfl, rfl, sY⟩ := open32 (hval 1 22 v1 rfl rfl) h1
  clear hA0 hval0 hA
  have hVV : DataW.TrodVars enc Tryd.prog W (fun _ => true) ["loop.example/pub-g03328/pub/field.feOne", "loop.example/pub-g03328/pub/field.sqrtM1", "loop.example/pub-g03328/pub/field.feZero"] gs q := hV
  have hVs := fun W' (hB : Below W.heap.size W W') => vars_stay hB (ns := ["loop.example/pub-g03328/pub/field.feOne", "loop.example/pub-g03328/pub/field.sqrtM1", "loop.example/pub-g03328/pub/field.feZero"]) (gs := gs) (q := q) (by
    intro n hn g t hg ht
    simp only [List.mem_cons, List.not_mem_nil, or_false] at hn
    rcases hn with rfl | rfl | rfl
    · obtain rfl := Option.some.inj ((show Tryd.prog.globalNamed "loop.example/pub-g03328/pub/field.feOne" = some 2 by kernel_rfl).symm.trans hg)
      obtain rfl := Option.some.inj ((show (Tryd.prog.globals[2]?).map (·.type) = some 68 by kernel_rfl).symm.trans ht)
      exact ⟨by kernel_rfl, of_decide_eq_true (by kernel_rfl)⟩
    · obtain rfl := Option.some.inj ((show Tryd.prog.globalNamed "loop.example/pub-g03328/pub/field.sqrtM1" = some 0 by kernel_rfl).symm.trans hg)
      obtain rfl := Option.some.inj ((show (Tryd.prog.globals[0]?).map (·.type) = some 68 by kernel_rfl).symm.trans ht)
      exact ⟨by kernel_rfl, of_decide_eq_true (by kernel_rfl)⟩
    · obtain rfl := Option.some.inj ((show Tryd.prog.globalNamed "loop.example/pub-g03328/pub/field.feZero" = some 1 by kernel_rfl).symm.trans hg)
      obtain rfl := Option.some.inj ((show (Tryd.prog.globals[1]?).map (·.type) = some 68 by kernel_rfl).symm.trans ht)
      exact ⟨by kernel_rfl, of_decide_eq_true (by kernel_rfl)⟩) hVV
  obtain ⟨y0, y1, y2, hgs⟩ := list_len3 (trodVars_len hVV)
  subst hgs
  obtain ⟨hD0, hD1, hD2⟩ := fnPointAddOrder_laid hL
  refine (PtAO_walk X bX Y bY W.heap.size W hD0 hD2 hD1).mono fun e W' ⟨he, hB⟩ => ?_
  subst he
  exact ⟨_, rfl, _, _, _, [], [], q, hW', trodAll_mk1 (shut_bool (by kernel_rfl) true), trodAll_mk2 (sX W' _) (sY W' _), hVs W' hB, hB.frame _, fun h => by cases h⟩
theorem fnPointAddOrder_holds : Rows.FnPointAddOrderSaid :=
  OpenClaim.holds_of_wide 8 Tryd.f8 rfl rfl rfl rfl rfl rfl rfl ⟨rfl, rfl, rfl, rfl, rfl⟩ rfl rfl rfl rfl rfl (by kernel_rfl) Tryd.func8 (by kernel_rfl)
    (of_decide_eq_true (by kernel_rfl)) (by unfold Func.isWrapper; first | (rw [if_pos (by decide +kernel)]; kernel_rfl) | (rw [if_neg (by decide +kernel)]; exact ⟨rfl, rfl⟩))
    (fun os started H enc _ => fnPointAddOrder_lifted os started H enc)
theorem fnPointAddOrder_card : Rows.FnPointAddOrderCardSaid :=
  Claim7.holds_tied_plain_at .later [] [.widerDeep, .widerDeep, .widerDeep] true Rows.fnPointAddOrderCard.stood.harness false
    fnPointAddOrder_holds (fun _ h => by cases h) (by kernel_rfl) (fun _ h => by cases h) fnPointAddOrder_row_tie rfl ⟨rfl, rfl⟩ (by kernel_rfl) rfl
    (fun f fn hf hfn => by
      obtain rfl : f = 8 := Option.some.inj ((show Tryd.prog.funcNamed "loop.example/pub-g03328/laws.FnPointAddOrder" = some 8 by kernel_rfl).symm.trans hf) |>.symm
      obtain rfl : fn = Tryd.f8 := (Option.some.inj (Tryd.func8.symm.trans hfn)).symm
      exact ⟨by kernel_rfl, fun j t ht => by
        rw [Tryd.params8] at ht
        have h3 : t = 22 := by
          rcases j with _ | _ | j
          · simp at ht; subst ht; simp
          · simp at ht; subst ht; simp
          · simp at ht
        subst h3
        exact (show Tryd.prog.wantsStandIn 22 = false by kernel_rfl)⟩)
    (by kernel_rfl)
end

end Go.Proofs.YtcenlinpbpbpoaaDoor
