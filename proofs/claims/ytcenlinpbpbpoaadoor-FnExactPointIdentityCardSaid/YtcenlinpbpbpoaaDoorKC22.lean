/- laws.FnExactPointIdentity returns true for all p, feZero, feOne and sqrtM1 being laid by the program's text. -/
import Derived.BigRegion
import Derived.ChangeBears2
import Derived.ChangeKeysEq
import Derived.ChangeVars
import Derived.Deep.DeepCutAuto
import Derived.Deep.Draws
import Derived.Deep.Fields
import Derived.Deep.MidRow
import Derived.Deep.Quiet
import Derived.Deep.RegionHeld3
import Derived.Deep.WholeRow
import Derived.Great.BuildSlice
import Derived.LaidMore
import Derived.Laws.AppendOwn
import Derived.Laws.Bits64b
import Derived.Laws.CopyOwn
import Derived.Laws.CopyRow
import Derived.Laws.Externs
import Derived.Laws.StructEq
import Derived.Laws.Tables
import Derived.Lib.Hide
import Derived.LoopTactic
import Derived.OpenShut
import Derived.ProofKit
import Derived.StillTailTactics
import Derived.Stop.Joined
import Derived.Test.YtcenlinpbpbpoaaDoorCards
import Derived.Test.YtcenlinpbpbpoaaDoorProg
import Derived.Test.YtcenlinpbpbpoaaDoorRows
import Derived.Test.YtcenlinpbpbpoaaDoorTie
import Derived.WalkKit
import Derived.WalkLawsBesides
import Derived.WalkSpells
import Derived.WideKeyArgs
import Derived.Test.YtcenlinpbpbpoaaDoorKC0
import Derived.Test.YtcenlinpbpbpoaaDoorKC1
import Derived.Test.YtcenlinpbpbpoaaDoorKC11
import Derived.Test.YtcenlinpbpbpoaaDoorKC13
import Derived.Test.YtcenlinpbpbpoaaDoorKC3
import Derived.Test.YtcenlinpbpbpoaaDoorKC4
import Derived.Test.YtcenlinpbpbpoaaDoorKC7
import Derived.Test.YtcenlinpbpbpoaaDoorKHF1
import Derived.Test.YtcenlinpbpbpoaaDoorKHF3
import Derived.Test.YtcenlinpbpbpoaaDoorKHGr
import Derived.Test.YtcenlinpbpbpoaaDoorKHPI
import Derived.Test.YtcenlinpbpbpoaaDoorKHPO
import Derived.Test.YtcenlinpbpbpoaaDoorKHPP
import Derived.Test.YtcenlinpbpbpoaaDoorKHPS
import Derived.Test.YtcenlinpbpbpoaaDoorKHS8
import Derived.Test.YtcenlinpbpbpoaaDoorKHSQ
import Derived.Test.YtcenlinpbpbpoaaDoorKHSQB
import Derived.Test.YtcenlinpbpbpoaaDoorKHSQN
import Derived.Test.YtcenlinpbpbpoaaDoorKHSRD
import Derived.Test.YtcenlinpbpbpoaaDoorKHU1
import Derived.Test.YtcenlinpbpbpoaaDoorKHUM
import Derived.Test.YtcenlinpbpbpoaaDoorKHUN
import Derived.Test.YtcenlinpbpbpoaaDoorKHUS
import Derived.Test.YtcenlinpbpbpoaaDoorKHUSR
import Derived.Test.YtcenlinpbpbpoaaDoorKHUSe
import Derived.Test.YtcenlinpbpbpoaaDoorKL0
import Derived.Test.YtcenlinpbpbpoaaDoorKL1
import Derived.Test.YtcenlinpbpbpoaaDoorKL2
import Derived.Test.YtcenlinpbpbpoaaDoorKL3
import Derived.Test.YtcenlinpbpbpoaaDoorKL4
namespace Go.Proofs.YtcenlinpbpbpoaaDoor
set_option maxRecDepth 4000
set_option linter.unusedSimpArgs false
set_option linter.unusedVariables false
section
theorem zero_rp : Rp CP.zero 0 1 1 := ⟨fp_one_ne, by show (0 : Fp) = 0 * 1; grind, by show (1 : Fp) = 1 * 1; grind⟩
end

section
open Go.RowKit
set_option maxHeartbeats 1000000 in
theorem sidentity  (w : World) :
    Calls Tryd.prog 35 #[] w fun e w' => e = .returned (.agg (ptC (0 : Fp).val (1 : Fp).val (1 : Fp).val)) ∧ Below w.heap.size w w' := by
  go_enter Tryd.func35, Tryd.ntmps35
  go_wp2_with fail
  refine (sone_ff _).mono ?_
  rintro e w1 ⟨rfl, hC1⟩
  have hs1 : w.heap.size + 1 ≤ w1.heap.size := by have := hC1.size; (try simp only [alloc_size, setRow_size] at this); omega
  replace h0 : w1.heap[w.heap.size]? = some (.cells (z12) 45 (0, 0)) := (heap_call hC1 (heap_new_at _ _ _ rfl))
  have hBw1 : Hid (Below w.heap.size w w1) := Lib.hid (below_call (below_alloc (Below.refl _ w) _) hC1)
  clear hC1
  go_wp2_with fail
  refine (sone_ff _).mono ?_
  rintro e w2 ⟨rfl, hC2⟩
  have hs2 : w1.heap.size ≤ w2.heap.size := by have := hC2.size; (try simp only [alloc_size, setRow_size] at this); omega
  replace h0 : w2.heap[w.heap.size]? = some (.cells (z12) 45 (0, 0)) := (heap_call hC2 h0)
  have hBw2 : Hid (Below w.heap.size w w2) := Lib.hid (below_call hBw1.out hC2)
  clear hC2
  go_wp2_with (first
    | ((with_reducible refine at_dst 4 ?_); refine wpList_buildTo rfl 45 _ rfl (some 4) rfl (ptC (0) ((1 : Fp).val) ((1 : Fp).val)) (by kernel_rfl) ?_)
    | ((with_reducible refine at_store 0 ?_); refine wpList_store_row rfl 45 _ _ rfl (w.heap.size) (ptC (0) ((1 : Fp).val) ((1 : Fp).val)) rfl rfl 45 (z12) h0 (infoPt_of (ptC (0) ((1 : Fp).val) ((1 : Fp).val)) (ptC_size _ _ _)) (z12_size.trans (ptC_size _ _ _).symm) (ptC_one _ _ _) ?_))
  refine bodyPost_ret (results_cell_row rfl _ _ (w.heap.size) 45 (ptC (0) ((1 : Fp).val) ((1 : Fp).val)) (0, 0) _ rfl (setRow_heap _ _ _ _ _ _ h0) underPt rfl (infoPt_of (ptC (0) ((1 : Fp).val) ((1 : Fp).val)) (ptC_size _ _ _))) rfl ⟨rfl, (below_setRow hBw2.out (by omega) _)⟩
end

section
open Go.RowKit
set_option maxHeartbeats 1000000 in
theorem sIdentity  (w : World) :
    Calls Tryd.prog 20 #[] w fun e w' => e = .returned (.agg (arrC (encN CP.zero))) ∧ Below w.heap.size w w' := by
  go_enter Tryd.func20, Tryd.ntmps20
  go_wp2_with fail
  refine (sidentity _).mono ?_
  rintro e w1 ⟨rfl, hC1⟩
  have hs1 : w.heap.size + 1 ≤ w1.heap.size := by have := hC1.size; (try simp only [alloc_size, setRow_size] at this); omega
  replace h0 : w1.heap[w.heap.size]? = some (.cells (zL) 22 (0, 0)) := (heap_call hC1 (heap_new_at _ _ _ rfl))
  have hBw1 : Hid (Below w.heap.size w w1) := Lib.hid (below_call (below_alloc (Below.refl _ w) _) hC1)
  clear hC1
  go_wp2_with fail
  refine (sencoded CP.zero _ _ _ zero_rp _).mono ?_
  rintro e w2 ⟨rfl, hC2⟩
  have hs2 : w1.heap.size ≤ w2.heap.size := by have := hC2.size; (try simp only [alloc_size, setRow_size] at this); omega
  replace h0 : w2.heap[w.heap.size]? = some (.cells (zL) 22 (0, 0)) := (heap_call hC2 h0)
  have hBw2 : Hid (Below w.heap.size w w2) := Lib.hid (below_call hBw1.out hC2)
  clear hC2
  go_wp2_with (first
    | ((with_reducible refine at_store 0 ?_); refine wpList_store_row rfl 22 _ _ rfl (w.heap.size) (arrC (encN (CP.zero))) rfl rfl 22 (zL) h0 (info32_of (arrC (encN (CP.zero))) (arrC_size _)) (zL_size.trans (arrC_size _).symm) (arrC_one _) ?_))
  refine bodyPost_ret (results_cell_row rfl _ _ (w.heap.size) 22 (arrC (encN (CP.zero))) (0, 0) _ rfl (setRow_heap _ _ _ _ _ _ h0) under32 rfl (info32_of (arrC (encN (CP.zero))) (arrC_size _))) rfl ⟨rfl, (below_setRow hBw2.out (by omega) _)⟩
theorem sIdentitye (E : Nat) (HE : Hid (E = encN CP.zero))  (w : World) :
    Calls Tryd.prog 20 #[] w fun e w' => e = .returned (.agg (arrC E)) ∧ Below w.heap.size w w' := by
  rw [HE.out]
  exact sIdentity w
end

section
open Go.RowKit
set_option maxHeartbeats 4000000 in
theorem PtId_n (N : Nat) (lN : N < 256 ^ 32) (hN : Hid (decP N = none)) (B : Nat) (w : World) (hD0 : Var 1 z5 B w) (hD1 : Var 0 i5 B w) (hD2 : Var 2 o5 B w) :
    Calls Tryd.prog 6 #[.agg (arrC N)] w fun e w' => e = .returned (.bool true) ∧ Below w.heap.size w w' := by
  have hBl := hD0.1
  obtain ⟨E0, qE0⟩ : ∃ u : Nat, u = encN (CP.zero) := ⟨_, rfl⟩
  have HE0 := Lib.hid qE0
  have lE0 : E0 < 256 ^ 32 := by rw [qE0]; exact encN_lt _
  clear qE0
  have e1 : ∀ u : World, (Op.equalIn 10000 22 (.agg (arrC E0)) (.agg (arrC E0))).run Tryd.prog u = .ok true u := fun u => by rw [run_eq_arr _ _ lE0 lE0 u]; simp
  go_enter Tryd.func6, Tryd.ntmps6
  go_wp2_with fail
  try simp only [Act.put]
  refine wp_named ?_
  intro w1 ew1
  have hs1 : w.heap.size + 1 ≤ w1.heap.size := by rw [ew1]; (try simp only [alloc_size, setRow_size]); omega
  replace h1 : w1.heap[w.heap.size]? = some (.cells (arrC N) 22 (0, 0)) := by rw [ew1]; exact (heap_new_at _ _ _ rfl)
  have hBw1 : Hid (Below w.heap.size w w1) := Lib.hid (by rw [ew1]; exact (below_alloc (Below.refl _ w) _))
  clear ew1
  refine wp_region_noPanic ?_
  refine wp_region_held_drew (S := Keep (w1.heap.size) w1) (by kernel_rfl) (Keep.start _ _) ?_
  intro hS
  obtain ⟨w2, ed⟩ : ∃ u : World, u = w1.drew := ⟨_, rfl⟩
  rw [← ed] at hS ⊢
  have xh1 : w2.heap[w.heap.size]? = some (.cells (arrC N) 22 (0, 0)) := by rw [ed]; exact h1
  clear ed
  have hSz := hS.size
  clear xh1
  refine takeAtK (i := 1) (v := .agg (arrC N)) rfl (some 9) rfl (take_row rfl _ _ rfl (w.heap.size) rfl _ _ _ h1 (Nat.ne_of_lt (heap_lt h1)) under32 rfl (info32_of (arrC N) (arrC_size _))) hS ?_
  simp only [Act.put, sia, sc0, scs]
  refine wpAnyH_ready (rs := [0]) (by kernel_rfl) (by simp) ?_
  refine (AllReadyH.cons rfl ?_ AllReadyH.nil)
  intro K hK
  refine ready_call rfl (some 8) rfl 15 #[] (by go_simp) ?_
  refine (iIdentitye E0 HE0 B _ (hD0.later (hBw1.out.trans (hS.below (by omega) hBw1.out.size))) (hD1.later (hBw1.out.trans (hS.below (by omega) hBw1.out.size))) (hD2.later (hBw1.out.trans (hS.below (by omega) hBw1.out.size)))).mono ?_
  rintro e w3 ⟨rfl, hC⟩
  refine ⟨_, rfl, ?_⟩
  simp only [Act.put, sia, sc0, scs]
  have hS := hS.call hC
  have hz3 := hC.size
  clear hC
  refine hK.out _ _ hS ?_
  clear hK K
  intro _
  have hSz := hS.size
  refine wpAnyH_ready (rs := [2]) (by kernel_rfl) (by simp) ?_
  refine (AllReadyH.cons rfl ?_ AllReadyH.nil)
  intro K hK
  refine ready_call rfl (some 10) rfl 11 #[.agg (arrC E0), .agg (arrC N)] (by go_simp) ?_
  refine (iEqual_sn E0 N (CP.zero)  lE0 (Lib.hid (by rw [HE0.out]; exact dec_enc _)) lN hN B _ (hD0.later (hBw1.out.trans (hS.below (by omega) hBw1.out.size))) (hD1.later (hBw1.out.trans (hS.below (by omega) hBw1.out.size))) (hD2.later (hBw1.out.trans (hS.below (by omega) hBw1.out.size)))).mono ?_
  rintro e w4 ⟨rfl, hC⟩
  refine ⟨_, rfl, ?_⟩
  simp only [Act.put, sia, sc0, scs]
  have hS := hS.call hC
  have hz4 := hC.size
  clear hC
  refine hK.out _ _ hS ?_
  clear hK K
  intro _
  have hSz := hS.size
  refine takeAtK (i := 3) (v := .tuple #[.int .i64 0, .bool false]) rfl (some 7) rfl (take_run rfl (fun _ _ => by go_simp)) hS ?_
  simp only [Act.put, sia, sc0, scs]
  refine takeAtK (i := 4) (v := .int .i64 0) rfl (some 11) rfl (take_run rfl (fun _ _ => by go_simp)) hS ?_
  simp only [Act.put, sia, sc0, scs]
  refine takeAtK (i := 5) (v := .bool false) rfl (some 12) rfl (take_run rfl (fun _ _ => by go_simp)) hS ?_
  simp only [Act.put, sia, sc0, scs]
  refine takeAtK (i := 6) (v := .int .i64 0) rfl (some 3) rfl (take_run rfl (fun _ _ => by go_simp)) hS ?_
  simp only [Act.put, sia, sc0, scs]
  refine takeAtK (i := 7) (v := .bool false) rfl (some 4) rfl (take_run rfl (fun _ _ => by go_simp)) hS ?_
  simp only [Act.put, sia, sc0, scs]
  refine wpAnyH_done (by kernel_rfl) ?_ _
  refine NoPanic.normal ?_
  have hsz := hS.size
  have h1 : w4.heap[w.heap.size]? = some (.cells (arrC N) 22 (0, 0)) := hS.old h1 (Nat.ne_of_lt (heap_lt h1))
  have hBw4 : Hid (Below w.heap.size w w4) := Lib.hid (hBw1.out.trans (hS.below (by omega) hBw1.out.size))
  clear hS
  go_wp2_with fail
  try simp only [Act.put]
  refine wp_named ?_
  intro w6 ew6
  have hs6 : w4.heap.size ≤ w6.heap.size := by rw [ew6]; (try simp only [alloc_size, setRow_size]); omega
  replace h1 : w6.heap[w.heap.size]? = some (.cells (arrC N) 22 (0, 0)) := by rw [ew6]; exact h1
  have hBw6 : Hid (Below w.heap.size w w6) := Lib.hid (by rw [ew6]; exact hBw4.out)
  clear ew6
  refine wp_region_noPanic ?_
  refine wp_region_held_drew (S := Keep (w6.heap.size) w6) (by kernel_rfl) (Keep.start _ _) ?_
  intro hS
  obtain ⟨w7, ed⟩ : ∃ u : World, u = w6.drew := ⟨_, rfl⟩
  rw [← ed] at hS ⊢
  have xh1 : w7.heap[w.heap.size]? = some (.cells (arrC N) 22 (0, 0)) := by rw [ed]; exact h1
  clear ed
  have hSz := hS.size
  clear xh1
  refine takeAtK (i := 1) (v := .agg (arrC N)) rfl (some 15) rfl (take_row rfl _ _ rfl (w.heap.size) rfl _ _ _ h1 (Nat.ne_of_lt (heap_lt h1)) under32 rfl (info32_of (arrC N) (arrC_size _))) hS ?_
  simp only [Act.put, sia, sc0, scs]
  refine wpAnyH_ready (rs := [0]) (by kernel_rfl) (by simp) ?_
  refine (AllReadyH.cons rfl ?_ AllReadyH.nil)
  intro K hK
  refine ready_call rfl (some 14) rfl 20 #[] (by go_simp) ?_
  refine (sIdentitye E0 HE0 _).mono ?_
  rintro e w8 ⟨rfl, hC⟩
  refine ⟨_, rfl, ?_⟩
  simp only [Act.put, sia, sc0, scs]
  have hS := hS.call hC
  have hz8 := hC.size
  clear hC
  refine hK.out _ _ hS ?_
  clear hK K
  intro _
  have hSz := hS.size
  refine wpAnyH_ready (rs := [2]) (by kernel_rfl) (by simp) ?_
  refine (AllReadyH.cons rfl ?_ AllReadyH.nil)
  intro K hK
  refine ready_call rfl (some 16) rfl 12 #[.agg (arrC E0), .agg (arrC N)] (by go_simp) ?_
  refine (sEqual_sn E0 N (CP.zero)  lE0 (Lib.hid (by rw [HE0.out]; exact dec_enc _)) lN hN _).mono ?_
  rintro e w9 ⟨rfl, hC⟩
  refine ⟨_, rfl, ?_⟩
  simp only [Act.put, sia, sc0, scs]
  have hS := hS.call hC
  have hz9 := hC.size
  clear hC
  refine hK.out _ _ hS ?_
  clear hK K
  intro _
  have hSz := hS.size
  refine takeAtK (i := 3) (v := .tuple #[.int .i64 0, .bool false]) rfl (some 13) rfl (take_run rfl (fun _ _ => by go_simp)) hS ?_
  simp only [Act.put, sia, sc0, scs]
  refine takeAtK (i := 4) (v := .int .i64 0) rfl (some 17) rfl (take_run rfl (fun _ _ => by go_simp)) hS ?_
  simp only [Act.put, sia, sc0, scs]
  refine takeAtK (i := 5) (v := .bool false) rfl (some 18) rfl (take_run rfl (fun _ _ => by go_simp)) hS ?_
  simp only [Act.put, sia, sc0, scs]
  refine takeAtK (i := 6) (v := .int .i64 0) rfl (some 5) rfl (take_run rfl (fun _ _ => by go_simp)) hS ?_
  simp only [Act.put, sia, sc0, scs]
  refine takeAtK (i := 7) (v := .bool false) rfl (some 6) rfl (take_run rfl (fun _ _ => by go_simp)) hS ?_
  simp only [Act.put, sia, sc0, scs]
  refine wpAnyH_done (by kernel_rfl) ?_ _
  refine NoPanic.normal ?_
  have hsz := hS.size
  have h1 : w9.heap[w.heap.size]? = some (.cells (arrC N) 22 (0, 0)) := hS.old h1 (Nat.ne_of_lt (heap_lt h1))
  have hBw9 : Hid (Below w.heap.size w w9) := Lib.hid (hBw6.out.trans (hS.below (by omega) hBw6.out.size))
  clear hS
  go_wp2_with fail
  refine (iIdentitye E0 HE0 B _ (hD0.later hBw9.out) (hD1.later hBw9.out) (hD2.later hBw9.out)).mono ?_
  rintro e w11 ⟨rfl, hC11⟩
  have hs11 : w9.heap.size ≤ w11.heap.size := by have := hC11.size; (try simp only [alloc_size, setRow_size] at this); omega
  replace h1 : w11.heap[w.heap.size]? = some (.cells (arrC N) 22 (0, 0)) := (heap_call hC11 h1)
  have hBw11 : Hid (Below w.heap.size w w11) := Lib.hid (below_call hBw9.out hC11)
  clear hC11
  go_wp2_with fail
  refine (sIdentitye E0 HE0 _).mono ?_
  rintro e w12 ⟨rfl, hC12⟩
  have hs12 : w11.heap.size ≤ w12.heap.size := by have := hC12.size; (try simp only [alloc_size, setRow_size] at this); omega
  replace h1 : w12.heap[w.heap.size]? = some (.cells (arrC N) 22 (0, 0)) := (heap_call hC12 h1)
  have hBw12 : Hid (Below w.heap.size w w12) := Lib.hid (below_call hBw11.out hC12)
  clear hC12
  go_wp2
  go_ret
  exact ⟨rfl, hBw12.out⟩
set_option maxHeartbeats 4000000 in
theorem PtId_strue (N : Nat) (P : CP) (lN : N < 256 ^ 32) (hN : Hid (decP N = some P)) (heq : Hid (CP.zero = P)) (B : Nat) (w : World) (hD0 : Var 1 z5 B w) (hD1 : Var 0 i5 B w) (hD2 : Var 2 o5 B w) :
    Calls Tryd.prog 6 #[.agg (arrC N)] w fun e w' => e = .returned (.bool true) ∧ Below w.heap.size w w' := by
  have hBl := hD0.1
  have HZE : Hid ((1 : Int) = if CP.zero = P then 1 else 0) := Lib.hid (by rw [if_pos heq.out])
  obtain ⟨E0, qE0⟩ : ∃ u : Nat, u = encN (CP.zero) := ⟨_, rfl⟩
  have HE0 := Lib.hid qE0
  have lE0 : E0 < 256 ^ 32 := by rw [qE0]; exact encN_lt _
  clear qE0
  have e1 : ∀ u : World, (Op.equalIn 10000 22 (.agg (arrC E0)) (.agg (arrC E0))).run Tryd.prog u = .ok true u := fun u => by rw [run_eq_arr _ _ lE0 lE0 u]; simp
  go_enter Tryd.func6, Tryd.ntmps6
  go_wp2_with fail
  try simp only [Act.put]
  refine wp_named ?_
  intro w1 ew1
  have hs1 : w.heap.size + 1 ≤ w1.heap.size := by rw [ew1]; (try simp only [alloc_size, setRow_size]); omega
  replace h1 : w1.heap[w.heap.size]? = some (.cells (arrC N) 22 (0, 0)) := by rw [ew1]; exact (heap_new_at _ _ _ rfl)
  have hBw1 : Hid (Below w.heap.size w w1) := Lib.hid (by rw [ew1]; exact (below_alloc (Below.refl _ w) _))
  clear ew1
  refine wp_region_noPanic ?_
  refine wp_region_held_drew (S := Keep (w1.heap.size) w1) (by kernel_rfl) (Keep.start _ _) ?_
  intro hS
  obtain ⟨w2, ed⟩ : ∃ u : World, u = w1.drew := ⟨_, rfl⟩
  rw [← ed] at hS ⊢
  have xh1 : w2.heap[w.heap.size]? = some (.cells (arrC N) 22 (0, 0)) := by rw [ed]; exact h1
  clear ed
  have hSz := hS.size
  clear xh1
  refine takeAtK (i := 1) (v := .agg (arrC N)) rfl (some 9) rfl (take_row rfl _ _ rfl (w.heap.size) rfl _ _ _ h1 (Nat.ne_of_lt (heap_lt h1)) under32 rfl (info32_of (arrC N) (arrC_size _))) hS ?_
  simp only [Act.put, sia, sc0, scs]
  refine wpAnyH_ready (rs := [0]) (by kernel_rfl) (by simp) ?_
  refine (AllReadyH.cons rfl ?_ AllReadyH.nil)
  intro K hK
  refine ready_call rfl (some 8) rfl 15 #[] (by go_simp) ?_
  refine (iIdentitye E0 HE0 B _ (hD0.later (hBw1.out.trans (hS.below (by omega) hBw1.out.size))) (hD1.later (hBw1.out.trans (hS.below (by omega) hBw1.out.size))) (hD2.later (hBw1.out.trans (hS.below (by omega) hBw1.out.size)))).mono ?_
  rintro e w3 ⟨rfl, hC⟩
  refine ⟨_, rfl, ?_⟩
  simp only [Act.put, sia, sc0, scs]
  have hS := hS.call hC
  have hz3 := hC.size
  clear hC
  refine hK.out _ _ hS ?_
  clear hK K
  intro _
  have hSz := hS.size
  refine wpAnyH_ready (rs := [2]) (by kernel_rfl) (by simp) ?_
  refine (AllReadyH.cons rfl ?_ AllReadyH.nil)
  intro K hK
  refine ready_call rfl (some 10) rfl 11 #[.agg (arrC E0), .agg (arrC N)] (by go_simp) ?_
  refine (iEqual_ss E0 N (CP.zero) P 1 HZE lE0 (Lib.hid (by rw [HE0.out]; exact dec_enc _)) lN hN B _ (hD0.later (hBw1.out.trans (hS.below (by omega) hBw1.out.size))) (hD1.later (hBw1.out.trans (hS.below (by omega) hBw1.out.size))) (hD2.later (hBw1.out.trans (hS.below (by omega) hBw1.out.size)))).mono ?_
  rintro e w4 ⟨rfl, hC⟩
  refine ⟨_, rfl, ?_⟩
  simp only [Act.put, sia, sc0, scs]
  have hS := hS.call hC
  have hz4 := hC.size
  clear hC
  refine hK.out _ _ hS ?_
  clear hK K
  intro _
  have hSz := hS.size
  refine takeAtK (i := 3) (v := .tuple #[.int .i64 1, .bool true]) rfl (some 7) rfl (take_run rfl (fun _ _ => by go_simp)) hS ?_
  simp only [Act.put, sia, sc0, scs]
  refine takeAtK (i := 4) (v := .int .i64 1) rfl (some 11) rfl (take_run rfl (fun _ _ => by go_simp)) hS ?_
  simp only [Act.put, sia, sc0, scs]
  refine takeAtK (i := 5) (v := .bool true) rfl (some 12) rfl (take_run rfl (fun _ _ => by go_simp)) hS ?_
  simp only [Act.put, sia, sc0, scs]
  refine takeAtK (i := 6) (v := .int .i64 1) rfl (some 3) rfl (take_run rfl (fun _ _ => by go_simp)) hS ?_
  simp only [Act.put, sia, sc0, scs]
  refine takeAtK (i := 7) (v := .bool true) rfl (some 4) rfl (take_run rfl (fun _ _ => by go_simp)) hS ?_
  simp only [Act.put, sia, sc0, scs]
  refine wpAnyH_done (by kernel_rfl) ?_ _
  refine NoPanic.normal ?_
  have hsz := hS.size
  have h1 : w4.heap[w.heap.size]? = some (.cells (arrC N) 22 (0, 0)) := hS.old h1 (Nat.ne_of_lt (heap_lt h1))
  have hBw4 : Hid (Below w.heap.size w w4) := Lib.hid (hBw1.out.trans (hS.below (by omega) hBw1.out.size))
  clear hS
  go_wp2_with fail
  try simp only [Act.put]
  refine wp_named ?_
  intro w6 ew6
  have hs6 : w4.heap.size ≤ w6.heap.size := by rw [ew6]; (try simp only [alloc_size, setRow_size]); omega
  replace h1 : w6.heap[w.heap.size]? = some (.cells (arrC N) 22 (0, 0)) := by rw [ew6]; exact h1
  have hBw6 : Hid (Below w.heap.size w w6) := Lib.hid (by rw [ew6]; exact hBw4.out)
  clear ew6
  refine wp_region_noPanic ?_
  refine wp_region_held_drew (S := Keep (w6.heap.size) w6) (by kernel_rfl) (Keep.start _ _) ?_
  intro hS
  obtain ⟨w7, ed⟩ : ∃ u : World, u = w6.drew := ⟨_, rfl⟩
  rw [← ed] at hS ⊢
  have xh1 : w7.heap[w.heap.size]? = some (.cells (arrC N) 22 (0, 0)) := by rw [ed]; exact h1
  clear ed
  have hSz := hS.size
  clear xh1
  refine takeAtK (i := 1) (v := .agg (arrC N)) rfl (some 15) rfl (take_row rfl _ _ rfl (w.heap.size) rfl _ _ _ h1 (Nat.ne_of_lt (heap_lt h1)) under32 rfl (info32_of (arrC N) (arrC_size _))) hS ?_
  simp only [Act.put, sia, sc0, scs]
  refine wpAnyH_ready (rs := [0]) (by kernel_rfl) (by simp) ?_
  refine (AllReadyH.cons rfl ?_ AllReadyH.nil)
  intro K hK
  refine ready_call rfl (some 14) rfl 20 #[] (by go_simp) ?_
  refine (sIdentitye E0 HE0 _).mono ?_
  rintro e w8 ⟨rfl, hC⟩
  refine ⟨_, rfl, ?_⟩
  simp only [Act.put, sia, sc0, scs]
  have hS := hS.call hC
  have hz8 := hC.size
  clear hC
  refine hK.out _ _ hS ?_
  clear hK K
  intro _
  have hSz := hS.size
  refine wpAnyH_ready (rs := [2]) (by kernel_rfl) (by simp) ?_
  refine (AllReadyH.cons rfl ?_ AllReadyH.nil)
  intro K hK
  refine ready_call rfl (some 16) rfl 12 #[.agg (arrC E0), .agg (arrC N)] (by go_simp) ?_
  refine (sEqual_sstrue E0 N (CP.zero) P heq lE0 (Lib.hid (by rw [HE0.out]; exact dec_enc _)) lN hN _).mono ?_
  rintro e w9 ⟨rfl, hC⟩
  refine ⟨_, rfl, ?_⟩
  simp only [Act.put, sia, sc0, scs]
  have hS := hS.call hC
  have hz9 := hC.size
  clear hC
  refine hK.out _ _ hS ?_
  clear hK K
  intro _
  have hSz := hS.size
  refine takeAtK (i := 3) (v := .tuple #[.int .i64 1, .bool true]) rfl (some 13) rfl (take_run rfl (fun _ _ => by go_simp)) hS ?_
  simp only [Act.put, sia, sc0, scs]
  refine takeAtK (i := 4) (v := .int .i64 1) rfl (some 17) rfl (take_run rfl (fun _ _ => by go_simp)) hS ?_
  simp only [Act.put, sia, sc0, scs]
  refine takeAtK (i := 5) (v := .bool true) rfl (some 18) rfl (take_run rfl (fun _ _ => by go_simp)) hS ?_
  simp only [Act.put, sia, sc0, scs]
  refine takeAtK (i := 6) (v := .int .i64 1) rfl (some 5) rfl (take_run rfl (fun _ _ => by go_simp)) hS ?_
  simp only [Act.put, sia, sc0, scs]
  refine takeAtK (i := 7) (v := .bool true) rfl (some 6) rfl (take_run rfl (fun _ _ => by go_simp)) hS ?_
  simp only [Act.put, sia, sc0, scs]
  refine wpAnyH_done (by kernel_rfl) ?_ _
  refine NoPanic.normal ?_
  have hsz := hS.size
  have h1 : w9.heap[w.heap.size]? = some (.cells (arrC N) 22 (0, 0)) := hS.old h1 (Nat.ne_of_lt (heap_lt h1))
  have hBw9 : Hid (Below w.heap.size w w9) := Lib.hid (hBw6.out.trans (hS.below (by omega) hBw6.out.size))
  clear hS
  go_wp2_with fail
  refine (iIdentitye E0 HE0 B _ (hD0.later hBw9.out) (hD1.later hBw9.out) (hD2.later hBw9.out)).mono ?_
  rintro e w11 ⟨rfl, hC11⟩
  have hs11 : w9.heap.size ≤ w11.heap.size := by have := hC11.size; (try simp only [alloc_size, setRow_size] at this); omega
  replace h1 : w11.heap[w.heap.size]? = some (.cells (arrC N) 22 (0, 0)) := (heap_call hC11 h1)
  have hBw11 : Hid (Below w.heap.size w w11) := Lib.hid (below_call hBw9.out hC11)
  clear hC11
  go_wp2_with fail
  refine (sIdentitye E0 HE0 _).mono ?_
  rintro e w12 ⟨rfl, hC12⟩
  have hs12 : w11.heap.size ≤ w12.heap.size := by have := hC12.size; (try simp only [alloc_size, setRow_size] at this); omega
  replace h1 : w12.heap[w.heap.size]? = some (.cells (arrC N) 22 (0, 0)) := (heap_call hC12 h1)
  have hBw12 : Hid (Below w.heap.size w w12) := Lib.hid (below_call hBw11.out hC12)
  clear hC12
  go_wp2
  go_ret
  exact ⟨rfl, hBw12.out⟩
set_option maxHeartbeats 4000000 in
theorem PtId_sfalse (N : Nat) (P : CP) (lN : N < 256 ^ 32) (hN : Hid (decP N = some P)) (heq : Hid (¬ CP.zero = P)) (B : Nat) (w : World) (hD0 : Var 1 z5 B w) (hD1 : Var 0 i5 B w) (hD2 : Var 2 o5 B w) :
    Calls Tryd.prog 6 #[.agg (arrC N)] w fun e w' => e = .returned (.bool true) ∧ Below w.heap.size w w' := by
  have hBl := hD0.1
  have HZE : Hid ((0 : Int) = if CP.zero = P then 1 else 0) := Lib.hid (by rw [if_neg heq.out])
  obtain ⟨E0, qE0⟩ : ∃ u : Nat, u = encN (CP.zero) := ⟨_, rfl⟩
  have HE0 := Lib.hid qE0
  have lE0 : E0 < 256 ^ 32 := by rw [qE0]; exact encN_lt _
  clear qE0
  have e1 : ∀ u : World, (Op.equalIn 10000 22 (.agg (arrC E0)) (.agg (arrC E0))).run Tryd.prog u = .ok true u := fun u => by rw [run_eq_arr _ _ lE0 lE0 u]; simp
  go_enter Tryd.func6, Tryd.ntmps6
  go_wp2_with fail
  try simp only [Act.put]
  refine wp_named ?_
  intro w1 ew1
  have hs1 : w.heap.size + 1 ≤ w1.heap.size := by rw [ew1]; (try simp only [alloc_size, setRow_size]); omega
  replace h1 : w1.heap[w.heap.size]? = some (.cells (arrC N) 22 (0, 0)) := by rw [ew1]; exact (heap_new_at _ _ _ rfl)
  have hBw1 : Hid (Below w.heap.size w w1) := Lib.hid (by rw [ew1]; exact (below_alloc (Below.refl _ w) _))
  clear ew1
  refine wp_region_noPanic ?_
  refine wp_region_held_drew (S := Keep (w1.heap.size) w1) (by kernel_rfl) (Keep.start _ _) ?_
  intro hS
  obtain ⟨w2, ed⟩ : ∃ u : World, u = w1.drew := ⟨_, rfl⟩
  rw [← ed] at hS ⊢
  have xh1 : w2.heap[w.heap.size]? = some (.cells (arrC N) 22 (0, 0)) := by rw [ed]; exact h1
  clear ed
  have hSz := hS.size
  clear xh1
  refine takeAtK (i := 1) (v := .agg (arrC N)) rfl (some 9) rfl (take_row rfl _ _ rfl (w.heap.size) rfl _ _ _ h1 (Nat.ne_of_lt (heap_lt h1)) under32 rfl (info32_of (arrC N) (arrC_size _))) hS ?_
  simp only [Act.put, sia, sc0, scs]
  refine wpAnyH_ready (rs := [0]) (by kernel_rfl) (by simp) ?_
  refine (AllReadyH.cons rfl ?_ AllReadyH.nil)
  intro K hK
  refine ready_call rfl (some 8) rfl 15 #[] (by go_simp) ?_
  refine (iIdentitye E0 HE0 B _ (hD0.later (hBw1.out.trans (hS.below (by omega) hBw1.out.size))) (hD1.later (hBw1.out.trans (hS.below (by omega) hBw1.out.size))) (hD2.later (hBw1.out.trans (hS.below (by omega) hBw1.out.size)))).mono ?_
  rintro e w3 ⟨rfl, hC⟩
  refine ⟨_, rfl, ?_⟩
  simp only [Act.put, sia, sc0, scs]
  have hS := hS.call hC
  have hz3 := hC.size
  clear hC
  refine hK.out _ _ hS ?_
  clear hK K
  intro _
  have hSz := hS.size
  refine wpAnyH_ready (rs := [2]) (by kernel_rfl) (by simp) ?_
  refine (AllReadyH.cons rfl ?_ AllReadyH.nil)
  intro K hK
  refine ready_call rfl (some 10) rfl 11 #[.agg (arrC E0), .agg (arrC N)] (by go_simp) ?_
  refine (iEqual_ss E0 N (CP.zero) P 0 HZE lE0 (Lib.hid (by rw [HE0.out]; exact dec_enc _)) lN hN B _ (hD0.later (hBw1.out.trans (hS.below (by omega) hBw1.out.size))) (hD1.later (hBw1.out.trans (hS.below (by omega) hBw1.out.size))) (hD2.later (hBw1.out.trans (hS.below (by omega) hBw1.out.size)))).mono ?_
  rintro e w4 ⟨rfl, hC⟩
  refine ⟨_, rfl, ?_⟩
  simp only [Act.put, sia, sc0, scs]
  have hS := hS.call hC
  have hz4 := hC.size
  clear hC
  refine hK.out _ _ hS ?_
  clear hK K
  intro _
  have hSz := hS.size
  refine takeAtK (i := 3) (v := .tuple #[.int .i64 0, .bool true]) rfl (some 7) rfl (take_run rfl (fun _ _ => by go_simp)) hS ?_
  simp only [Act.put, sia, sc0, scs]
  refine takeAtK (i := 4) (v := .int .i64 0) rfl (some 11) rfl (take_run rfl (fun _ _ => by go_simp)) hS ?_
  simp only [Act.put, sia, sc0, scs]
  refine takeAtK (i := 5) (v := .bool true) rfl (some 12) rfl (take_run rfl (fun _ _ => by go_simp)) hS ?_
  simp only [Act.put, sia, sc0, scs]
  refine takeAtK (i := 6) (v := .int .i64 0) rfl (some 3) rfl (take_run rfl (fun _ _ => by go_simp)) hS ?_
  simp only [Act.put, sia, sc0, scs]
  refine takeAtK (i := 7) (v := .bool true) rfl (some 4) rfl (take_run rfl (fun _ _ => by go_simp)) hS ?_
  simp only [Act.put, sia, sc0, scs]
  refine wpAnyH_done (by kernel_rfl) ?_ _
  refine NoPanic.normal ?_
  have hsz := hS.size
  have h1 : w4.heap[w.heap.size]? = some (.cells (arrC N) 22 (0, 0)) := hS.old h1 (Nat.ne_of_lt (heap_lt h1))
  have hBw4 : Hid (Below w.heap.size w w4) := Lib.hid (hBw1.out.trans (hS.below (by omega) hBw1.out.size))
  clear hS
  go_wp2_with fail
  try simp only [Act.put]
  refine wp_named ?_
  intro w6 ew6
  have hs6 : w4.heap.size ≤ w6.heap.size := by rw [ew6]; (try simp only [alloc_size, setRow_size]); omega
  replace h1 : w6.heap[w.heap.size]? = some (.cells (arrC N) 22 (0, 0)) := by rw [ew6]; exact h1
  have hBw6 : Hid (Below w.heap.size w w6) := Lib.hid (by rw [ew6]; exact hBw4.out)
  clear ew6
  refine wp_region_noPanic ?_
  refine wp_region_held_drew (S := Keep (w6.heap.size) w6) (by kernel_rfl) (Keep.start _ _) ?_
  intro hS
  obtain ⟨w7, ed⟩ : ∃ u : World, u = w6.drew := ⟨_, rfl⟩
  rw [← ed] at hS ⊢
  have xh1 : w7.heap[w.heap.size]? = some (.cells (arrC N) 22 (0, 0)) := by rw [ed]; exact h1
  clear ed
  have hSz := hS.size
  clear xh1
  refine takeAtK (i := 1) (v := .agg (arrC N)) rfl (some 15) rfl (take_row rfl _ _ rfl (w.heap.size) rfl _ _ _ h1 (Nat.ne_of_lt (heap_lt h1)) under32 rfl (info32_of (arrC N) (arrC_size _))) hS ?_
  simp only [Act.put, sia, sc0, scs]
  refine wpAnyH_ready (rs := [0]) (by kernel_rfl) (by simp) ?_
  refine (AllReadyH.cons rfl ?_ AllReadyH.nil)
  intro K hK
  refine ready_call rfl (some 14) rfl 20 #[] (by go_simp) ?_
  refine (sIdentitye E0 HE0 _).mono ?_
  rintro e w8 ⟨rfl, hC⟩
  refine ⟨_, rfl, ?_⟩
  simp only [Act.put, sia, sc0, scs]
  have hS := hS.call hC
  have hz8 := hC.size
  clear hC
  refine hK.out _ _ hS ?_
  clear hK K
  intro _
  have hSz := hS.size
  refine wpAnyH_ready (rs := [2]) (by kernel_rfl) (by simp) ?_
  refine (AllReadyH.cons rfl ?_ AllReadyH.nil)
  intro K hK
  refine ready_call rfl (some 16) rfl 12 #[.agg (arrC E0), .agg (arrC N)] (by go_simp) ?_
  refine (sEqual_ssfalse E0 N (CP.zero) P heq lE0 (Lib.hid (by rw [HE0.out]; exact dec_enc _)) lN hN _).mono ?_
  rintro e w9 ⟨rfl, hC⟩
  refine ⟨_, rfl, ?_⟩
  simp only [Act.put, sia, sc0, scs]
  have hS := hS.call hC
  have hz9 := hC.size
  clear hC
  refine hK.out _ _ hS ?_
  clear hK K
  intro _
  have hSz := hS.size
  refine takeAtK (i := 3) (v := .tuple #[.int .i64 0, .bool true]) rfl (some 13) rfl (take_run rfl (fun _ _ => by go_simp)) hS ?_
  simp only [Act.put, sia, sc0, scs]
  refine takeAtK (i := 4) (v := .int .i64 0) rfl (some 17) rfl (take_run rfl (fun _ _ => by go_simp)) hS ?_
  simp only [Act.put, sia, sc0, scs]
  refine takeAtK (i := 5) (v := .bool true) rfl (some 18) rfl (take_run rfl (fun _ _ => by go_simp)) hS ?_
  simp only [Act.put, sia, sc0, scs]
  refine takeAtK (i := 6) (v := .int .i64 0) rfl (some 5) rfl (take_run rfl (fun _ _ => by go_simp)) hS ?_
  simp only [Act.put, sia, sc0, scs]
  refine takeAtK (i := 7) (v := .bool true) rfl (some 6) rfl (take_run rfl (fun _ _ => by go_simp)) hS ?_
  simp only [Act.put, sia, sc0, scs]
  refine wpAnyH_done (by kernel_rfl) ?_ _
  refine NoPanic.normal ?_
  have hsz := hS.size
  have h1 : w9.heap[w.heap.size]? = some (.cells (arrC N) 22 (0, 0)) := hS.old h1 (Nat.ne_of_lt (heap_lt h1))
  have hBw9 : Hid (Below w.heap.size w w9) := Lib.hid (hBw6.out.trans (hS.below (by omega) hBw6.out.size))
  clear hS
  go_wp2_with fail
  refine (iIdentitye E0 HE0 B _ (hD0.later hBw9.out) (hD1.later hBw9.out) (hD2.later hBw9.out)).mono ?_
  rintro e w11 ⟨rfl, hC11⟩
  have hs11 : w9.heap.size ≤ w11.heap.size := by have := hC11.size; (try simp only [alloc_size, setRow_size] at this); omega
  replace h1 : w11.heap[w.heap.size]? = some (.cells (arrC N) 22 (0, 0)) := (heap_call hC11 h1)
  have hBw11 : Hid (Below w.heap.size w w11) := Lib.hid (below_call hBw9.out hC11)
  clear hC11
  go_wp2_with fail
  refine (sIdentitye E0 HE0 _).mono ?_
  rintro e w12 ⟨rfl, hC12⟩
  have hs12 : w11.heap.size ≤ w12.heap.size := by have := hC12.size; (try simp only [alloc_size, setRow_size] at this); omega
  replace h1 : w12.heap[w.heap.size]? = some (.cells (arrC N) 22 (0, 0)) := (heap_call hC12 h1)
  have hBw12 : Hid (Below w.heap.size w w12) := Lib.hid (below_call hBw11.out hC12)
  clear hC12
  go_wp2
  go_ret
  exact ⟨rfl, hBw12.out⟩
theorem PtId_walk (N : Nat) (lN : N < 256 ^ 32) (B : Nat) (w : World) (hD0 : Var 1 z5 B w) (hD1 : Var 0 i5 B w) (hD2 : Var 2 o5 B w) : Calls Tryd.prog 6 #[.agg (arrC N)] w fun e w' => e = .returned (.bool true) ∧ Below w.heap.size w w' := by
  cases hP : decP N with
  | none => exact PtId_n N lN (Lib.hid hP) B w hD0 hD1 hD2
  | some P => 
    by_cases heq : CP.zero = P
    · exact PtId_strue N P lN (Lib.hid hP) (Lib.hid heq) B w hD0 hD1 hD2
    · exact PtId_sfalse N P lN (Lib.hid hP) (Lib.hid heq) B w hD0 hD1 hD2
end

section
open Go.ChangeShapes Go.WideShapes Go.ChangeAt Go.RowKit
set_option maxRecDepth 100000 in
theorem fnExactPointIdentity_laid {W : World} (h : laidMetH Tryd.prog Rows.fnExactPointIdentityRow.laid W) : Var 1 z5 W.heap.size W ∧ Var 2 o5 W.heap.size W ∧ Var 0 i5 W.heap.size W := by
  rw [MakeChecks.laidMetH_plain _ _ _ (by kernel_rfl)] at h
  obtain ⟨ps, ⟨g0, t0, cs0, f0, q0, r0, hg0, ht0, hv0, hd0, ⟨g1, t1, cs1, f1, q1, r1, hg1, ht1, hv1, hd1, ⟨g2, t2, cs2, f2, q2, r2, hg2, ht2, hv2, hd2, hlast, hp2⟩, hp1⟩, hp0⟩, _, hfr⟩ := h
  obtain rfl := Option.some.inj ((show Tryd.prog.globalNamed "loop.example/pub-g03328/pub/field.feZero" = some 1 by kernel_rfl).symm.trans hg0)
  obtain rfl := Option.some.inj ((show (Tryd.prog.globals[1]?).map (·.type) = some 68 by kernel_rfl).symm.trans ht0)
  obtain rfl := Option.some.inj ((show Tryd.prog.globalNamed "loop.example/pub-g03328/pub/field.feOne" = some 2 by kernel_rfl).symm.trans hg1)
  obtain rfl := Option.some.inj ((show (Tryd.prog.globals[2]?).map (·.type) = some 68 by kernel_rfl).symm.trans ht1)
  obtain rfl := Option.some.inj ((show Tryd.prog.globalNamed "loop.example/pub-g03328/pub/field.sqrtM1" = some 0 by kernel_rfl).symm.trans hg2)
  obtain rfl := Option.some.inj ((show (Tryd.prog.globals[0]?).map (·.type) = some 68 by kernel_rfl).symm.trans ht2)
  have hin0 : ∀ x, x ∈ q0 → x ∈ ps := by
    intro x hx
    rw [hp0]
    simp [hx]
  have hD0 := laid_el 0 0 0 0 0 hg0 hv0 hd0 (fun b off hm => (hfr b off (hin0 _ hm)).1)
  have hin1 : ∀ x, x ∈ q1 → x ∈ ps := by
    intro x hx
    rw [hp0, hp1]
    simp [hx]
  have hD1 := laid_el 1 0 0 0 0 hg1 hv1 hd1 (fun b off hm => (hfr b off (hin1 _ hm)).1)
  have hin2 : ∀ x, x ∈ q2 → x ∈ ps := by
    intro x hx
    rw [hp0, hp1, hp2]
    simp [hx]
  have hD2 := laid_el 1718705420411056 234908883556509 2233514472574048 2117202627021982 765476049583133 hg2 hv2 hd2 (fun b off hm => (hfr b off (hin2 _ hm)).1)
  exact ⟨hD0, hD1, hD2⟩
theorem fnExactPointIdentity_met (os : Os) (args : Array Value) : laidMetH Tryd.prog Rows.fnExactPointIdentityRow.laid ((World.doorLaid Tryd.prog 400 os).forCall (fun _ _ => 0) ⟨#[], args, []⟩).memory :=
  laidMetH_of_parts3 (fuel := 8) (laidMet_of_run' 8 (by kernel_rfl) (by kernel_rfl)) (by kernel_rfl) (by kernel_rfl)
set_option maxRecDepth 100000 in
theorem fnExactPointIdentity_lifted (os : Os) (started : os.Started) (H : Type) (enc : TypeId × Value → H) :
    ReturnsInHanded {} Tryd.checked os 6 .any (fun w args => (Rows.fnExactPointIdentitySpec.pre enc Tryd.prog Tryd.f6 [] false w args ∧ laidMetH Tryd.prog Rows.fnExactPointIdentityRow.laid w) ∧ sizedMet enc Tryd.prog Tryd.f6 (OpenSpec.ofChange Rows.fnExactPointIdentitySpec) false w args)
      (Rows.fnExactPointIdentitySpec.post enc Tryd.prog Tryd.f6 false true false false) := by
  refine returnsInHanded_of_change_and (C := Tryd.checked) (X := fun w _ => laidMetH Tryd.prog Rows.fnExactPointIdentityRow.laid w) (fun _ _ _ hh h => h.of_heap hh) Tryd.own started (by kernel_rfl) Tryd.func6
    (ChangeSpec.witness_shaped (enc := enc) (C := Tryd.checked) (os := os) (X := fun w _ => laidMetH Tryd.prog Rows.fnExactPointIdentityRow.laid w) false (World.doorLaid Tryd.prog 400 os) #[.agg #[.int .u8 0, .int .u8 0, .int .u8 0, .int .u8 0, .int .u8 0, .int .u8 0, .int .u8 0, .int .u8 0, .int .u8 0, .int .u8 0, .int .u8 0, .int .u8 0, .int .u8 0, .int .u8 0, .int .u8 0, .int .u8 0, .int .u8 0, .int .u8 0, .int .u8 0, .int .u8 0, .int .u8 0, .int .u8 0, .int .u8 0, .int .u8 0, .int .u8 0, .int .u8 0, .int .u8 0, .int .u8 0, .int .u8 0, .int .u8 0, .int .u8 0, .int .u8 0]] 8 rfl (World.shaped_of_RefB (by kernel_rfl) (by kernel_rfl)) (by kernel_rfl) (by kernel_rfl) (by kernel_rfl) (fnExactPointIdentity_met os _)) ?_
  intro W base args ds gs before hval0 hW _ _ hL _
  have hval : ∀ (j : Nat) t v, Tryd.f6.params[j]? = some t → args[j]? = some v → Value.okWide Tryd.prog W .any base t v := hval0
  have hW' := hW
  obtain ⟨p, q, hA0, hV, rfl, hfz, hnd⟩ := hW
  have hA : DataW.TrodAll enc Tryd.prog W 0 (fun _ => true) true Tryd.f6.params.toList args.toList ds p := hA0
  rw [Tryd.params6] at hA hval
  obtain ⟨v0, d0, rfl, rfl, h0⟩ := trodAll_one hA
  obtain ⟨X, bX, rfl, rfl, sX⟩ := open32 (hval 0 22 v0 rfl rfl) h0
  clear hA0 hval0 hA
  have hVV : DataW.TrodVars enc Tryd.prog W (fun _ => true) ["loop.example/pub-g03328/pub/field.feOne", "loop.example/pub-g03328/pub/field.sqrtM1", "loop.example/pub-g03328/pub/field.feZero"] gs q := hV
  have hVs := fun W' (hB : Below W.heap.size W W') => vars_stay hB (ns := ["loop.example/pub-g03328/pub/field.feOne", "loop.example/pub-g03328/pub/field.sqrtM1", "loop.example/pub-g03328/pub/field.feZero"]) (gs := gs) (q := q) (by
    intro n hn g t hg ht
    simp only [List.mem_cons, List.not_mem_nil, or_false] at hn
    rcases hn with rfl | rfl | rfl
    · obtain rfl := Option.some.inj ((show Tryd.prog.globalNamed "loop.example/pub-g03328/pub/field.feOne" = some 2 by kernel_rfl).symm.trans hg)
      obtain rfl := Option.some.inj ((show (Tryd.prog.globals[2]?).map (·.type) = some 68 by kernel_rfl).symm.trans ht)
      exact ⟨by kernel_rfl, of_decide_eq_true (by kernel_rfl)⟩
    · obtain rfl := Option.some.inj ((show Tryd.prog.globalNamed "loop.example/pub-g03328/pub/field.sqrtM1" = some 0 by kernel_rfl).symm.trans hg)
      obtain rfl := Option.some.inj ((show (Tryd.prog.globals[0]?).map (·.type) = some 68 by kernel_rfl).symm.trans ht)
      exact ⟨by kernel_rfl, of_decide_eq_true (by kernel_rfl)⟩
    · obtain rfl := Option.some.inj ((show Tryd.prog.globalNamed "loop.example/pub-g03328/pub/field.feZero" = some 1 by kernel_rfl).symm.trans hg)
      obtain rfl := Option.some.inj ((show (Tryd.prog.globals[1]?).map (·.type) = some 68 by kernel_rfl).symm.trans ht)
      exact ⟨by kernel_rfl, of_decide_eq_true (by kernel_rfl)⟩) hVV
  obtain ⟨y0, y1, y2, hgs⟩ := list_len3 (trodVars_len hVV)
  subst hgs
  obtain ⟨hD0, hD1, hD2⟩ := fnExactPointIdentity_laid hL
  refine (PtId_walk X bX W.heap.size W hD0 hD2 hD1).mono fun e W' ⟨he, hB⟩ => ?_
  subst he
  exact ⟨_, rfl, _, _, _, [], [], q, hW', trodAll_mk1 (shut_bool (by kernel_rfl) true), trodAll_mk1 (sX W' _), hVs W' hB, hB.frame _, fun h => by cases h⟩
theorem fnExactPointIdentity_holds : Rows.FnExactPointIdentitySaid :=
  OpenClaim.holds_of_wide 6 Tryd.f6 rfl rfl rfl rfl rfl rfl rfl ⟨rfl, rfl, rfl, rfl, rfl⟩ rfl rfl rfl rfl rfl (by kernel_rfl) Tryd.func6 (by kernel_rfl)
    (of_decide_eq_true (by kernel_rfl)) (by unfold Func.isWrapper; first | (rw [if_pos (by decide +kernel)]; kernel_rfl) | (rw [if_neg (by decide +kernel)]; exact ⟨rfl, rfl⟩))
    (fun os started H enc _ => fnExactPointIdentity_lifted os started H enc)
theorem fnExactPointIdentity_card : Rows.FnExactPointIdentityCardSaid :=
  Claim7.holds_tied_plain_at .later [] [.widerDeep, .widerDeep, .widerDeep] true Rows.fnExactPointIdentityCard.stood.harness false
    fnExactPointIdentity_holds (fun _ h => by cases h) (by kernel_rfl) (fun _ h => by cases h) fnExactPointIdentity_row_tie rfl ⟨rfl, rfl⟩ (by kernel_rfl) rfl
    (fun f fn hf hfn => by
      obtain rfl : f = 6 := Option.some.inj ((show Tryd.prog.funcNamed "loop.example/pub-g03328/laws.FnExactPointIdentity" = some 6 by kernel_rfl).symm.trans hf) |>.symm
      obtain rfl : fn = Tryd.f6 := (Option.some.inj (Tryd.func6.symm.trans hfn)).symm
      exact ⟨by kernel_rfl, fun j t ht => by
        rw [Tryd.params6] at ht
        have h3 : t = 22 := by
          rcases j with _ | j
          · simp at ht; subst ht; simp
          · simp at ht
        subst h3
        exact (show Tryd.prog.wantsStandIn 22 = false by kernel_rfl)⟩)
    (by kernel_rfl)
end

end Go.Proofs.YtcenlinpbpbpoaaDoor
