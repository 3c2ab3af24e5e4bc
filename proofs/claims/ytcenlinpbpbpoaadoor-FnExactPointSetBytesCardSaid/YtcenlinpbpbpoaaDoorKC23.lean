/- laws.FnExactPointSetBytes returns true for all before and x, feZero, feOne and sqrtM1 being laid by the program's text. -/
import Derived.BigRegion
import Derived.ChangeBears2
import Derived.ChangeKeysEq
import Derived.ChangeSlices
import Derived.ChangeVars
import Derived.Deep.DeepCutAuto
import Derived.Deep.Draws
import Derived.Deep.Fields
import Derived.Deep.MidRow
import Derived.Deep.Quiet
import Derived.Deep.RegionHeld3
import Derived.Deep.WholeRow
import Derived.Great.BuildSlice
import Derived.LaidMore
import Derived.Laws.AppendOwn
import Derived.Laws.Bits64b
import Derived.Laws.CopyOwn
import Derived.Laws.CopyRow
import Derived.Laws.Externs
import Derived.Laws.StructEq
import Derived.Laws.Tables
import Derived.Lib.Hide
import Derived.LoopTactic
import Derived.OpenShut
import Derived.ProofKit
import Derived.StillTailTactics
import Derived.Stop.Joined
import Derived.Test.YtcenlinpbpbpoaaDoorCards
import Derived.Test.YtcenlinpbpbpoaaDoorProg
import Derived.Test.YtcenlinpbpbpoaaDoorRows
import Derived.Test.YtcenlinpbpbpoaaDoorTie
import Derived.WalkKit
import Derived.WalkLawsBesides
import Derived.WalkSpells
import Derived.WideKeyArgs
import Derived.Test.YtcenlinpbpbpoaaDoorKC0
import Derived.Test.YtcenlinpbpbpoaaDoorKC1
import Derived.Test.YtcenlinpbpbpoaaDoorKC16
import Derived.Test.YtcenlinpbpbpoaaDoorKC2
import Derived.Test.YtcenlinpbpbpoaaDoorKC4
import Derived.Test.YtcenlinpbpbpoaaDoorKC6
import Derived.Test.YtcenlinpbpbpoaaDoorKHF1
import Derived.Test.YtcenlinpbpbpoaaDoorKHF3
import Derived.Test.YtcenlinpbpbpoaaDoorKHGr
import Derived.Test.YtcenlinpbpbpoaaDoorKHPI
import Derived.Test.YtcenlinpbpbpoaaDoorKHPO
import Derived.Test.YtcenlinpbpbpoaaDoorKHPP
import Derived.Test.YtcenlinpbpbpoaaDoorKHPS
import Derived.Test.YtcenlinpbpbpoaaDoorKHS8
import Derived.Test.YtcenlinpbpbpoaaDoorKHSQ
import Derived.Test.YtcenlinpbpbpoaaDoorKHSQB
import Derived.Test.YtcenlinpbpbpoaaDoorKHSQN
import Derived.Test.YtcenlinpbpbpoaaDoorKHSRD
import Derived.Test.YtcenlinpbpbpoaaDoorKHU1
import Derived.Test.YtcenlinpbpbpoaaDoorKHUM
import Derived.Test.YtcenlinpbpbpoaaDoorKHUN
import Derived.Test.YtcenlinpbpbpoaaDoorKHUS
import Derived.Test.YtcenlinpbpbpoaaDoorKHUSR
import Derived.Test.YtcenlinpbpbpoaaDoorKHUSe
import Derived.Test.YtcenlinpbpbpoaaDoorKL0
import Derived.Test.YtcenlinpbpbpoaaDoorKL1
import Derived.Test.YtcenlinpbpbpoaaDoorKL2
import Derived.Test.YtcenlinpbpbpoaaDoorKL3
import Derived.Test.YtcenlinpbpbpoaaDoorKL4
namespace Go.Proofs.YtcenlinpbpbpoaaDoor
set_option maxRecDepth 4000
set_option linter.unusedSimpArgs false
set_option linter.unusedVariables false
section
open Go.RowKit
set_option maxHeartbeats 1000000 in
theorem el_setBytes_len (vb vo n cap : Nat) (sl : Option Addr) (hn : ¬ (n : Int) = 32) (w : World) :
    Calls Tryd.prog 54 #[.pointer (some ⟨vb, vo, none⟩), .slice sl n cap] w fun e w' => ∃ u, e = .returned (.tuple #[.pointer none, .iface 108 u]) ∧ Below w.heap.size w w' := by
  go_enter Tryd.func54, Tryd.ntmps54
  go_wp2_with fail
  refine (errNew _ _).mono ?_
  rintro e w1 ⟨u2_0, rfl, hC1⟩
  have hs1 : w.heap.size ≤ w1.heap.size := by have := hC1.size; (try simp only [alloc_size, setRow_size] at this); omega
  have hBw1 : Hid (Below w.heap.size w w1) := Lib.hid (below_call (Below.refl _ w) hC1)
  clear hC1
  go_wp2
  go_ret2
  exact ⟨_, rfl, hBw1.out⟩
set_option maxHeartbeats 1000000 in
theorem pt_setBytes_len (vb vo n cap : Nat) (sl : Option Addr) (hn : ¬ (n : Int) = 32) (w : World) :
    Calls Tryd.prog 30 #[.pointer (some ⟨vb, vo, none⟩), .slice sl n cap] w fun e w' => ∃ u, e = .returned (.tuple #[.pointer none, .iface 108 u]) ∧ Below w.heap.size w w' := by
  go_enter Tryd.func30, Tryd.ntmps30
  go_wp2_with fail
  refine (el_setBytes_len _ 0 n cap sl hn _).mono ?_
  rintro e w1 ⟨u1, rfl, hC1⟩
  have hs1 : w.heap.size + 1 ≤ w1.heap.size := by have := hC1.size; (try simp only [alloc_size, setRow_size] at this); omega
  replace h15 : Fe w1 (w.heap.size) (0) (0) := (Fe.below_all (Fe.newz_at _ _ rfl) hC1)
  have hBw1 : Hid (Below w.heap.size w w1) := Lib.hid (below_call (below_alloc (Below.refl _ w) _) hC1)
  clear hC1
  go_wp2_with fail
  refine (errNew _ _).mono ?_
  rintro e w2 ⟨u3_0, rfl, hC2⟩
  have hs2 : w1.heap.size ≤ w2.heap.size := by have := hC2.size; (try simp only [alloc_size, setRow_size] at this); omega
  replace h15 : Fe w2 (w.heap.size) (0) (0) := (Fe.below_all h15 hC2)
  have hBw2 : Hid (Below w.heap.size w w2) := Lib.hid (below_call hBw1.out hC2)
  clear hC2
  go_wp2
  go_ret2
  exact ⟨_, rfl, hBw2.out⟩
end

section
open Go.RowKit
set_option maxHeartbeats 4000000 in
theorem iSet_some_len (N n cap : Nat) (sl : Option Addr) (P : CP) (lN : N < 256 ^ 32) (hN : Hid (decP N = some P)) (hn : ¬ (n : Int) = 32) (B : Nat) (w : World) (hD0 : Var 1 z5 B w) (hD1 : Var 0 i5 B w) (hD2 : Var 2 o5 B w) :
    Calls Tryd.prog 13 #[.agg (arrC N), .slice sl n cap] w fun e w' => e = .returned (.tuple #[.agg (arrC (encN P)), .bool false, .bool true]) ∧ Below w.heap.size w w' := by
  have hBl := hD0.1
  go_enter Tryd.func13, Tryd.ntmps13
  go_wp2_with (first
    | ((with_reducible refine at_dst 12 ?_); refine wpList_load_row rfl 22 _ rfl (w.heap.size) rfl 22 (arrC N) (0, 0) _ (heap_old _ (heap_new_at _ _ _ rfl)) under32 rfl (info32_of (arrC N) (arrC_size _)) ?_))
  refine (pointOf_some N P lN hN B _ (hD0.later (below_alloc (below_alloc (Below.refl _ w) _) _)) (hD1.later (below_alloc (below_alloc (Below.refl _ w) _) _)) (hD2.later (below_alloc (below_alloc (Below.refl _ w) _) _))).mono ?_
  rintro e w1 ⟨b1_1, x1_1_0, x1_1_1, x1_1_2, x1_1_3, rfl, hlb1_1, hC1, hq1_1, xhf1_1_0, xhf1_1_1, xhf1_1_2, xhf1_1_3⟩
  have hs1 : w.heap.size + 1 + 1 ≤ w1.heap.size := by have := hC1.size; (try simp only [alloc_size, setRow_size] at this); omega
  replace h2 : w1.heap[w.heap.size]? = some (.cells (arrC N) 22 (0, 0)) := (heap_call hC1 (heap_old _ (heap_new_at _ _ _ rfl)))
  replace h4 : w1.heap[w.heap.size + 1]? = some (.cells (zL) 22 (0, 0)) := (heap_call hC1 (heap_new_at _ _ _ (by simp only [alloc_size, setRow_size])))
  have hBw1 : Hid (Below w.heap.size w w1) := Lib.hid (below_call (below_alloc (below_alloc (Below.refl _ w) _) _) hC1)
  clear hC1
  have hlb1_1 : w.heap.size + 1 + 1 ≤ b1_1 := by (try simp only [alloc_size, setRow_size] at hlb1_1); omega
  have hub1_1 := xhf1_1_0.lt
  go_wp2_with fail
  refine (pt_setBytes_len (b1_1) (0) n cap _ hn _).mono ?_
  rintro e w2 ⟨u4_2, rfl, hC2⟩
  have hs2 : w1.heap.size ≤ w2.heap.size := by have := hC2.size; (try simp only [alloc_size, setRow_size] at this); omega
  replace h2 : w2.heap[w.heap.size]? = some (.cells (arrC N) 22 (0, 0)) := (heap_call hC2 h2)
  replace h4 : w2.heap[w.heap.size + 1]? = some (.cells (zL) 22 (0, 0)) := (heap_call hC2 h4)
  replace hf1_1_0 : Fe w2 (b1_1) (0) (x1_1_0.val) := (Fe.below_all xhf1_1_0 hC2)
  replace hf1_1_1 : Fe w2 (b1_1) (5) (x1_1_1.val) := (Fe.below_all xhf1_1_1 hC2)
  replace hf1_1_2 : Fe w2 (b1_1) (10) (x1_1_2.val) := (Fe.below_all xhf1_1_2 hC2)
  replace hf1_1_3 : Fe w2 (b1_1) (15) (x1_1_3.val) := (Fe.below_all xhf1_1_3 hC2)
  have hBw2 : Hid (Below w.heap.size w w2) := Lib.hid (below_call hBw1.out hC2)
  clear hC2
  go_wp2_with fail
  try simp only [Act.put]
  refine wp_named ?_
  intro w3 ew3
  have hs3 : w2.heap.size ≤ w3.heap.size := by rw [ew3]; (try simp only [alloc_size, setRow_size]); omega
  replace h2 : w3.heap[w.heap.size]? = some (.cells (arrC N) 22 (0, 0)) := by rw [ew3]; exact h2
  replace h4 : w3.heap[w.heap.size + 1]? = some (.cells (zL) 22 (0, 0)) := by rw [ew3]; exact h4
  replace hf1_1_0 : Fe w3 (b1_1) (0) (x1_1_0.val) := by rw [ew3]; exact hf1_1_0
  replace hf1_1_1 : Fe w3 (b1_1) (5) (x1_1_1.val) := by rw [ew3]; exact hf1_1_1
  replace hf1_1_2 : Fe w3 (b1_1) (10) (x1_1_2.val) := by rw [ew3]; exact hf1_1_2
  replace hf1_1_3 : Fe w3 (b1_1) (15) (x1_1_3.val) := by rw [ew3]; exact hf1_1_3
  have hBw3 : Hid (Below w.heap.size w w3) := Lib.hid (by rw [ew3]; exact hBw2.out)
  clear ew3
  refine wp_region_noPanic ?_
  refine wp_region_held_drew (S := Keep (w.heap.size + 1) w3) (by kernel_rfl) (Keep.start _ _) ?_
  intro hS
  obtain ⟨w4, ed⟩ : ∃ u : World, u = w3.drew := ⟨_, rfl⟩
  rw [← ed] at hS ⊢
  have xh2 : w4.heap[w.heap.size]? = some (.cells (arrC N) 22 (0, 0)) := by rw [ed]; exact h2
  have xh4 : w4.heap[w.heap.size + 1]? = some (.cells (zL) 22 (0, 0)) := by rw [ed]; exact h4
  have xhf1_1_0 : Fe w4 (b1_1) (0) (x1_1_0.val) := by rw [ed]; exact hf1_1_0
  have xhf1_1_1 : Fe w4 (b1_1) (5) (x1_1_1.val) := by rw [ed]; exact hf1_1_1
  have xhf1_1_2 : Fe w4 (b1_1) (10) (x1_1_2.val) := by rw [ed]; exact hf1_1_2
  have xhf1_1_3 : Fe w4 (b1_1) (15) (x1_1_3.val) := by rw [ed]; exact hf1_1_3
  clear ed
  have hSz := hS.size
  clear xh2
  refine takeAtK (i := 0) (v := .pointer (some ⟨b1_1, 0, none⟩)) rfl (some 25) rfl (take_run rfl (fun _ _ => by go_simp)) hS ?_
  simp only [Act.put, sia, sc0, scs]
  refine takeAtK (i := 2) (v := .iface 108 u4_2) rfl (some 27) rfl (take_run rfl (fun _ _ => by go_simp)) hS ?_
  simp only [Act.put, sia, sc0, scs]
  refine takeAtK (i := 3) (v := .bool false) rfl (some 28) rfl (take_run rfl (fun _ _ => by go_simp; try rfl)) hS ?_
  simp only [Act.put, sia, sc0, scs]
  refine wpAnyH_ready (rs := [1]) (by kernel_rfl) (by simp) ?_
  refine (AllReadyH.cons rfl ?_ AllReadyH.nil)
  intro K hK
  refine ready_call rfl (some 26) rfl 31 #[.pointer (some ⟨b1_1, 0, none⟩)] (by go_simp) ?_
  refine (pointBytes_to (b1_1) (0) x1_1_0 x1_1_1 x1_1_2 x1_1_3 P hq1_1 _ xhf1_1_0 xhf1_1_1 xhf1_1_2 xhf1_1_3).mono ?_
  rintro e w5 ⟨rfl, hC⟩
  refine ⟨_, rfl, ?_⟩
  simp only [Act.put, sia, sc0, scs]
  have xh4 : w5.heap[w.heap.size + 1]? = some (.cells (zL) 22 (0, 0)) := (heap_call hC xh4)
  have xhf1_1_0 : Fe w5 (b1_1) (0) (x1_1_0.val) := (Fe.below_all xhf1_1_0 hC)
  have xhf1_1_1 : Fe w5 (b1_1) (5) (x1_1_1.val) := (Fe.below_all xhf1_1_1 hC)
  have xhf1_1_2 : Fe w5 (b1_1) (10) (x1_1_2.val) := (Fe.below_all xhf1_1_2 hC)
  have xhf1_1_3 : Fe w5 (b1_1) (15) (x1_1_3.val) := (Fe.below_all xhf1_1_3 hC)
  have hS := hS.call hC
  have hz5 := hC.size
  clear hC
  refine hK.out _ _ hS ?_
  clear hK K
  intro _
  have hSz := hS.size
  refine wpAnyH_ready (rs := [4]) (by kernel_rfl) (by simp) ?_
  refine (AllReadyH.cons rfl ?_ AllReadyH.nil)
  intro K hK
  rw [if_pos (by rfl)]
  refine wp_store_row 22 _ _ rfl (w.heap.size + 1) (arrC (encN P)) rfl rfl 22 (zL) xh4 (info32_of (arrC (encN P)) (arrC_size _)) (zL_size.trans (arrC_size _).symm) (arrC_one _) ?_
  refine put_at (none) rfl ?_
  simp only [Act.put, sia, sc0, scs]
  have xh4 : (w5.setRow (w.heap.size + 1) (arrC (encN P))).heap[w.heap.size + 1]? = some (.cells (arrC (encN P)) 22 (0, 0)) := (setRow_heap _ _ _ _ _ _ xh4)
  have xhf1_1_0 : Fe (w5.setRow (w.heap.size + 1) (arrC (encN P))) (b1_1) (0) (x1_1_0.val) := (Fe.keep xhf1_1_0 (setRow_other _ _ _ _ (by omega)))
  have xhf1_1_1 : Fe (w5.setRow (w.heap.size + 1) (arrC (encN P))) (b1_1) (5) (x1_1_1.val) := (Fe.keep xhf1_1_1 (setRow_other _ _ _ _ (by omega)))
  have xhf1_1_2 : Fe (w5.setRow (w.heap.size + 1) (arrC (encN P))) (b1_1) (10) (x1_1_2.val) := (Fe.keep xhf1_1_2 (setRow_other _ _ _ _ (by omega)))
  have xhf1_1_3 : Fe (w5.setRow (w.heap.size + 1) (arrC (encN P))) (b1_1) (15) (x1_1_3.val) := (Fe.keep xhf1_1_3 (setRow_other _ _ _ _ (by omega)))
  have hS := hS.store (arrC (encN P))
  generalize w5.setRow (w.heap.size + 1) (arrC (encN P)) = w6 at *
  refine hK.out _ _ hS ?_
  clear hK K
  intro _
  have hSz := hS.size
  refine takeAtK (i := 5) (v := .bool false) rfl (some 5) rfl (take_run rfl (fun _ _ => by go_simp)) hS ?_
  simp only [Act.put, sia, sc0, scs]
  refine takeAtK (i := 6) (v := .bool true) rfl (some 6) rfl (take_run rfl (fun _ _ => by go_simp)) hS ?_
  simp only [Act.put, sia, sc0, scs]
  refine wpAnyH_done (by kernel_rfl) ?_ _
  refine NoPanic.normal ?_
  have hsz := hS.size
  have h2 : w6.heap[w.heap.size]? = some (.cells (arrC N) 22 (0, 0)) := hS.old h2 (by omega)
  have h4 := xh4
  have hf1_1_0 := xhf1_1_0
  have hf1_1_1 := xhf1_1_1
  have hf1_1_2 := xhf1_1_2
  have hf1_1_3 := xhf1_1_3
  have hBw6 : Hid (Below w.heap.size w w6) := Lib.hid (hBw3.out.trans (hS.below (by omega) hBw3.out.size))
  clear hS
  go_wp2
  refine bodyPost_ret (results_row_tmp2 rfl _ _ (w.heap.size + 1) 22 (arrC (encN P)) (0, 0) _ rfl h4 under32 rfl (info32_of (arrC (encN P)) (arrC_size _))) rfl ⟨rfl, hBw6.out⟩
set_option maxHeartbeats 4000000 in
theorem iSet_none_any (N n cap : Nat) (sl : Option Addr) (lN : N < 256 ^ 32) (hN : Hid (decP N = none)) (B : Nat) (w : World) (hD0 : Var 1 z5 B w) (hD1 : Var 0 i5 B w) (hD2 : Var 2 o5 B w) :
    Calls Tryd.prog 13 #[.agg (arrC N), .slice sl n cap] w fun e w' => e = .returned (.tuple #[.agg zL, .bool false, .bool false]) ∧ Below w.heap.size w w' := by
  have hBl := hD0.1
  go_enter Tryd.func13, Tryd.ntmps13
  go_wp2_with (first
    | ((with_reducible refine at_dst 12 ?_); refine wpList_load_row rfl 22 _ rfl (w.heap.size) rfl 22 (arrC N) (0, 0) _ (heap_old _ (heap_new_at _ _ _ rfl)) under32 rfl (info32_of (arrC N) (arrC_size _)) ?_))
  refine (pointOf_none N hN B _ (hD0.later (below_alloc (below_alloc (Below.refl _ w) _) _)) (hD1.later (below_alloc (below_alloc (Below.refl _ w) _) _)) (hD2.later (below_alloc (below_alloc (Below.refl _ w) _) _))).mono ?_
  rintro e w1 ⟨rfl, hC1⟩
  have hs1 : w.heap.size + 1 + 1 ≤ w1.heap.size := by have := hC1.size; (try simp only [alloc_size, setRow_size] at this); omega
  replace h2 : w1.heap[w.heap.size]? = some (.cells (arrC N) 22 (0, 0)) := (heap_call hC1 (heap_old _ (heap_new_at _ _ _ rfl)))
  replace h4 : w1.heap[w.heap.size + 1]? = some (.cells (zL) 22 (0, 0)) := (heap_call hC1 (heap_new_at _ _ _ (by simp only [alloc_size, setRow_size])))
  have hBw1 : Hid (Below w.heap.size w w1) := Lib.hid (below_call (below_alloc (below_alloc (Below.refl _ w) _) _) hC1)
  clear hC1
  go_wp2_with (first
    | ((with_reducible refine at_store 4 ?_); refine wpList_store_row rfl 22 _ _ rfl (w.heap.size + 1) (zL) rfl rfl 22 (zL) h4 (info32_of (zL) zL_size) (zL_size.trans zL_size.symm) zL_one ?_))
  refine bodyPost_ret (results_row_tmp2 rfl _ _ (w.heap.size + 1) 22 (zL) (0, 0) _ rfl (setRow_heap _ _ _ _ _ _ h4) under32 rfl (info32_of (zL) zL_size)) rfl ⟨rfl, (below_setRow hBw1.out (by omega) _)⟩
end

section
open Go.RowKit
/-- a byte slice of length n, filled up with 0 to 32 bytes or cut to 32, is the number M -/
structure Src (w : World) (sl : Option Addr) (n M : Nat) : Prop where
  lt : M < 256 ^ 32
  cells : 0 < n → ∃ b o, sl = some ⟨b, o, none⟩ ∧ b < w.heap.size ∧ ∀ j, j < n → j < 32 → w.cell? ⟨b, o + j, none⟩ = some (byV M j)
  rest : ∀ j, n ≤ j → j < 32 → byteN M j = 0
theorem Src.later {w w' : World} {sl : Option Addr} {n M : Nat} (h : Src w sl n M) (hB : Below w.heap.size w w') : Src w' sl n M :=
  ⟨h.lt, fun hn => by
    obtain ⟨b, o, e, hb, hc⟩ := h.cells hn
    exact ⟨b, o, e, Nat.lt_of_lt_of_le hb hB.size, fun j h1 h2 => (hB.cell (p := ⟨b, o + j, none⟩) hb).trans (hc j h1 h2)⟩, h.rest⟩
theorem wpList_copy_src {ops : Array Oper} {rest : List Oper} {o : Oper} {a : Act} {w : World} {Q : Exit → Act → World → Prop} (hgd : o.guard = none) (d : Option Tmp) (hdst : o.dst = d) (x y : Operand)
    (ho : o.op = .call { callee := .builtin .copy, args := #[x, y], argTypes := #[26, 26] })
    (g dCap n cap M : Nat) (sl : Option Addr) (hd : a.eval x = .slice (some ⟨g, 0, none⟩) 32 dCap) (hs : a.eval y = .slice sl n cap) (t : TypeId) (hg : w.heap[g]? = some (.cells zL t (0, 0)))
    (hsrc : Src w sl n M) (h : wpList Tryd.prog ops Q rest (a.put d (goInt (Nat.min n 32))) (w.setRow g (arrC M))) : wpList Tryd.prog ops Q (o :: rest) a w := by
  subst hdst
  refine wpList_plain hgd fun K hK => ?_
  have hall : ∀ j, j < 32 → ((List.range (Nat.min n 32)).map (byV M) ++ zL.toList.drop (Nat.min n 32))[j]? = some (byV M j) := by
    intro j hj
    by_cases hn : j < Nat.min n 32
    · rw [List.getElem?_append_left (by simpa using hn)]; simp [hn]
    · have hmin : Nat.min n 32 ≤ j := by omega
      have hnj : n ≤ j := by
        have : Nat.min n 32 = n ∨ Nat.min n 32 = 32 := by rcases Nat.le_total n 32 with h | h; exact Or.inl (Nat.min_eq_left h); exact Or.inr (Nat.min_eq_right h)
        omega
      rw [List.getElem?_append_right (by simpa using hmin)]
      simp only [List.length_map, List.length_range, List.getElem?_drop]
      rw [show Nat.min n 32 + (j - Nat.min n 32) = j by omega]
      have hz : zL.toList[j]? = some (byV 0 j) := by
        have := arr_get 0 j hj
        rw [← zL_arr] at this
        simpa using this
      rw [hz]
      unfold byV
      rw [hsrc.rest j hnj hj]
      simp [byteN]
  have hlen : ((List.range (Nat.min n 32)).map (byV M)).length = Nat.min n 32 := by simp
  have e2 : (zL.toList.take 0 ++ (List.range (Nat.min n 32)).map (byV M) ++ zL.toList.drop (0 + ((List.range (Nat.min n 32)).map (byV M)).length)).toArray = arrC M := by
    rw [hlen, Nat.zero_add, List.take_zero, List.nil_append]
    refine arr_ext M _ ?_ fun i hi => ?_
    · have : zL.toList.length = 32 := by simpa using zL_size
      have h32 : Nat.min n 32 ≤ 32 := Nat.min_le_right _ _
      simp [this]; omega
    · simpa using hall i hi
  by_cases h0 : n = 0
  · have hrun := run_copy_none (P := Tryd.prog) w 26 26 o.type 5 (some ⟨g, 0, none⟩) sl 32 dCap n cap underBs info8 (by subst h0; rfl)
    have hsame : w.setRow g (arrC M) = w := by
      have e3 : arrC M = zL := by
        rw [← e2]; subst h0; simp
      rw [e3]
      exact setRow_self w g zL t (0, 0) hg
    unfold Oper.wp
    simp only [execOp, ho, resolve, invoke, builtin]
    simp [hd, hs, hrun, Result.andThen]
    subst h0
    rw [hsame] at h
    exact hK _ _ h
  · obtain ⟨b, so, rfl, hb, hc⟩ := hsrc.cells (by omega)
    have hrun := run_copy_row (P := Tryd.prog) w 26 26 o.type 5 g 0 32 dCap ⟨b, so, none⟩ n cap zL t ((List.range (Nat.min n 32)).map (byV M)) underBs info8 hg (by simp)
      (by
        intro j v hv
        have hj : j < Nat.min n 32 := by
          have := (List.getElem?_eq_some_iff.1 hv).1
          simpa using this
        have h1 : Nat.min n 32 ≤ n := Nat.min_le_left _ _
        have h2 : Nat.min n 32 ≤ 32 := Nat.min_le_right _ _
        have e : v = byV M j := by
          have : ((List.range (Nat.min n 32)).map (byV M))[j]? = some (byV M j) := by simp [hj]
          rw [this] at hv
          exact (Option.some.inj hv).symm
        rw [e, Addr.add_mid]
        exact hc j (by omega) (by omega))
      (by rw [hlen, zL_size]; have h : Nat.min n 32 ≤ 32 := Nat.min_le_right n 32; omega)
      (by
        intro v hv
        obtain ⟨i, _, rfl⟩ := List.mem_map.1 hv
        rfl)
    rw [e2, hlen] at hrun
    unfold Oper.wp
    simp only [execOp, ho, resolve, invoke, builtin]
    simp [hd, hs, hrun, Result.andThen]
    exact hK _ _ h
set_option maxHeartbeats 4000000 in
theorem sSet_b (N n cap : Nat) (sl : Option Addr) (lN : N < 256 ^ 32) (hN : Hid (decP N = none)) (w : World) :
    Calls Tryd.prog 14 #[.agg (arrC N), .slice sl n cap] w fun e w' => e = .returned (.tuple #[.agg zL, .bool false, .bool false]) ∧ Below w.heap.size w w' := by
  go_enter Tryd.func14, Tryd.ntmps14
  go_wp2_with (first
    | ((with_reducible refine at_dst 13 ?_); refine wpList_load_row rfl 22 _ rfl (w.heap.size) rfl 22 (arrC N) (0, 0) _ (heap_old _ (heap_new_at _ _ _ rfl)) under32 rfl (info32_of (arrC N) (arrC_size _)) ?_))
  refine (sdecoded_none N lN hN.out _).mono ?_
  rintro e w1 ⟨rfl, hC1⟩
  have hs1 : w.heap.size + 1 + 1 ≤ w1.heap.size := by have := hC1.size; (try simp only [alloc_size, setRow_size] at this); omega
  replace h2 : w1.heap[w.heap.size]? = some (.cells (arrC N) 22 (0, 0)) := (heap_call hC1 (heap_old _ (heap_new_at _ _ _ rfl)))
  replace h4 : w1.heap[w.heap.size + 1]? = some (.cells (zL) 22 (0, 0)) := (heap_call hC1 (heap_new_at _ _ _ (by simp only [alloc_size, setRow_size])))
  have hBw1 : Hid (Below w.heap.size w w1) := Lib.hid (below_call (below_alloc (below_alloc (Below.refl _ w) _) _) hC1)
  clear hC1
  go_wp2_with (first
    | ((with_reducible refine at_store 7 ?_); refine wpList_store_row rfl 45 _ _ rfl (w1.heap.size) (z12) rfl rfl 45 (z12) (heap_new_at _ _ _ rfl) (infoPt_of (z12) z12_size) (z12_size.trans z12_size.symm) z12_one ?_)
    | ((with_reducible refine at_store 4 ?_); refine wpList_store_row rfl 22 _ _ rfl (w.heap.size + 1) (zL) rfl rfl 22 (zL) (heap_row _ (by omega) (heap_old _ h4)) (info32_of (zL) zL_size) (zL_size.trans zL_size.symm) zL_one ?_))
  refine bodyPost_ret (results_row_tmp2 rfl _ _ (w.heap.size + 1) 22 (zL) (0, 0) _ rfl (setRow_heap _ _ _ _ _ _ (heap_row _ (by omega) (heap_old _ h4))) under32 rfl (info32_of (zL) zL_size)) rfl ⟨rfl, (below_setRow (below_setRow (below_alloc hBw1.out _) (by omega) _) (by omega) _)⟩
set_option maxHeartbeats 4000000 in
theorem sSet_ls (N M n cap : Nat) (sl : Option Addr) (P Q : CP) (lN : N < 256 ^ 32) (hN : Hid (decP N = some P)) (lM : M < 256 ^ 32) (hM : Hid (decP M = some Q)) (hn : ¬ (n : Int) = 32) (w : World) (hsrc : Src w sl n M) :
    Calls Tryd.prog 14 #[.agg (arrC N), .slice sl n cap] w fun e w' => e = .returned (.tuple #[.agg (arrC (encN P)), .bool false, .bool true]) ∧ Below w.heap.size w w' := by
  go_enter Tryd.func14, Tryd.ntmps14
  go_wp2_with (first
    | ((with_reducible refine at_dst 13 ?_); refine wpList_load_row rfl 22 _ rfl (w.heap.size) rfl 22 (arrC N) (0, 0) _ (heap_old _ (heap_new_at _ _ _ rfl)) under32 rfl (info32_of (arrC N) (arrC_size _)) ?_))
  refine (sdecoded_some N P lN hN.out _).mono ?_
  rintro e w1 ⟨rfl, hC1⟩
  have hs1 : w.heap.size + 1 + 1 ≤ w1.heap.size := by have := hC1.size; (try simp only [alloc_size, setRow_size] at this); omega
  replace h2 : w1.heap[w.heap.size]? = some (.cells (arrC N) 22 (0, 0)) := (heap_call hC1 (heap_old _ (heap_new_at _ _ _ rfl)))
  replace h4 : w1.heap[w.heap.size + 1]? = some (.cells (zL) 22 (0, 0)) := (heap_call hC1 (heap_new_at _ _ _ (by simp only [alloc_size, setRow_size])))
  have hBw1 : Hid (Below w.heap.size w w1) := Lib.hid (below_call (below_alloc (below_alloc (Below.refl _ w) _) _) hC1)
  clear hC1
  go_upto_region 5 with (first
    | ((with_reducible refine at_store 7 ?_); refine wpList_store_row rfl 45 _ _ rfl (w1.heap.size) (ptC (P.x.val) (P.y.val) ((1 : Fp).val)) rfl rfl 45 (z12) (heap_new_at _ _ _ rfl) (infoPt_of (ptC (P.x.val) (P.y.val) ((1 : Fp).val)) (ptC_size _ _ _)) (z12_size.trans (ptC_size _ _ _).symm) (ptC_one _ _ _) ?_)
    | ((with_reducible refine at_store 9 ?_); refine wpList_store_row rfl 22 _ _ rfl (w1.heap.size + 1) (zL) rfl rfl 22 (zL) (heap_new_at _ _ _ (by simp only [alloc_size, setRow_size])) (info32_of (zL) zL_size) (zL_size.trans zL_size.symm) zL_one ?_))
  try simp only [Act.put]
  refine wp_named ?_
  intro w2 ew2
  have hs2 : w1.heap.size + 1 + 1 ≤ w2.heap.size := by rw [ew2]; (try simp only [alloc_size, setRow_size]); omega
  replace h2 : w2.heap[w.heap.size]? = some (.cells (arrC N) 22 (0, 0)) := by rw [ew2]; exact (heap_row _ (by omega) (heap_old _ (heap_row _ (by omega) (heap_old _ h2))))
  replace h4 : w2.heap[w.heap.size + 1]? = some (.cells (zL) 22 (0, 0)) := by rw [ew2]; exact (heap_row _ (by omega) (heap_old _ (heap_row _ (by omega) (heap_old _ h4))))
  replace h7 : w2.heap[w1.heap.size]? = some (.cells (ptC (P.x.val) (P.y.val) ((1 : Fp).val)) 45 (0, 0)) := by rw [ew2]; exact (heap_row _ (by omega) (heap_old _ (setRow_heap _ _ _ _ _ _ (heap_new_at _ _ _ rfl))))
  replace h9 : w2.heap[w1.heap.size + 1]? = some (.cells (zL) 22 (0, 0)) := by rw [ew2]; exact (setRow_heap _ _ _ _ _ _ (heap_new_at _ _ _ (by simp only [alloc_size, setRow_size])))
  have hBw2 : Hid (Below w.heap.size w w2) := Lib.hid (by rw [ew2]; exact (below_setRow (below_alloc (below_setRow (below_alloc hBw1.out _) (by omega) _) _) (by omega) _))
  clear ew2
  go_wp2_with (first
    | (((with_reducible refine at_dst 23 ?_); go_loud (refine wpList_copy_src rfl (some 23) rfl _ _ rfl (w1.heap.size + 1) 32 n cap M sl rfl rfl 22 h9 (hsrc.later hBw2.out) ?_)))
    | ((with_reducible refine at_dst 25 ?_); refine wpList_load_row rfl 22 _ rfl (w1.heap.size + 1) rfl 22 (arrC M) (0, 0) _ (setRow_heap _ _ _ _ _ _ h9) under32 rfl (info32_of (arrC M) (arrC_size _)) ?_))
  refine (sdecoded_some M Q lM hM.out _).mono ?_
  rintro e w3 ⟨rfl, hC3⟩
  have hs3 : w2.heap.size ≤ w3.heap.size := by have := hC3.size; (try simp only [alloc_size, setRow_size] at this); omega
  replace h2 : w3.heap[w.heap.size]? = some (.cells (arrC N) 22 (0, 0)) := (heap_call hC3 (heap_row _ (by omega) h2))
  replace h4 : w3.heap[w.heap.size + 1]? = some (.cells (zL) 22 (0, 0)) := (heap_call hC3 (heap_row _ (by omega) h4))
  replace h7 : w3.heap[w1.heap.size]? = some (.cells (ptC (P.x.val) (P.y.val) ((1 : Fp).val)) 45 (0, 0)) := (heap_call hC3 (heap_row _ (by omega) h7))
  replace h9 : w3.heap[w1.heap.size + 1]? = some (.cells (arrC M) 22 (0, 0)) := (heap_call hC3 (setRow_heap _ _ _ _ _ _ h9))
  have hBw3 : Hid (Below w.heap.size w w3) := Lib.hid (below_call (below_setRow hBw2.out (by omega) _) hC3)
  clear hC3
  go_wp2_with (first
    | ((with_reducible refine at_store 10 ?_); refine wpList_store_row rfl 45 _ _ rfl (w3.heap.size) (ptC (Q.x.val) (Q.y.val) ((1 : Fp).val)) rfl rfl 45 (z12) (heap_new_at _ _ _ rfl) (infoPt_of (ptC (Q.x.val) (Q.y.val) ((1 : Fp).val)) (ptC_size _ _ _)) (z12_size.trans (ptC_size _ _ _).symm) (ptC_one _ _ _) ?_)
    | ((with_reducible refine at_dst 36 ?_); refine wpList_load_row rfl 45 _ rfl (w1.heap.size) rfl 45 (ptC (P.x.val) (P.y.val) ((1 : Fp).val)) (0, 0) _ (heap_row _ (by omega) (heap_old _ h7)) underPt rfl (infoPt_of (ptC (P.x.val) (P.y.val) ((1 : Fp).val)) (ptC_size _ _ _)) ?_))
  refine (sencoded P _ _ _ (Rp.one P) _).mono ?_
  rintro e w4 ⟨rfl, hC4⟩
  have hs4 : w3.heap.size + 1 ≤ w4.heap.size := by have := hC4.size; (try simp only [alloc_size, setRow_size] at this); omega
  replace h2 : w4.heap[w.heap.size]? = some (.cells (arrC N) 22 (0, 0)) := (heap_call hC4 (heap_row _ (by omega) (heap_old _ h2)))
  replace h4 : w4.heap[w.heap.size + 1]? = some (.cells (zL) 22 (0, 0)) := (heap_call hC4 (heap_row _ (by omega) (heap_old _ h4)))
  replace h7 : w4.heap[w1.heap.size]? = some (.cells (ptC (P.x.val) (P.y.val) ((1 : Fp).val)) 45 (0, 0)) := (heap_call hC4 (heap_row _ (by omega) (heap_old _ h7)))
  replace h9 : w4.heap[w1.heap.size + 1]? = some (.cells (arrC M) 22 (0, 0)) := (heap_call hC4 (heap_row _ (by omega) (heap_old _ h9)))
  replace h10 : w4.heap[w3.heap.size]? = some (.cells (ptC (Q.x.val) (Q.y.val) ((1 : Fp).val)) 45 (0, 0)) := (heap_call hC4 (setRow_heap _ _ _ _ _ _ (heap_new_at _ _ _ rfl)))
  have hBw4 : Hid (Below w.heap.size w w4) := Lib.hid (below_call (below_setRow (below_alloc hBw3.out _) (by omega) _) hC4)
  clear hC4
  go_wp2_with (first
    | ((with_reducible refine at_store 4 ?_); refine wpList_store_row rfl 22 _ _ rfl (w.heap.size + 1) (arrC (encN P)) rfl rfl 22 (zL) h4 (info32_of (arrC (encN P)) (arrC_size _)) (zL_size.trans (arrC_size _).symm) (arrC_one _) ?_))
  refine bodyPost_ret (results_row_tmp2 rfl _ _ (w.heap.size + 1) 22 (arrC (encN P)) (0, 0) _ rfl (setRow_heap _ _ _ _ _ _ h4) under32 rfl (info32_of (arrC (encN P)) (arrC_size _))) rfl ⟨rfl, (below_setRow hBw4.out (by omega) _)⟩
set_option maxHeartbeats 4000000 in
theorem sSet_ln (N M n cap : Nat) (sl : Option Addr) (P : CP) (lN : N < 256 ^ 32) (hN : Hid (decP N = some P)) (lM : M < 256 ^ 32) (hM : Hid (decP M = none)) (hn : ¬ (n : Int) = 32) (w : World) (hsrc : Src w sl n M) :
    Calls Tryd.prog 14 #[.agg (arrC N), .slice sl n cap] w fun e w' => e = .returned (.tuple #[.agg (arrC (encN P)), .bool false, .bool true]) ∧ Below w.heap.size w w' := by
  go_enter Tryd.func14, Tryd.ntmps14
  go_wp2_with (first
    | ((with_reducible refine at_dst 13 ?_); refine wpList_load_row rfl 22 _ rfl (w.heap.size) rfl 22 (arrC N) (0, 0) _ (heap_old _ (heap_new_at _ _ _ rfl)) under32 rfl (info32_of (arrC N) (arrC_size _)) ?_))
  refine (sdecoded_some N P lN hN.out _).mono ?_
  rintro e w1 ⟨rfl, hC1⟩
  have hs1 : w.heap.size + 1 + 1 ≤ w1.heap.size := by have := hC1.size; (try simp only [alloc_size, setRow_size] at this); omega
  replace h2 : w1.heap[w.heap.size]? = some (.cells (arrC N) 22 (0, 0)) := (heap_call hC1 (heap_old _ (heap_new_at _ _ _ rfl)))
  replace h4 : w1.heap[w.heap.size + 1]? = some (.cells (zL) 22 (0, 0)) := (heap_call hC1 (heap_new_at _ _ _ (by simp only [alloc_size, setRow_size])))
  have hBw1 : Hid (Below w.heap.size w w1) := Lib.hid (below_call (below_alloc (below_alloc (Below.refl _ w) _) _) hC1)
  clear hC1
  go_upto_region 5 with (first
    | ((with_reducible refine at_store 7 ?_); refine wpList_store_row rfl 45 _ _ rfl (w1.heap.size) (ptC (P.x.val) (P.y.val) ((1 : Fp).val)) rfl rfl 45 (z12) (heap_new_at _ _ _ rfl) (infoPt_of (ptC (P.x.val) (P.y.val) ((1 : Fp).val)) (ptC_size _ _ _)) (z12_size.trans (ptC_size _ _ _).symm) (ptC_one _ _ _) ?_)
    | ((with_reducible refine at_store 9 ?_); refine wpList_store_row rfl 22 _ _ rfl (w1.heap.size + 1) (zL) rfl rfl 22 (zL) (heap_new_at _ _ _ (by simp only [alloc_size, setRow_size])) (info32_of (zL) zL_size) (zL_size.trans zL_size.symm) zL_one ?_))
  try simp only [Act.put]
  refine wp_named ?_
  intro w2 ew2
  have hs2 : w1.heap.size + 1 + 1 ≤ w2.heap.size := by rw [ew2]; (try simp only [alloc_size, setRow_size]); omega
  replace h2 : w2.heap[w.heap.size]? = some (.cells (arrC N) 22 (0, 0)) := by rw [ew2]; exact (heap_row _ (by omega) (heap_old _ (heap_row _ (by omega) (heap_old _ h2))))
  replace h4 : w2.heap[w.heap.size + 1]? = some (.cells (zL) 22 (0, 0)) := by rw [ew2]; exact (heap_row _ (by omega) (heap_old _ (heap_row _ (by omega) (heap_old _ h4))))
  replace h7 : w2.heap[w1.heap.size]? = some (.cells (ptC (P.x.val) (P.y.val) ((1 : Fp).val)) 45 (0, 0)) := by rw [ew2]; exact (heap_row _ (by omega) (heap_old _ (setRow_heap _ _ _ _ _ _ (heap_new_at _ _ _ rfl))))
  replace h9 : w2.heap[w1.heap.size + 1]? = some (.cells (zL) 22 (0, 0)) := by rw [ew2]; exact (setRow_heap _ _ _ _ _ _ (heap_new_at _ _ _ (by simp only [alloc_size, setRow_size])))
  have hBw2 : Hid (Below w.heap.size w w2) := Lib.hid (by rw [ew2]; exact (below_setRow (below_alloc (below_setRow (below_alloc hBw1.out _) (by omega) _) _) (by omega) _))
  clear ew2
  go_wp2_with (first
    | (((with_reducible refine at_dst 23 ?_); go_loud (refine wpList_copy_src rfl (some 23) rfl _ _ rfl (w1.heap.size + 1) 32 n cap M sl rfl rfl 22 h9 (hsrc.later hBw2.out) ?_)))
    | ((with_reducible refine at_dst 25 ?_); refine wpList_load_row rfl 22 _ rfl (w1.heap.size + 1) rfl 22 (arrC M) (0, 0) _ (setRow_heap _ _ _ _ _ _ h9) under32 rfl (info32_of (arrC M) (arrC_size _)) ?_))
  refine (sdecoded_none M lM hM.out _).mono ?_
  rintro e w3 ⟨rfl, hC3⟩
  have hs3 : w2.heap.size ≤ w3.heap.size := by have := hC3.size; (try simp only [alloc_size, setRow_size] at this); omega
  replace h2 : w3.heap[w.heap.size]? = some (.cells (arrC N) 22 (0, 0)) := (heap_call hC3 (heap_row _ (by omega) h2))
  replace h4 : w3.heap[w.heap.size + 1]? = some (.cells (zL) 22 (0, 0)) := (heap_call hC3 (heap_row _ (by omega) h4))
  replace h7 : w3.heap[w1.heap.size]? = some (.cells (ptC (P.x.val) (P.y.val) ((1 : Fp).val)) 45 (0, 0)) := (heap_call hC3 (heap_row _ (by omega) h7))
  replace h9 : w3.heap[w1.heap.size + 1]? = some (.cells (arrC M) 22 (0, 0)) := (heap_call hC3 (setRow_heap _ _ _ _ _ _ h9))
  have hBw3 : Hid (Below w.heap.size w w3) := Lib.hid (below_call (below_setRow hBw2.out (by omega) _) hC3)
  clear hC3
  go_wp2_with (first
    | ((with_reducible refine at_store 10 ?_); refine wpList_store_row rfl 45 _ _ rfl (w3.heap.size) (z12) rfl rfl 45 (z12) (heap_new_at _ _ _ rfl) (infoPt_of (z12) z12_size) (z12_size.trans z12_size.symm) z12_one ?_)
    | ((with_reducible refine at_dst 36 ?_); refine wpList_load_row rfl 45 _ rfl (w1.heap.size) rfl 45 (ptC (P.x.val) (P.y.val) ((1 : Fp).val)) (0, 0) _ (heap_row _ (by omega) (heap_old _ h7)) underPt rfl (infoPt_of (ptC (P.x.val) (P.y.val) ((1 : Fp).val)) (ptC_size _ _ _)) ?_))
  refine (sencoded P _ _ _ (Rp.one P) _).mono ?_
  rintro e w4 ⟨rfl, hC4⟩
  have hs4 : w3.heap.size + 1 ≤ w4.heap.size := by have := hC4.size; (try simp only [alloc_size, setRow_size] at this); omega
  replace h2 : w4.heap[w.heap.size]? = some (.cells (arrC N) 22 (0, 0)) := (heap_call hC4 (heap_row _ (by omega) (heap_old _ h2)))
  replace h4 : w4.heap[w.heap.size + 1]? = some (.cells (zL) 22 (0, 0)) := (heap_call hC4 (heap_row _ (by omega) (heap_old _ h4)))
  replace h7 : w4.heap[w1.heap.size]? = some (.cells (ptC (P.x.val) (P.y.val) ((1 : Fp).val)) 45 (0, 0)) := (heap_call hC4 (heap_row _ (by omega) (heap_old _ h7)))
  replace h9 : w4.heap[w1.heap.size + 1]? = some (.cells (arrC M) 22 (0, 0)) := (heap_call hC4 (heap_row _ (by omega) (heap_old _ h9)))
  replace h10 : w4.heap[w3.heap.size]? = some (.cells (z12) 45 (0, 0)) := (heap_call hC4 (setRow_heap _ _ _ _ _ _ (heap_new_at _ _ _ rfl)))
  have hBw4 : Hid (Below w.heap.size w w4) := Lib.hid (below_call (below_setRow (below_alloc hBw3.out _) (by omega) _) hC4)
  clear hC4
  go_wp2_with (first
    | ((with_reducible refine at_store 4 ?_); refine wpList_store_row rfl 22 _ _ rfl (w.heap.size + 1) (arrC (encN P)) rfl rfl 22 (zL) h4 (info32_of (arrC (encN P)) (arrC_size _)) (zL_size.trans (arrC_size _).symm) (arrC_one _) ?_))
  refine bodyPost_ret (results_row_tmp2 rfl _ _ (w.heap.size + 1) 22 (arrC (encN P)) (0, 0) _ rfl (setRow_heap _ _ _ _ _ _ h4) under32 rfl (info32_of (arrC (encN P)) (arrC_size _))) rfl ⟨rfl, (below_setRow hBw4.out (by omega) _)⟩
set_option maxHeartbeats 4000000 in
theorem sSet_n (N M cap : Nat) (sl : Option Addr) (P : CP) (lN : N < 256 ^ 32) (hN : Hid (decP N = some P)) (lM : M < 256 ^ 32) (hM : Hid (decP M = none)) (w : World) (hsrc : Src w sl 32 M) :
    Calls Tryd.prog 14 #[.agg (arrC N), .slice sl 32 cap] w fun e w' => e = .returned (.tuple #[.agg (arrC (encN P)), .bool false, .bool true]) ∧ Below w.heap.size w w' := by
  go_enter Tryd.func14, Tryd.ntmps14
  go_wp2_with (first
    | ((with_reducible refine at_dst 13 ?_); refine wpList_load_row rfl 22 _ rfl (w.heap.size) rfl 22 (arrC N) (0, 0) _ (heap_old _ (heap_new_at _ _ _ rfl)) under32 rfl (info32_of (arrC N) (arrC_size _)) ?_))
  refine (sdecoded_some N P lN hN.out _).mono ?_
  rintro e w1 ⟨rfl, hC1⟩
  have hs1 : w.heap.size + 1 + 1 ≤ w1.heap.size := by have := hC1.size; (try simp only [alloc_size, setRow_size] at this); omega
  replace h2 : w1.heap[w.heap.size]? = some (.cells (arrC N) 22 (0, 0)) := (heap_call hC1 (heap_old _ (heap_new_at _ _ _ rfl)))
  replace h4 : w1.heap[w.heap.size + 1]? = some (.cells (zL) 22 (0, 0)) := (heap_call hC1 (heap_new_at _ _ _ (by simp only [alloc_size, setRow_size])))
  have hBw1 : Hid (Below w.heap.size w w1) := Lib.hid (below_call (below_alloc (below_alloc (Below.refl _ w) _) _) hC1)
  clear hC1
  go_upto_region 5 with (first
    | ((with_reducible refine at_store 7 ?_); refine wpList_store_row rfl 45 _ _ rfl (w1.heap.size) (ptC (P.x.val) (P.y.val) ((1 : Fp).val)) rfl rfl 45 (z12) (heap_new_at _ _ _ rfl) (infoPt_of (ptC (P.x.val) (P.y.val) ((1 : Fp).val)) (ptC_size _ _ _)) (z12_size.trans (ptC_size _ _ _).symm) (ptC_one _ _ _) ?_)
    | ((with_reducible refine at_store 9 ?_); refine wpList_store_row rfl 22 _ _ rfl (w1.heap.size + 1) (zL) rfl rfl 22 (zL) (heap_new_at _ _ _ (by simp only [alloc_size, setRow_size])) (info32_of (zL) zL_size) (zL_size.trans zL_size.symm) zL_one ?_))
  try simp only [Act.put]
  refine wp_named ?_
  intro w2 ew2
  have hs2 : w1.heap.size + 1 + 1 ≤ w2.heap.size := by rw [ew2]; (try simp only [alloc_size, setRow_size]); omega
  replace h2 : w2.heap[w.heap.size]? = some (.cells (arrC N) 22 (0, 0)) := by rw [ew2]; exact (heap_row _ (by omega) (heap_old _ (heap_row _ (by omega) (heap_old _ h2))))
  replace h4 : w2.heap[w.heap.size + 1]? = some (.cells (zL) 22 (0, 0)) := by rw [ew2]; exact (heap_row _ (by omega) (heap_old _ (heap_row _ (by omega) (heap_old _ h4))))
  replace h7 : w2.heap[w1.heap.size]? = some (.cells (ptC (P.x.val) (P.y.val) ((1 : Fp).val)) 45 (0, 0)) := by rw [ew2]; exact (heap_row _ (by omega) (heap_old _ (setRow_heap _ _ _ _ _ _ (heap_new_at _ _ _ rfl))))
  replace h9 : w2.heap[w1.heap.size + 1]? = some (.cells (zL) 22 (0, 0)) := by rw [ew2]; exact (setRow_heap _ _ _ _ _ _ (heap_new_at _ _ _ (by simp only [alloc_size, setRow_size])))
  have hBw2 : Hid (Below w.heap.size w w2) := Lib.hid (by rw [ew2]; exact (below_setRow (below_alloc (below_setRow (below_alloc hBw1.out _) (by omega) _) _) (by omega) _))
  clear ew2
  go_wp2_with (first
    | (((with_reducible refine at_dst 23 ?_); go_loud (refine wpList_copy_src rfl (some 23) rfl _ _ rfl (w1.heap.size + 1) 32 32 cap M sl rfl rfl 22 h9 (hsrc.later hBw2.out) ?_)))
    | ((with_reducible refine at_dst 25 ?_); refine wpList_load_row rfl 22 _ rfl (w1.heap.size + 1) rfl 22 (arrC M) (0, 0) _ (setRow_heap _ _ _ _ _ _ h9) under32 rfl (info32_of (arrC M) (arrC_size _)) ?_))
  refine (sdecoded_none M lM hM.out _).mono ?_
  rintro e w3 ⟨rfl, hC3⟩
  have hs3 : w2.heap.size ≤ w3.heap.size := by have := hC3.size; (try simp only [alloc_size, setRow_size] at this); omega
  replace h2 : w3.heap[w.heap.size]? = some (.cells (arrC N) 22 (0, 0)) := (heap_call hC3 (heap_row _ (by omega) h2))
  replace h4 : w3.heap[w.heap.size + 1]? = some (.cells (zL) 22 (0, 0)) := (heap_call hC3 (heap_row _ (by omega) h4))
  replace h7 : w3.heap[w1.heap.size]? = some (.cells (ptC (P.x.val) (P.y.val) ((1 : Fp).val)) 45 (0, 0)) := (heap_call hC3 (heap_row _ (by omega) h7))
  replace h9 : w3.heap[w1.heap.size + 1]? = some (.cells (arrC M) 22 (0, 0)) := (heap_call hC3 (setRow_heap _ _ _ _ _ _ h9))
  have hBw3 : Hid (Below w.heap.size w w3) := Lib.hid (below_call (below_setRow hBw2.out (by omega) _) hC3)
  clear hC3
  go_wp2_with (first
    | ((with_reducible refine at_store 10 ?_); refine wpList_store_row rfl 45 _ _ rfl (w3.heap.size) (z12) rfl rfl 45 (z12) (heap_new_at _ _ _ rfl) (infoPt_of (z12) z12_size) (z12_size.trans z12_size.symm) z12_one ?_)
    | ((with_reducible refine at_dst 36 ?_); refine wpList_load_row rfl 45 _ rfl (w1.heap.size) rfl 45 (ptC (P.x.val) (P.y.val) ((1 : Fp).val)) (0, 0) _ (heap_row _ (by omega) (heap_old _ h7)) underPt rfl (infoPt_of (ptC (P.x.val) (P.y.val) ((1 : Fp).val)) (ptC_size _ _ _)) ?_))
  refine (sencoded P _ _ _ (Rp.one P) _).mono ?_
  rintro e w4 ⟨rfl, hC4⟩
  have hs4 : w3.heap.size + 1 ≤ w4.heap.size := by have := hC4.size; (try simp only [alloc_size, setRow_size] at this); omega
  replace h2 : w4.heap[w.heap.size]? = some (.cells (arrC N) 22 (0, 0)) := (heap_call hC4 (heap_row _ (by omega) (heap_old _ h2)))
  replace h4 : w4.heap[w.heap.size + 1]? = some (.cells (zL) 22 (0, 0)) := (heap_call hC4 (heap_row _ (by omega) (heap_old _ h4)))
  replace h7 : w4.heap[w1.heap.size]? = some (.cells (ptC (P.x.val) (P.y.val) ((1 : Fp).val)) 45 (0, 0)) := (heap_call hC4 (heap_row _ (by omega) (heap_old _ h7)))
  replace h9 : w4.heap[w1.heap.size + 1]? = some (.cells (arrC M) 22 (0, 0)) := (heap_call hC4 (heap_row _ (by omega) (heap_old _ h9)))
  replace h10 : w4.heap[w3.heap.size]? = some (.cells (z12) 45 (0, 0)) := (heap_call hC4 (setRow_heap _ _ _ _ _ _ (heap_new_at _ _ _ rfl)))
  have hBw4 : Hid (Below w.heap.size w w4) := Lib.hid (below_call (below_setRow (below_alloc hBw3.out _) (by omega) _) hC4)
  clear hC4
  go_wp2_with (first
    | ((with_reducible refine at_store 4 ?_); refine wpList_store_row rfl 22 _ _ rfl (w.heap.size + 1) (arrC (encN P)) rfl rfl 22 (zL) h4 (info32_of (arrC (encN P)) (arrC_size _)) (zL_size.trans (arrC_size _).symm) (arrC_one _) ?_))
  refine bodyPost_ret (results_row_tmp2 rfl _ _ (w.heap.size + 1) 22 (arrC (encN P)) (0, 0) _ rfl (setRow_heap _ _ _ _ _ _ h4) under32 rfl (info32_of (arrC (encN P)) (arrC_size _))) rfl ⟨rfl, (below_setRow hBw4.out (by omega) _)⟩
set_option maxHeartbeats 4000000 in
theorem sSet_s (N M cap : Nat) (sl : Option Addr) (P Q : CP) (lN : N < 256 ^ 32) (hN : Hid (decP N = some P)) (lM : M < 256 ^ 32) (hM : Hid (decP M = some Q)) (w : World) (hsrc : Src w sl 32 M) :
    Calls Tryd.prog 14 #[.agg (arrC N), .slice sl 32 cap] w fun e w' => e = .returned (.tuple #[.agg (arrC (encN Q)), .bool true, .bool true]) ∧ Below w.heap.size w w' := by
  go_enter Tryd.func14, Tryd.ntmps14
  go_wp2_with (first
    | ((with_reducible refine at_dst 13 ?_); refine wpList_load_row rfl 22 _ rfl (w.heap.size) rfl 22 (arrC N) (0, 0) _ (heap_old _ (heap_new_at _ _ _ rfl)) under32 rfl (info32_of (arrC N) (arrC_size _)) ?_))
  refine (sdecoded_some N P lN hN.out _).mono ?_
  rintro e w1 ⟨rfl, hC1⟩
  have hs1 : w.heap.size + 1 + 1 ≤ w1.heap.size := by have := hC1.size; (try simp only [alloc_size, setRow_size] at this); omega
  replace h2 : w1.heap[w.heap.size]? = some (.cells (arrC N) 22 (0, 0)) := (heap_call hC1 (heap_old _ (heap_new_at _ _ _ rfl)))
  replace h4 : w1.heap[w.heap.size + 1]? = some (.cells (zL) 22 (0, 0)) := (heap_call hC1 (heap_new_at _ _ _ (by simp only [alloc_size, setRow_size])))
  have hBw1 : Hid (Below w.heap.size w w1) := Lib.hid (below_call (below_alloc (below_alloc (Below.refl _ w) _) _) hC1)
  clear hC1
  go_upto_region 5 with (first
    | ((with_reducible refine at_store 7 ?_); refine wpList_store_row rfl 45 _ _ rfl (w1.heap.size) (ptC (P.x.val) (P.y.val) ((1 : Fp).val)) rfl rfl 45 (z12) (heap_new_at _ _ _ rfl) (infoPt_of (ptC (P.x.val) (P.y.val) ((1 : Fp).val)) (ptC_size _ _ _)) (z12_size.trans (ptC_size _ _ _).symm) (ptC_one _ _ _) ?_)
    | ((with_reducible refine at_store 9 ?_); refine wpList_store_row rfl 22 _ _ rfl (w1.heap.size + 1) (zL) rfl rfl 22 (zL) (heap_new_at _ _ _ (by simp only [alloc_size, setRow_size])) (info32_of (zL) zL_size) (zL_size.trans zL_size.symm) zL_one ?_))
  try simp only [Act.put]
  refine wp_named ?_
  intro w2 ew2
  have hs2 : w1.heap.size + 1 + 1 ≤ w2.heap.size := by rw [ew2]; (try simp only [alloc_size, setRow_size]); omega
  replace h2 : w2.heap[w.heap.size]? = some (.cells (arrC N) 22 (0, 0)) := by rw [ew2]; exact (heap_row _ (by omega) (heap_old _ (heap_row _ (by omega) (heap_old _ h2))))
  replace h4 : w2.heap[w.heap.size + 1]? = some (.cells (zL) 22 (0, 0)) := by rw [ew2]; exact (heap_row _ (by omega) (heap_old _ (heap_row _ (by omega) (heap_old _ h4))))
  replace h7 : w2.heap[w1.heap.size]? = some (.cells (ptC (P.x.val) (P.y.val) ((1 : Fp).val)) 45 (0, 0)) := by rw [ew2]; exact (heap_row _ (by omega) (heap_old _ (setRow_heap _ _ _ _ _ _ (heap_new_at _ _ _ rfl))))
  replace h9 : w2.heap[w1.heap.size + 1]? = some (.cells (zL) 22 (0, 0)) := by rw [ew2]; exact (setRow_heap _ _ _ _ _ _ (heap_new_at _ _ _ (by simp only [alloc_size, setRow_size])))
  have hBw2 : Hid (Below w.heap.size w w2) := Lib.hid (by rw [ew2]; exact (below_setRow (below_alloc (below_setRow (below_alloc hBw1.out _) (by omega) _) _) (by omega) _))
  clear ew2
  go_wp2_with (first
    | (((with_reducible refine at_dst 23 ?_); go_loud (refine wpList_copy_src rfl (some 23) rfl _ _ rfl (w1.heap.size + 1) 32 32 cap M sl rfl rfl 22 h9 (hsrc.later hBw2.out) ?_)))
    | ((with_reducible refine at_dst 25 ?_); refine wpList_load_row rfl 22 _ rfl (w1.heap.size + 1) rfl 22 (arrC M) (0, 0) _ (setRow_heap _ _ _ _ _ _ h9) under32 rfl (info32_of (arrC M) (arrC_size _)) ?_))
  refine (sdecoded_some M Q lM hM.out _).mono ?_
  rintro e w3 ⟨rfl, hC3⟩
  have hs3 : w2.heap.size ≤ w3.heap.size := by have := hC3.size; (try simp only [alloc_size, setRow_size] at this); omega
  replace h2 : w3.heap[w.heap.size]? = some (.cells (arrC N) 22 (0, 0)) := (heap_call hC3 (heap_row _ (by omega) h2))
  replace h4 : w3.heap[w.heap.size + 1]? = some (.cells (zL) 22 (0, 0)) := (heap_call hC3 (heap_row _ (by omega) h4))
  replace h7 : w3.heap[w1.heap.size]? = some (.cells (ptC (P.x.val) (P.y.val) ((1 : Fp).val)) 45 (0, 0)) := (heap_call hC3 (heap_row _ (by omega) h7))
  replace h9 : w3.heap[w1.heap.size + 1]? = some (.cells (arrC M) 22 (0, 0)) := (heap_call hC3 (setRow_heap _ _ _ _ _ _ h9))
  have hBw3 : Hid (Below w.heap.size w w3) := Lib.hid (below_call (below_setRow hBw2.out (by omega) _) hC3)
  clear hC3
  go_wp2_with (first
    | ((with_reducible refine at_store 10 ?_); refine wpList_store_row rfl 45 _ _ rfl (w3.heap.size) (ptC (Q.x.val) (Q.y.val) ((1 : Fp).val)) rfl rfl 45 (z12) (heap_new_at _ _ _ rfl) (infoPt_of (ptC (Q.x.val) (Q.y.val) ((1 : Fp).val)) (ptC_size _ _ _)) (z12_size.trans (ptC_size _ _ _).symm) (ptC_one _ _ _) ?_)
    | ((with_reducible refine at_dst 38 ?_); refine wpList_load_row rfl 45 _ rfl (w3.heap.size) rfl 45 (ptC (Q.x.val) (Q.y.val) ((1 : Fp).val)) (0, 0) _ (setRow_heap _ _ _ _ _ _ (heap_new_at _ _ _ rfl)) underPt rfl (infoPt_of (ptC (Q.x.val) (Q.y.val) ((1 : Fp).val)) (ptC_size _ _ _)) ?_))
  refine (sencoded Q _ _ _ (Rp.one Q) _).mono ?_
  rintro e w4 ⟨rfl, hC4⟩
  have hs4 : w3.heap.size + 1 ≤ w4.heap.size := by have := hC4.size; (try simp only [alloc_size, setRow_size] at this); omega
  replace h2 : w4.heap[w.heap.size]? = some (.cells (arrC N) 22 (0, 0)) := (heap_call hC4 (heap_row _ (by omega) (heap_old _ h2)))
  replace h4 : w4.heap[w.heap.size + 1]? = some (.cells (zL) 22 (0, 0)) := (heap_call hC4 (heap_row _ (by omega) (heap_old _ h4)))
  replace h7 : w4.heap[w1.heap.size]? = some (.cells (ptC (P.x.val) (P.y.val) ((1 : Fp).val)) 45 (0, 0)) := (heap_call hC4 (heap_row _ (by omega) (heap_old _ h7)))
  replace h9 : w4.heap[w1.heap.size + 1]? = some (.cells (arrC M) 22 (0, 0)) := (heap_call hC4 (heap_row _ (by omega) (heap_old _ h9)))
  replace h10 : w4.heap[w3.heap.size]? = some (.cells (ptC (Q.x.val) (Q.y.val) ((1 : Fp).val)) 45 (0, 0)) := (heap_call hC4 (setRow_heap _ _ _ _ _ _ (heap_new_at _ _ _ rfl)))
  have hBw4 : Hid (Below w.heap.size w w4) := Lib.hid (below_call (below_setRow (below_alloc hBw3.out _) (by omega) _) hC4)
  clear hC4
  go_wp2_with (first
    | ((with_reducible refine at_store 4 ?_); refine wpList_store_row rfl 22 _ _ rfl (w.heap.size + 1) (arrC (encN Q)) rfl rfl 22 (zL) h4 (info32_of (arrC (encN Q)) (arrC_size _)) (zL_size.trans (arrC_size _).symm) (arrC_one _) ?_))
  refine bodyPost_ret (results_row_tmp2 rfl _ _ (w.heap.size + 1) 22 (arrC (encN Q)) (0, 0) _ rfl (setRow_heap _ _ _ _ _ _ h4) under32 rfl (info32_of (arrC (encN Q)) (arrC_size _))) rfl ⟨rfl, (below_setRow hBw4.out (by omega) _)⟩
end

section
open Go.RowKit
set_option maxHeartbeats 4000000 in
theorem PtSB_b (N n cap : Nat) (sl : Option Addr) (lN : N < 256 ^ 32) (hN : Hid (decP N = none)) (B : Nat) (w : World) (hD0 : Var 1 z5 B w) (hD1 : Var 0 i5 B w) (hD2 : Var 2 o5 B w) :
    Calls Tryd.prog 4 #[.agg (arrC N), .slice sl n cap] w fun e w' => e = .returned (.bool true) ∧ Below w.heap.size w w' := by
  have hBl := hD0.1
  have e1 : ∀ u : World, (Op.equalIn 10000 22 (.agg zL) (.agg zL)).run Tryd.prog u = .ok true u := fun u => by rw [zL_arrC, run_eq_arr 0 0 (by omega) (by omega) u]; simp
  go_enter Tryd.func4, Tryd.ntmps4
  go_wp2_with (first
    | ((with_reducible refine at_dst 12 ?_); refine wpList_load_row rfl 22 _ rfl (w.heap.size) rfl 22 (arrC N) (0, 0) _ (heap_new_at _ _ _ rfl) under32 rfl (info32_of (arrC N) (arrC_size _)) ?_))
  refine (iSet_none_any N n cap sl lN hN B _ (hD0.later (below_alloc (Below.refl _ w) _)) (hD1.later (below_alloc (Below.refl _ w) _)) (hD2.later (below_alloc (Below.refl _ w) _))).mono ?_
  rintro e w1 ⟨rfl, hC1⟩
  have hs1 : w.heap.size + 1 ≤ w1.heap.size := by have := hC1.size; (try simp only [alloc_size, setRow_size] at this); omega
  replace h2 : w1.heap[w.heap.size]? = some (.cells (arrC N) 22 (0, 0)) := (heap_call hC1 (heap_new_at _ _ _ rfl))
  have hBw1 : Hid (Below w.heap.size w w1) := Lib.hid (below_call (below_alloc (Below.refl _ w) _) hC1)
  clear hC1
  go_upto_region 2 with (first
    | ((with_reducible refine at_store 5 ?_); refine wpList_store_row rfl 22 _ _ rfl (w1.heap.size) (zL) rfl rfl 22 (zL) (heap_new_at _ _ _ rfl) (info32_of (zL) zL_size) (zL_size.trans zL_size.symm) zL_one ?_))
  try simp only [Act.put]
  refine wp_named ?_
  intro w2 ew2
  have hs2 : w1.heap.size + 1 ≤ w2.heap.size := by rw [ew2]; (try simp only [alloc_size, setRow_size]); omega
  replace h2 : w2.heap[w.heap.size]? = some (.cells (arrC N) 22 (0, 0)) := by rw [ew2]; exact (heap_row _ (by omega) (heap_old _ h2))
  replace h5 : w2.heap[w1.heap.size]? = some (.cells (zL) 22 (0, 0)) := by rw [ew2]; exact (setRow_heap _ _ _ _ _ _ (heap_new_at _ _ _ rfl))
  have hBw2 : Hid (Below w.heap.size w w2) := Lib.hid (by rw [ew2]; exact (below_setRow (below_alloc hBw1.out _) (by omega) _))
  clear ew2
  go_wp2_with (first
    | ((with_reducible refine at_dst 19 ?_); refine wpList_load_row rfl 22 _ rfl (w.heap.size) rfl 22 (arrC N) (0, 0) _ h2 under32 rfl (info32_of (arrC N) (arrC_size _)) ?_))
  refine (sSet_b N n cap sl lN hN _).mono ?_
  rintro e w3 ⟨rfl, hC3⟩
  have hs3 : w2.heap.size ≤ w3.heap.size := by have := hC3.size; (try simp only [alloc_size, setRow_size] at this); omega
  replace h2 : w3.heap[w.heap.size]? = some (.cells (arrC N) 22 (0, 0)) := (heap_call hC3 h2)
  replace h5 : w3.heap[w1.heap.size]? = some (.cells (zL) 22 (0, 0)) := (heap_call hC3 h5)
  have hBw3 : Hid (Below w.heap.size w w3) := Lib.hid (below_call hBw2.out hC3)
  clear hC3
  go_upto_region 3 with (first
    | ((with_reducible refine at_store 8 ?_); refine wpList_store_row rfl 22 _ _ rfl (w3.heap.size) (zL) rfl rfl 22 (zL) (heap_new_at _ _ _ rfl) (info32_of (zL) zL_size) (zL_size.trans zL_size.symm) zL_one ?_))
  try simp only [Act.put]
  refine wp_named ?_
  intro w4 ew4
  have hs4 : w3.heap.size + 1 ≤ w4.heap.size := by rw [ew4]; (try simp only [alloc_size, setRow_size]); omega
  replace h2 : w4.heap[w.heap.size]? = some (.cells (arrC N) 22 (0, 0)) := by rw [ew4]; exact (heap_row _ (by omega) (heap_old _ h2))
  replace h5 : w4.heap[w1.heap.size]? = some (.cells (zL) 22 (0, 0)) := by rw [ew4]; exact (heap_row _ (by omega) (heap_old _ h5))
  replace h8 : w4.heap[w3.heap.size]? = some (.cells (zL) 22 (0, 0)) := by rw [ew4]; exact (setRow_heap _ _ _ _ _ _ (heap_new_at _ _ _ rfl))
  have hBw4 : Hid (Below w.heap.size w w4) := Lib.hid (by rw [ew4]; exact (below_setRow (below_alloc hBw3.out _) (by omega) _))
  clear ew4
  go_wp2_with (first
    | ((with_reducible refine at_dst 25 ?_); refine wpList_load_row rfl 22 _ rfl (w1.heap.size) rfl 22 (zL) (0, 0) _ h5 under32 rfl (info32_of (zL) zL_size) ?_)
    | ((with_reducible refine at_dst 26 ?_); refine wpList_load_row rfl 22 _ rfl (w3.heap.size) rfl 22 (zL) (0, 0) _ h8 under32 rfl (info32_of (zL) zL_size) ?_))
  go_ret
  exact ⟨rfl, hBw4.out⟩
set_option maxHeartbeats 4000000 in
theorem PtSB_ls (N M n cap : Nat) (sl : Option Addr) (P Q : CP) (lN : N < 256 ^ 32) (hN : Hid (decP N = some P)) (lM : M < 256 ^ 32) (hM : Hid (decP M = some Q)) (hn : ¬ (n : Int) = 32) (B : Nat) (w : World) (hD0 : Var 1 z5 B w) (hD1 : Var 0 i5 B w) (hD2 : Var 2 o5 B w) (hsrc : Src w sl n M) :
    Calls Tryd.prog 4 #[.agg (arrC N), .slice sl n cap] w fun e w' => e = .returned (.bool true) ∧ Below w.heap.size w w' := by
  have hBl := hD0.1
  have e1 : ∀ u : World, (Op.equalIn 10000 22 (.agg (arrC (encN P))) (.agg (arrC (encN P)))).run Tryd.prog u = .ok true u := fun u => by rw [run_eq_arr _ _ (encN_lt _) (encN_lt _) u, decide_eq_true (show (encN P) = (encN P) from rfl)]
  go_enter Tryd.func4, Tryd.ntmps4
  go_wp2_with (first
    | ((with_reducible refine at_dst 12 ?_); refine wpList_load_row rfl 22 _ rfl (w.heap.size) rfl 22 (arrC N) (0, 0) _ (heap_new_at _ _ _ rfl) under32 rfl (info32_of (arrC N) (arrC_size _)) ?_))
  refine (iSet_some_len N n cap sl P lN hN hn B _ (hD0.later (below_alloc (Below.refl _ w) _)) (hD1.later (below_alloc (Below.refl _ w) _)) (hD2.later (below_alloc (Below.refl _ w) _))).mono ?_
  rintro e w1 ⟨rfl, hC1⟩
  have hs1 : w.heap.size + 1 ≤ w1.heap.size := by have := hC1.size; (try simp only [alloc_size, setRow_size] at this); omega
  replace h2 : w1.heap[w.heap.size]? = some (.cells (arrC N) 22 (0, 0)) := (heap_call hC1 (heap_new_at _ _ _ rfl))
  have hBw1 : Hid (Below w.heap.size w w1) := Lib.hid (below_call (below_alloc (Below.refl _ w) _) hC1)
  clear hC1
  go_upto_region 2 with (first
    | ((with_reducible refine at_store 5 ?_); refine wpList_store_row rfl 22 _ _ rfl (w1.heap.size) (arrC (encN P)) rfl rfl 22 (zL) (heap_new_at _ _ _ rfl) (info32_of (arrC (encN P)) (arrC_size _)) (zL_size.trans (arrC_size _).symm) (arrC_one _) ?_))
  try simp only [Act.put]
  refine wp_named ?_
  intro w2 ew2
  have hs2 : w1.heap.size + 1 ≤ w2.heap.size := by rw [ew2]; (try simp only [alloc_size, setRow_size]); omega
  replace h2 : w2.heap[w.heap.size]? = some (.cells (arrC N) 22 (0, 0)) := by rw [ew2]; exact (heap_row _ (by omega) (heap_old _ h2))
  replace h5 : w2.heap[w1.heap.size]? = some (.cells (arrC (encN P)) 22 (0, 0)) := by rw [ew2]; exact (setRow_heap _ _ _ _ _ _ (heap_new_at _ _ _ rfl))
  have hBw2 : Hid (Below w.heap.size w w2) := Lib.hid (by rw [ew2]; exact (below_setRow (below_alloc hBw1.out _) (by omega) _))
  clear ew2
  go_wp2_with (first
    | ((with_reducible refine at_dst 19 ?_); refine wpList_load_row rfl 22 _ rfl (w.heap.size) rfl 22 (arrC N) (0, 0) _ h2 under32 rfl (info32_of (arrC N) (arrC_size _)) ?_))
  refine (sSet_ls N M n cap sl P Q lN hN lM hM hn _ (hsrc.later hBw2.out)).mono ?_
  rintro e w3 ⟨rfl, hC3⟩
  have hs3 : w2.heap.size ≤ w3.heap.size := by have := hC3.size; (try simp only [alloc_size, setRow_size] at this); omega
  replace h2 : w3.heap[w.heap.size]? = some (.cells (arrC N) 22 (0, 0)) := (heap_call hC3 h2)
  replace h5 : w3.heap[w1.heap.size]? = some (.cells (arrC (encN P)) 22 (0, 0)) := (heap_call hC3 h5)
  have hBw3 : Hid (Below w.heap.size w w3) := Lib.hid (below_call hBw2.out hC3)
  clear hC3
  go_upto_region 3 with (first
    | ((with_reducible refine at_store 8 ?_); refine wpList_store_row rfl 22 _ _ rfl (w3.heap.size) (arrC (encN P)) rfl rfl 22 (zL) (heap_new_at _ _ _ rfl) (info32_of (arrC (encN P)) (arrC_size _)) (zL_size.trans (arrC_size _).symm) (arrC_one _) ?_))
  try simp only [Act.put]
  refine wp_named ?_
  intro w4 ew4
  have hs4 : w3.heap.size + 1 ≤ w4.heap.size := by rw [ew4]; (try simp only [alloc_size, setRow_size]); omega
  replace h2 : w4.heap[w.heap.size]? = some (.cells (arrC N) 22 (0, 0)) := by rw [ew4]; exact (heap_row _ (by omega) (heap_old _ h2))
  replace h5 : w4.heap[w1.heap.size]? = some (.cells (arrC (encN P)) 22 (0, 0)) := by rw [ew4]; exact (heap_row _ (by omega) (heap_old _ h5))
  replace h8 : w4.heap[w3.heap.size]? = some (.cells (arrC (encN P)) 22 (0, 0)) := by rw [ew4]; exact (setRow_heap _ _ _ _ _ _ (heap_new_at _ _ _ rfl))
  have hBw4 : Hid (Below w.heap.size w w4) := Lib.hid (by rw [ew4]; exact (below_setRow (below_alloc hBw3.out _) (by omega) _))
  clear ew4
  go_wp2_with (first
    | ((with_reducible refine at_dst 25 ?_); refine wpList_load_row rfl 22 _ rfl (w1.heap.size) rfl 22 (arrC (encN P)) (0, 0) _ h5 under32 rfl (info32_of (arrC (encN P)) (arrC_size _)) ?_)
    | ((with_reducible refine at_dst 26 ?_); refine wpList_load_row rfl 22 _ rfl (w3.heap.size) rfl 22 (arrC (encN P)) (0, 0) _ h8 under32 rfl (info32_of (arrC (encN P)) (arrC_size _)) ?_))
  go_ret
  exact ⟨rfl, hBw4.out⟩
set_option maxHeartbeats 4000000 in
theorem PtSB_ln (N M n cap : Nat) (sl : Option Addr) (P : CP) (lN : N < 256 ^ 32) (hN : Hid (decP N = some P)) (lM : M < 256 ^ 32) (hM : Hid (decP M = none)) (hn : ¬ (n : Int) = 32) (B : Nat) (w : World) (hD0 : Var 1 z5 B w) (hD1 : Var 0 i5 B w) (hD2 : Var 2 o5 B w) (hsrc : Src w sl n M) :
    Calls Tryd.prog 4 #[.agg (arrC N), .slice sl n cap] w fun e w' => e = .returned (.bool true) ∧ Below w.heap.size w w' := by
  have hBl := hD0.1
  have e1 : ∀ u : World, (Op.equalIn 10000 22 (.agg (arrC (encN P))) (.agg (arrC (encN P)))).run Tryd.prog u = .ok true u := fun u => by rw [run_eq_arr _ _ (encN_lt _) (encN_lt _) u, decide_eq_true (show (encN P) = (encN P) from rfl)]
  go_enter Tryd.func4, Tryd.ntmps4
  go_wp2_with (first
    | ((with_reducible refine at_dst 12 ?_); refine wpList_load_row rfl 22 _ rfl (w.heap.size) rfl 22 (arrC N) (0, 0) _ (heap_new_at _ _ _ rfl) under32 rfl (info32_of (arrC N) (arrC_size _)) ?_))
  refine (iSet_some_len N n cap sl P lN hN hn B _ (hD0.later (below_alloc (Below.refl _ w) _)) (hD1.later (below_alloc (Below.refl _ w) _)) (hD2.later (below_alloc (Below.refl _ w) _))).mono ?_
  rintro e w1 ⟨rfl, hC1⟩
  have hs1 : w.heap.size + 1 ≤ w1.heap.size := by have := hC1.size; (try simp only [alloc_size, setRow_size] at this); omega
  replace h2 : w1.heap[w.heap.size]? = some (.cells (arrC N) 22 (0, 0)) := (heap_call hC1 (heap_new_at _ _ _ rfl))
  have hBw1 : Hid (Below w.heap.size w w1) := Lib.hid (below_call (below_alloc (Below.refl _ w) _) hC1)
  clear hC1
  go_upto_region 2 with (first
    | ((with_reducible refine at_store 5 ?_); refine wpList_store_row rfl 22 _ _ rfl (w1.heap.size) (arrC (encN P)) rfl rfl 22 (zL) (heap_new_at _ _ _ rfl) (info32_of (arrC (encN P)) (arrC_size _)) (zL_size.trans (arrC_size _).symm) (arrC_one _) ?_))
  try simp only [Act.put]
  refine wp_named ?_
  intro w2 ew2
  have hs2 : w1.heap.size + 1 ≤ w2.heap.size := by rw [ew2]; (try simp only [alloc_size, setRow_size]); omega
  replace h2 : w2.heap[w.heap.size]? = some (.cells (arrC N) 22 (0, 0)) := by rw [ew2]; exact (heap_row _ (by omega) (heap_old _ h2))
  replace h5 : w2.heap[w1.heap.size]? = some (.cells (arrC (encN P)) 22 (0, 0)) := by rw [ew2]; exact (setRow_heap _ _ _ _ _ _ (heap_new_at _ _ _ rfl))
  have hBw2 : Hid (Below w.heap.size w w2) := Lib.hid (by rw [ew2]; exact (below_setRow (below_alloc hBw1.out _) (by omega) _))
  clear ew2
  go_wp2_with (first
    | ((with_reducible refine at_dst 19 ?_); refine wpList_load_row rfl 22 _ rfl (w.heap.size) rfl 22 (arrC N) (0, 0) _ h2 under32 rfl (info32_of (arrC N) (arrC_size _)) ?_))
  refine (sSet_ln N M n cap sl P lN hN lM hM hn _ (hsrc.later hBw2.out)).mono ?_
  rintro e w3 ⟨rfl, hC3⟩
  have hs3 : w2.heap.size ≤ w3.heap.size := by have := hC3.size; (try simp only [alloc_size, setRow_size] at this); omega
  replace h2 : w3.heap[w.heap.size]? = some (.cells (arrC N) 22 (0, 0)) := (heap_call hC3 h2)
  replace h5 : w3.heap[w1.heap.size]? = some (.cells (arrC (encN P)) 22 (0, 0)) := (heap_call hC3 h5)
  have hBw3 : Hid (Below w.heap.size w w3) := Lib.hid (below_call hBw2.out hC3)
  clear hC3
  go_upto_region 3 with (first
    | ((with_reducible refine at_store 8 ?_); refine wpList_store_row rfl 22 _ _ rfl (w3.heap.size) (arrC (encN P)) rfl rfl 22 (zL) (heap_new_at _ _ _ rfl) (info32_of (arrC (encN P)) (arrC_size _)) (zL_size.trans (arrC_size _).symm) (arrC_one _) ?_))
  try simp only [Act.put]
  refine wp_named ?_
  intro w4 ew4
  have hs4 : w3.heap.size + 1 ≤ w4.heap.size := by rw [ew4]; (try simp only [alloc_size, setRow_size]); omega
  replace h2 : w4.heap[w.heap.size]? = some (.cells (arrC N) 22 (0, 0)) := by rw [ew4]; exact (heap_row _ (by omega) (heap_old _ h2))
  replace h5 : w4.heap[w1.heap.size]? = some (.cells (arrC (encN P)) 22 (0, 0)) := by rw [ew4]; exact (heap_row _ (by omega) (heap_old _ h5))
  replace h8 : w4.heap[w3.heap.size]? = some (.cells (arrC (encN P)) 22 (0, 0)) := by rw [ew4]; exact (setRow_heap _ _ _ _ _ _ (heap_new_at _ _ _ rfl))
  have hBw4 : Hid (Below w.heap.size w w4) := Lib.hid (by rw [ew4]; exact (below_setRow (below_alloc hBw3.out _) (by omega) _))
  clear ew4
  go_wp2_with (first
    | ((with_reducible refine at_dst 25 ?_); refine wpList_load_row rfl 22 _ rfl (w1.heap.size) rfl 22 (arrC (encN P)) (0, 0) _ h5 under32 rfl (info32_of (arrC (encN P)) (arrC_size _)) ?_)
    | ((with_reducible refine at_dst 26 ?_); refine wpList_load_row rfl 22 _ rfl (w3.heap.size) rfl 22 (arrC (encN P)) (0, 0) _ h8 under32 rfl (info32_of (arrC (encN P)) (arrC_size _)) ?_))
  go_ret
  exact ⟨rfl, hBw4.out⟩
set_option maxHeartbeats 4000000 in
theorem PtSB_n (N M xb xo cap : Nat) (P : CP) (lN : N < 256 ^ 32) (hN : Hid (decP N = some P)) (lM : M < 256 ^ 32) (hM : Hid (decP M = none)) (hcap : 32 ≤ cap) (B : Nat) (w : World) (hD0 : Var 1 z5 B w) (hD1 : Var 0 i5 B w) (hD2 : Var 2 o5 B w) (hsrc : Src w (some ⟨xb, xo, none⟩) 32 M) (hx : Row w xb xo 32 (byV M)) :
    Calls Tryd.prog 4 #[.agg (arrC N), .slice (some ⟨xb, xo, none⟩) 32 cap] w fun e w' => e = .returned (.bool true) ∧ Below w.heap.size w w' := by
  have hBl := hD0.1
  have hxl := hx.lt
  have e1 : ∀ u : World, (Op.equalIn 10000 22 (.agg (arrC (encN P))) (.agg (arrC (encN P)))).run Tryd.prog u = .ok true u := fun u => by rw [run_eq_arr _ _ (encN_lt _) (encN_lt _) u, decide_eq_true (show (encN P) = (encN P) from rfl)]
  go_enter Tryd.func4, Tryd.ntmps4
  go_wp2_with (first
    | ((with_reducible refine at_dst 12 ?_); refine wpList_load_row rfl 22 _ rfl (w.heap.size) rfl 22 (arrC N) (0, 0) _ (heap_new_at _ _ _ rfl) under32 rfl (info32_of (arrC N) (arrC_size _)) ?_))
  refine (iSet_some_none N M xb xo cap P lN hN lM hM hcap B _ (hD0.later (below_alloc (Below.refl _ w) _)) (hD1.later (below_alloc (Below.refl _ w) _)) (hD2.later (below_alloc (Below.refl _ w) _)) (Row.below_all hx (below_alloc (Below.refl _ w) _))).mono ?_
  rintro e w1 ⟨rfl, hC1⟩
  have hs1 : w.heap.size + 1 ≤ w1.heap.size := by have := hC1.size; (try simp only [alloc_size, setRow_size] at this); omega
  replace h2 : w1.heap[w.heap.size]? = some (.cells (arrC N) 22 (0, 0)) := (heap_call hC1 (heap_new_at _ _ _ rfl))
  have hBw1 : Hid (Below w.heap.size w w1) := Lib.hid (below_call (below_alloc (Below.refl _ w) _) hC1)
  clear hC1
  go_upto_region 2 with (first
    | ((with_reducible refine at_store 5 ?_); refine wpList_store_row rfl 22 _ _ rfl (w1.heap.size) (arrC (encN P)) rfl rfl 22 (zL) (heap_new_at _ _ _ rfl) (info32_of (arrC (encN P)) (arrC_size _)) (zL_size.trans (arrC_size _).symm) (arrC_one _) ?_))
  try simp only [Act.put]
  refine wp_named ?_
  intro w2 ew2
  have hs2 : w1.heap.size + 1 ≤ w2.heap.size := by rw [ew2]; (try simp only [alloc_size, setRow_size]); omega
  replace h2 : w2.heap[w.heap.size]? = some (.cells (arrC N) 22 (0, 0)) := by rw [ew2]; exact (heap_row _ (by omega) (heap_old _ h2))
  replace h5 : w2.heap[w1.heap.size]? = some (.cells (arrC (encN P)) 22 (0, 0)) := by rw [ew2]; exact (setRow_heap _ _ _ _ _ _ (heap_new_at _ _ _ rfl))
  have hBw2 : Hid (Below w.heap.size w w2) := Lib.hid (by rw [ew2]; exact (below_setRow (below_alloc hBw1.out _) (by omega) _))
  clear ew2
  go_wp2_with (first
    | ((with_reducible refine at_dst 19 ?_); refine wpList_load_row rfl 22 _ rfl (w.heap.size) rfl 22 (arrC N) (0, 0) _ h2 under32 rfl (info32_of (arrC N) (arrC_size _)) ?_))
  refine (sSet_n N M cap (some ⟨xb, xo, none⟩) P lN hN lM hM _ (hsrc.later hBw2.out)).mono ?_
  rintro e w3 ⟨rfl, hC3⟩
  have hs3 : w2.heap.size ≤ w3.heap.size := by have := hC3.size; (try simp only [alloc_size, setRow_size] at this); omega
  replace h2 : w3.heap[w.heap.size]? = some (.cells (arrC N) 22 (0, 0)) := (heap_call hC3 h2)
  replace h5 : w3.heap[w1.heap.size]? = some (.cells (arrC (encN P)) 22 (0, 0)) := (heap_call hC3 h5)
  have hBw3 : Hid (Below w.heap.size w w3) := Lib.hid (below_call hBw2.out hC3)
  clear hC3
  go_upto_region 3 with (first
    | ((with_reducible refine at_store 8 ?_); refine wpList_store_row rfl 22 _ _ rfl (w3.heap.size) (arrC (encN P)) rfl rfl 22 (zL) (heap_new_at _ _ _ rfl) (info32_of (arrC (encN P)) (arrC_size _)) (zL_size.trans (arrC_size _).symm) (arrC_one _) ?_))
  try simp only [Act.put]
  refine wp_named ?_
  intro w4 ew4
  have hs4 : w3.heap.size + 1 ≤ w4.heap.size := by rw [ew4]; (try simp only [alloc_size, setRow_size]); omega
  replace h2 : w4.heap[w.heap.size]? = some (.cells (arrC N) 22 (0, 0)) := by rw [ew4]; exact (heap_row _ (by omega) (heap_old _ h2))
  replace h5 : w4.heap[w1.heap.size]? = some (.cells (arrC (encN P)) 22 (0, 0)) := by rw [ew4]; exact (heap_row _ (by omega) (heap_old _ h5))
  replace h8 : w4.heap[w3.heap.size]? = some (.cells (arrC (encN P)) 22 (0, 0)) := by rw [ew4]; exact (setRow_heap _ _ _ _ _ _ (heap_new_at _ _ _ rfl))
  have hBw4 : Hid (Below w.heap.size w w4) := Lib.hid (by rw [ew4]; exact (below_setRow (below_alloc hBw3.out _) (by omega) _))
  clear ew4
  go_wp2_with (first
    | ((with_reducible refine at_dst 25 ?_); refine wpList_load_row rfl 22 _ rfl (w1.heap.size) rfl 22 (arrC (encN P)) (0, 0) _ h5 under32 rfl (info32_of (arrC (encN P)) (arrC_size _)) ?_)
    | ((with_reducible refine at_dst 26 ?_); refine wpList_load_row rfl 22 _ rfl (w3.heap.size) rfl 22 (arrC (encN P)) (0, 0) _ h8 under32 rfl (info32_of (arrC (encN P)) (arrC_size _)) ?_))
  go_ret
  exact ⟨rfl, hBw4.out⟩
set_option maxHeartbeats 4000000 in
theorem PtSB_s (N M xb xo cap : Nat) (P Q : CP) (lN : N < 256 ^ 32) (hN : Hid (decP N = some P)) (lM : M < 256 ^ 32) (hM : Hid (decP M = some Q)) (hcap : 32 ≤ cap) (B : Nat) (w : World) (hD0 : Var 1 z5 B w) (hD1 : Var 0 i5 B w) (hD2 : Var 2 o5 B w) (hsrc : Src w (some ⟨xb, xo, none⟩) 32 M) (hx : Row w xb xo 32 (byV M)) :
    Calls Tryd.prog 4 #[.agg (arrC N), .slice (some ⟨xb, xo, none⟩) 32 cap] w fun e w' => e = .returned (.bool true) ∧ Below w.heap.size w w' := by
  have hBl := hD0.1
  have hxl := hx.lt
  have e1 : ∀ u : World, (Op.equalIn 10000 22 (.agg (arrC (encN Q))) (.agg (arrC (encN Q)))).run Tryd.prog u = .ok true u := fun u => by rw [run_eq_arr _ _ (encN_lt _) (encN_lt _) u, decide_eq_true (show (encN Q) = (encN Q) from rfl)]
  go_enter Tryd.func4, Tryd.ntmps4
  go_wp2_with (first
    | ((with_reducible refine at_dst 12 ?_); refine wpList_load_row rfl 22 _ rfl (w.heap.size) rfl 22 (arrC N) (0, 0) _ (heap_new_at _ _ _ rfl) under32 rfl (info32_of (arrC N) (arrC_size _)) ?_))
  refine (iSet_some_some N M xb xo cap P Q lN hN lM hM hcap B _ (hD0.later (below_alloc (Below.refl _ w) _)) (hD1.later (below_alloc (Below.refl _ w) _)) (hD2.later (below_alloc (Below.refl _ w) _)) (Row.below_all hx (below_alloc (Below.refl _ w) _))).mono ?_
  rintro e w1 ⟨rfl, hC1⟩
  have hs1 : w.heap.size + 1 ≤ w1.heap.size := by have := hC1.size; (try simp only [alloc_size, setRow_size] at this); omega
  replace h2 : w1.heap[w.heap.size]? = some (.cells (arrC N) 22 (0, 0)) := (heap_call hC1 (heap_new_at _ _ _ rfl))
  have hBw1 : Hid (Below w.heap.size w w1) := Lib.hid (below_call (below_alloc (Below.refl _ w) _) hC1)
  clear hC1
  go_upto_region 2 with (first
    | ((with_reducible refine at_store 5 ?_); refine wpList_store_row rfl 22 _ _ rfl (w1.heap.size) (arrC (encN Q)) rfl rfl 22 (zL) (heap_new_at _ _ _ rfl) (info32_of (arrC (encN Q)) (arrC_size _)) (zL_size.trans (arrC_size _).symm) (arrC_one _) ?_))
  try simp only [Act.put]
  refine wp_named ?_
  intro w2 ew2
  have hs2 : w1.heap.size + 1 ≤ w2.heap.size := by rw [ew2]; (try simp only [alloc_size, setRow_size]); omega
  replace h2 : w2.heap[w.heap.size]? = some (.cells (arrC N) 22 (0, 0)) := by rw [ew2]; exact (heap_row _ (by omega) (heap_old _ h2))
  replace h5 : w2.heap[w1.heap.size]? = some (.cells (arrC (encN Q)) 22 (0, 0)) := by rw [ew2]; exact (setRow_heap _ _ _ _ _ _ (heap_new_at _ _ _ rfl))
  have hBw2 : Hid (Below w.heap.size w w2) := Lib.hid (by rw [ew2]; exact (below_setRow (below_alloc hBw1.out _) (by omega) _))
  clear ew2
  go_wp2_with (first
    | ((with_reducible refine at_dst 19 ?_); refine wpList_load_row rfl 22 _ rfl (w.heap.size) rfl 22 (arrC N) (0, 0) _ h2 under32 rfl (info32_of (arrC N) (arrC_size _)) ?_))
  refine (sSet_s N M cap (some ⟨xb, xo, none⟩) P Q lN hN lM hM _ (hsrc.later hBw2.out)).mono ?_
  rintro e w3 ⟨rfl, hC3⟩
  have hs3 : w2.heap.size ≤ w3.heap.size := by have := hC3.size; (try simp only [alloc_size, setRow_size] at this); omega
  replace h2 : w3.heap[w.heap.size]? = some (.cells (arrC N) 22 (0, 0)) := (heap_call hC3 h2)
  replace h5 : w3.heap[w1.heap.size]? = some (.cells (arrC (encN Q)) 22 (0, 0)) := (heap_call hC3 h5)
  have hBw3 : Hid (Below w.heap.size w w3) := Lib.hid (below_call hBw2.out hC3)
  clear hC3
  go_upto_region 3 with (first
    | ((with_reducible refine at_store 8 ?_); refine wpList_store_row rfl 22 _ _ rfl (w3.heap.size) (arrC (encN Q)) rfl rfl 22 (zL) (heap_new_at _ _ _ rfl) (info32_of (arrC (encN Q)) (arrC_size _)) (zL_size.trans (arrC_size _).symm) (arrC_one _) ?_))
  try simp only [Act.put]
  refine wp_named ?_
  intro w4 ew4
  have hs4 : w3.heap.size + 1 ≤ w4.heap.size := by rw [ew4]; (try simp only [alloc_size, setRow_size]); omega
  replace h2 : w4.heap[w.heap.size]? = some (.cells (arrC N) 22 (0, 0)) := by rw [ew4]; exact (heap_row _ (by omega) (heap_old _ h2))
  replace h5 : w4.heap[w1.heap.size]? = some (.cells (arrC (encN Q)) 22 (0, 0)) := by rw [ew4]; exact (heap_row _ (by omega) (heap_old _ h5))
  replace h8 : w4.heap[w3.heap.size]? = some (.cells (arrC (encN Q)) 22 (0, 0)) := by rw [ew4]; exact (setRow_heap _ _ _ _ _ _ (heap_new_at _ _ _ rfl))
  have hBw4 : Hid (Below w.heap.size w w4) := Lib.hid (by rw [ew4]; exact (below_setRow (below_alloc hBw3.out _) (by omega) _))
  clear ew4
  go_wp2_with (first
    | ((with_reducible refine at_dst 25 ?_); refine wpList_load_row rfl 22 _ rfl (w1.heap.size) rfl 22 (arrC (encN Q)) (0, 0) _ h5 under32 rfl (info32_of (arrC (encN Q)) (arrC_size _)) ?_)
    | ((with_reducible refine at_dst 26 ?_); refine wpList_load_row rfl 22 _ rfl (w3.heap.size) rfl 22 (arrC (encN Q)) (0, 0) _ h8 under32 rfl (info32_of (arrC (encN Q)) (arrC_size _)) ?_))
  go_ret
  exact ⟨rfl, hBw4.out⟩
theorem PtSB_walk (N : Nat) (lN : N < 256 ^ 32) (sl : Option Addr) (n cap M : Nat) (hcap : n ≤ cap) (B : Nat) (w : World) (hD0 : Var 1 z5 B w) (hD1 : Var 0 i5 B w) (hD2 : Var 2 o5 B w) (hsrc : Src w sl n M) (hrow : n = 32 → ∃ b o, sl = some ⟨b, o, none⟩ ∧ Row w b o 32 (byV M)) : Calls Tryd.prog 4 #[.agg (arrC N), .slice sl n cap] w fun e w' => e = .returned (.bool true) ∧ Below w.heap.size w w' := by
  cases hP : decP N with
  | none => exact PtSB_b N n cap sl lN (Lib.hid hP) B w hD0 hD1 hD2
  | some P =>
    have lM := hsrc.lt
    by_cases hn : n = 32
    · obtain ⟨b, o, rfl, hx⟩ := hrow hn
      subst hn
      cases hQ : decP M with
      | none => exact PtSB_n N M b o cap P lN (Lib.hid hP) lM (Lib.hid hQ) hcap B w hD0 hD1 hD2 hsrc hx
      | some Q => exact PtSB_s N M b o cap P Q lN (Lib.hid hP) lM (Lib.hid hQ) hcap B w hD0 hD1 hD2 hsrc hx
    · have hn' : ¬ (n : Int) = 32 := by omega
      cases hQ : decP M with
      | none => exact PtSB_ln N M n cap sl P lN (Lib.hid hP) lM (Lib.hid hQ) hn' B w hD0 hD1 hD2 hsrc
      | some Q => exact PtSB_ls N M n cap sl P Q lN (Lib.hid hP) lM (Lib.hid hQ) hn' B w hD0 hD1 hD2 hsrc
end

section
open Go.ChangeShapes Go.WideShapes Go.ChangeAt Go.RowKit
theorem spot_none {w : World} {a : Addr} {v : Value} (h : w.cell? a = some v) : a = ⟨a.block, a.off, none⟩ := by
  obtain ⟨b, o, s⟩ := a
  cases s with
  | none => rfl
  | some x =>
    unfold World.cell? at h
    simp only [Option.isSome_some, if_true] at h
    split at h <;> cases h
theorem block_of_cell {w : World} {a : Addr} {v : Value} (h : w.cell? a = some v) : a.block < w.heap.size := by
  unfold World.cell? at h
  rcases Nat.lt_or_ge a.block w.heap.size with hlt | hge
  · exact hlt
  · rw [Array.getElem?_eq_none hge] at h; cases h
theorem openBytes {H : Type} {enc : TypeId × Value → H} {W : World} {base : Nat} {v : Value} {d : DataW H} {ps : List MemPlace}
    (hok : Value.okWide Tryd.prog W .any base 26 v) (h : DataW.Trod enc Tryd.prog W 0 (fun _ => true) true 26 v d ps) (hfz : ∀ b off, MemPlace.cell b off ∈ ps → W.frozen? ⟨b, off, none⟩ = false) :
    ∃ sl n cap M, v = .slice sl n cap ∧ n ≤ cap ∧ Src W sl n M ∧ (n = 32 → ∃ b o, sl = some ⟨b, o, none⟩ ∧ Row W b o 32 (byV M)) ∧
      ∀ W' : World, Below W.heap.size W W' → DataW.Trod enc Tryd.prog W' 0 (fun b => decide (b < W.heap.size)) true 26 (.slice sl n cap) d ps := by
  obtain ⟨a0, n, cap, rfl⟩ := okWide_slice underBs hok
  have hh := h
  obtain ⟨fuel, hf⟩ := h
  rcases open_ints underBs under8 cells8 hf with ⟨hcs, hx⟩ | ⟨a, len, cp, zs, hcs, hb, hle, hmax, hlen, hx, hcell, hwf⟩
  · simp [Value.cells] at hcs
    obtain ⟨rfl, rfl, rfl⟩ := hcs
    simp only [Prod.mk.injEq] at hx
    obtain ⟨rfl, rfl⟩ := hx
    refine ⟨none, 0, 0, 0, rfl, Nat.le_refl _, ⟨by omega, fun h => absurd h (by omega), fun j _ _ => by simp [byteN]⟩, fun h => absurd h (by omega), fun W' hB => ?_⟩
    obtain ⟨fuel2, hf2⟩ := hh
    exact ⟨fuel2, by
      cases fuel2 with
      | zero => simp [DataW.trod] at hf2
      | succ m => simp [DataW.trod, underBs, Value.cells]⟩
  · simp [Value.cells] at hcs
    obtain ⟨rfl, rfl, rfl⟩ := hcs
    simp only [Prod.mk.injEq] at hx
    obtain ⟨rfl, rfl⟩ := hx
    simp only [if_true] at hlen
    have hw : ∀ i, i < zs.length → 0 ≤ zs.getD i 0 ∧ zs.getD i 0 < 256 := by
      intro i hi
      have := bounds_u8 (hwf (zs.getD i 0) (by simp [List.getD, hi]))
      omega
    obtain ⟨f, qf⟩ : ∃ f : Nat → Nat, f = fun i => if i < n then (zs.getD i 0).toNat else 0 := ⟨_, rfl⟩
    have hf256 : ∀ i, f i < 256 := by
      intro i
      rw [qf]
      simp only
      split
      · have := hw i (by omega); omega
      · omega
    have hfi : ∀ i, i < n → ((f i : Nat) : Int) = zs.getD i 0 := by
      intro i hi
      rw [qf]
      simp only [hi, if_true]
      have := hw i (by omega); omega
    have hbyte : ∀ j, j < 32 → byteN (numOf f 32) j = f j := fun j hj => numOf_byte f hf256 32 j hj
    have hcj : ∀ j, j < n → j < 32 → W.cell? (a.add j) = some (byV (numOf f 32) j) := by
      intro j h1 h2
      rw [hcell j (by omega)]
      unfold byV
      rw [hbyte j h2, hfi j h1]
    refine ⟨some a, n, cap, numOf f 32, rfl, hle, ⟨numOf_lt f hf256 32, ?_, ?_⟩, ?_, ?_⟩
    · intro hn
      have h0 := hcell 0 (by omega)
      have hs : a = ⟨a.block, a.off, none⟩ := by
        have := spot_none h0
        have e : a.add 0 = a := rfl
        rw [e] at this; exact this
      have hbl := block_of_cell h0
      rw [block_add] at hbl
      refine ⟨a.block, a.off, congrArg some hs, hbl, fun j h1 h2 => ?_⟩
      have := hcj j h1 h2
      rw [hs, Addr.add_mid] at this
      exact this
    · intro j h1 h2
      rw [hbyte j h2, qf]
      simp only
      rw [if_neg (by omega)]
    · intro hn
      subst hn
      have h0 := hcell 0 (by omega)
      have hs : a = ⟨a.block, a.off, none⟩ := by
        have := spot_none h0
        have e : a.add 0 = a := rfl
        rw [e] at this; exact this
      obtain ⟨b, o, s⟩ := a
      simp only [Addr.mk.injEq] at hs
      obtain ⟨_, _, rfl⟩ := hs
      have hc : ∀ j, j < 32 → W.cell? ⟨b, o + j, none⟩ = some (byV (numOf f 32) j) := by
        intro j hj
        have := hcj j hj hj
        rw [Addr.add_mid] at this
        exact this
      have hc0 := hc 0 (by omega)
      unfold World.cell? at hc0
      refine ⟨b, o, rfl, ?_⟩
      cases hbk : W.heap[b]? with
      | none => rw [hbk] at hc0; cases hc0
      | some ob =>
        cases ob with
        | cells cs t fr =>
          refine ⟨cs, t, fr, hbk, fun i hi => ⟨?_, ?_⟩⟩
          · have := hc i hi
            unfold World.cell? at this
            rw [hbk] at this
            simpa using this
          · have hfr := hfz b (o + i) (by
              simp only [MemPlace.row, List.mem_map, List.mem_range]
              exact ⟨i, by omega, rfl⟩)
            unfold World.frozen? at hfr
            rw [hbk] at hfr
            simpa using hfr
        | _ => rw [hbk] at hc0; cases hc0
    · intro W' hB
      refine ⟨2, ?_⟩
      have hcap : 0 < zs.length → a.block < W.heap.size := fun h0 => by
        have := block_of_cell (hcell 0 h0)
        rwa [block_add] at this
      exact shut_ints 0 underBs under8 cells8 hb hle hmax (by
        rw [hlen]
        by_cases hz : 0 < cap
        · rw [decide_eq_true (hcap (by omega))]; rfl
        · split <;> omega) (fun i hi => by
          rw [← hcell i hi]
          exact hB.cell (by rw [block_add]; exact hcap (by omega))) hwf
end

section
open Go.ChangeShapes Go.WideShapes Go.ChangeAt Go.RowKit
set_option maxRecDepth 100000 in
theorem fnExactPointSetBytes_laid {W : World} (h : laidMetH Tryd.prog Rows.fnExactPointSetBytesRow.laid W) : Var 1 z5 W.heap.size W ∧ Var 2 o5 W.heap.size W ∧ Var 0 i5 W.heap.size W := by
  rw [MakeChecks.laidMetH_plain _ _ _ (by kernel_rfl)] at h
  obtain ⟨ps, ⟨g0, t0, cs0, f0, q0, r0, hg0, ht0, hv0, hd0, ⟨g1, t1, cs1, f1, q1, r1, hg1, ht1, hv1, hd1, ⟨g2, t2, cs2, f2, q2, r2, hg2, ht2, hv2, hd2, hlast, hp2⟩, hp1⟩, hp0⟩, _, hfr⟩ := h
  obtain rfl := Option.some.inj ((show Tryd.prog.globalNamed "loop.example/pub-g03328/pub/field.feZero" = some 1 by kernel_rfl).symm.trans hg0)
  obtain rfl := Option.some.inj ((show (Tryd.prog.globals[1]?).map (·.type) = some 68 by kernel_rfl).symm.trans ht0)
  obtain rfl := Option.some.inj ((show Tryd.prog.globalNamed "loop.example/pub-g03328/pub/field.feOne" = some 2 by kernel_rfl).symm.trans hg1)
  obtain rfl := Option.some.inj ((show (Tryd.prog.globals[2]?).map (·.type) = some 68 by kernel_rfl).symm.trans ht1)
  obtain rfl := Option.some.inj ((show Tryd.prog.globalNamed "loop.example/pub-g03328/pub/field.sqrtM1" = some 0 by kernel_rfl).symm.trans hg2)
  obtain rfl := Option.some.inj ((show (Tryd.prog.globals[0]?).map (·.type) = some 68 by kernel_rfl).symm.trans ht2)
  have hin0 : ∀ x, x ∈ q0 → x ∈ ps := by
    intro x hx
    rw [hp0]
    simp [hx]
  have hD0 := laid_el 0 0 0 0 0 hg0 hv0 hd0 (fun b off hm => (hfr b off (hin0 _ hm)).1)
  have hin1 : ∀ x, x ∈ q1 → x ∈ ps := by
    intro x hx
    rw [hp0, hp1]
    simp [hx]
  have hD1 := laid_el 1 0 0 0 0 hg1 hv1 hd1 (fun b off hm => (hfr b off (hin1 _ hm)).1)
  have hin2 : ∀ x, x ∈ q2 → x ∈ ps := by
    intro x hx
    rw [hp0, hp1, hp2]
    simp [hx]
  have hD2 := laid_el 1718705420411056 234908883556509 2233514472574048 2117202627021982 765476049583133 hg2 hv2 hd2 (fun b off hm => (hfr b off (hin2 _ hm)).1)
  exact ⟨hD0, hD1, hD2⟩
theorem fnExactPointSetBytes_met (os : Os) (args : Array Value) : laidMetH Tryd.prog Rows.fnExactPointSetBytesRow.laid ((World.doorLaid Tryd.prog 400 os).forCall (fun _ _ => 0) ⟨#[], args, []⟩).memory :=
  laidMetH_of_parts3 (fuel := 8) (laidMet_of_run' 8 (by kernel_rfl) (by kernel_rfl)) (by kernel_rfl) (by kernel_rfl)
set_option maxRecDepth 100000 in
theorem fnExactPointSetBytes_lifted (os : Os) (started : os.Started) (H : Type) (enc : TypeId × Value → H) :
    ReturnsInHanded {} Tryd.checked os 4 .any (fun w args => (Rows.fnExactPointSetBytesSpec.pre enc Tryd.prog Tryd.f4 [] false w args ∧ laidMetH Tryd.prog Rows.fnExactPointSetBytesRow.laid w) ∧ sizedMet enc Tryd.prog Tryd.f4 (OpenSpec.ofChange Rows.fnExactPointSetBytesSpec) false w args)
      (Rows.fnExactPointSetBytesSpec.post enc Tryd.prog Tryd.f4 false true false false) := by
  refine returnsInHanded_of_change_and (C := Tryd.checked) (X := fun w _ => laidMetH Tryd.prog Rows.fnExactPointSetBytesRow.laid w) (fun _ _ _ hh h => h.of_heap hh) Tryd.own started (by kernel_rfl) Tryd.func4
    (ChangeSpec.witness_shaped (enc := enc) (C := Tryd.checked) (os := os) (X := fun w _ => laidMetH Tryd.prog Rows.fnExactPointSetBytesRow.laid w) false (World.doorLaid Tryd.prog 400 os) #[.agg #[.int .u8 0, .int .u8 0, .int .u8 0, .int .u8 0, .int .u8 0, .int .u8 0, .int .u8 0, .int .u8 0, .int .u8 0, .int .u8 0, .int .u8 0, .int .u8 0, .int .u8 0, .int .u8 0, .int .u8 0, .int .u8 0, .int .u8 0, .int .u8 0, .int .u8 0, .int .u8 0, .int .u8 0, .int .u8 0, .int .u8 0, .int .u8 0, .int .u8 0, .int .u8 0, .int .u8 0, .int .u8 0, .int .u8 0, .int .u8 0, .int .u8 0, .int .u8 0], .slice none 0 0] 8 rfl (World.shaped_of_RefB (by kernel_rfl) (by kernel_rfl)) (by kernel_rfl) (by kernel_rfl) (by kernel_rfl) (fnExactPointSetBytes_met os _)) ?_
  intro W base args ds gs before hval0 hW _ _ hL _
  have hval : ∀ (j : Nat) t v, Tryd.f4.params[j]? = some t → args[j]? = some v → Value.okWide Tryd.prog W .any base t v := hval0
  have hW' := hW
  obtain ⟨p, q, hA0, hV, rfl, hfz, hnd⟩ := hW
  have hA : DataW.TrodAll enc Tryd.prog W 0 (fun _ => true) true Tryd.f4.params.toList args.toList ds p := hA0
  rw [Tryd.params4] at hA hval
  obtain ⟨v0, v1, d0, d1, p0, p1, rfl, rfl, rfl, h0, h1⟩ := trodAll_two hA
  obtain ⟨X, bX, rfl, rfl, sX⟩ := open32 (hval 0 22 v0 rfl rfl) h0
  obtain ⟨sl, n, cap, M, rfl, hcapY, hsrcY, hrowY, sY⟩ := openBytes (hval 1 26 v1 rfl rfl) h1 (fun b off hm => hfz b off (by simp [hm]))
  clear hA0 hval0 hA
  have hVV : DataW.TrodVars enc Tryd.prog W (fun _ => true) ["loop.example/pub-g03328/pub/field.feOne", "loop.example/pub-g03328/pub/field.sqrtM1", "loop.example/pub-g03328/pub/field.feZero"] gs q := hV
  have hVs := fun W' (hB : Below W.heap.size W W') => vars_stay hB (ns := ["loop.example/pub-g03328/pub/field.feOne", "loop.example/pub-g03328/pub/field.sqrtM1", "loop.example/pub-g03328/pub/field.feZero"]) (gs := gs) (q := q) (by
    intro n hn g t hg ht
    simp only [List.mem_cons, List.not_mem_nil, or_false] at hn
    rcases hn with rfl | rfl | rfl
    · obtain rfl := Option.some.inj ((show Tryd.prog.globalNamed "loop.example/pub-g03328/pub/field.feOne" = some 2 by kernel_rfl).symm.trans hg)
      obtain rfl := Option.some.inj ((show (Tryd.prog.globals[2]?).map (·.type) = some 68 by kernel_rfl).symm.trans ht)
      exact ⟨by kernel_rfl, of_decide_eq_true (by kernel_rfl)⟩
    · obtain rfl := Option.some.inj ((show Tryd.prog.globalNamed "loop.example/pub-g03328/pub/field.sqrtM1" = some 0 by kernel_rfl).symm.trans hg)
      obtain rfl := Option.some.inj ((show (Tryd.prog.globals[0]?).map (·.type) = some 68 by kernel_rfl).symm.trans ht)
      exact ⟨by kernel_rfl, of_decide_eq_true (by kernel_rfl)⟩
    · obtain rfl := Option.some.inj ((show Tryd.prog.globalNamed "loop.example/pub-g03328/pub/field.feZero" = some 1 by kernel_rfl).symm.trans hg)
      obtain rfl := Option.some.inj ((show (Tryd.prog.globals[1]?).map (·.type) = some 68 by kernel_rfl).symm.trans ht)
      exact ⟨by kernel_rfl, of_decide_eq_true (by kernel_rfl)⟩) hVV
  obtain ⟨y0, y1, y2, hgs⟩ := list_len3 (trodVars_len hVV)
  subst hgs
  obtain ⟨hD0, hD1, hD2⟩ := fnExactPointSetBytes_laid hL
  refine (PtSB_walk X bX sl n cap M hcapY W.heap.size W hD0 hD2 hD1 hsrcY hrowY).mono fun e W' ⟨he, hB⟩ => ?_
  subst he
  exact ⟨_, rfl, _, _, _, [], _, q, hW', trodAll_mk1 (shut_bool (by kernel_rfl) true), trodAll_mk2 (sX W' _) (sY W' hB), hVs W' hB, hB.frame _, fun h => by cases h⟩
theorem fnExactPointSetBytes_holds : Rows.FnExactPointSetBytesSaid :=
  OpenClaim.holds_of_wide 4 Tryd.f4 rfl rfl rfl rfl rfl rfl rfl ⟨rfl, rfl, rfl, rfl, rfl⟩ rfl rfl rfl rfl rfl (by kernel_rfl) Tryd.func4 (by kernel_rfl)
    (of_decide_eq_true (by kernel_rfl)) (by unfold Func.isWrapper; first | (rw [if_pos (by decide +kernel)]; kernel_rfl) | (rw [if_neg (by decide +kernel)]; exact ⟨rfl, rfl⟩))
    (fun os started H enc _ => fnExactPointSetBytes_lifted os started H enc)
theorem fnExactPointSetBytes_card : Rows.FnExactPointSetBytesCardSaid :=
  Claim7.holds_tied_plain_at .later [] [.widerDeep, .widerDeep, .widerDeep] true Rows.fnExactPointSetBytesCard.stood.harness false
    fnExactPointSetBytes_holds (fun _ h => by cases h) (by kernel_rfl) (fun _ h => by cases h) fnExactPointSetBytes_row_tie rfl ⟨rfl, rfl⟩ (by kernel_rfl) rfl
    (fun f fn hf hfn => by
      obtain rfl : f = 4 := Option.some.inj ((show Tryd.prog.funcNamed "loop.example/pub-g03328/laws.FnExactPointSetBytes" = some 4 by kernel_rfl).symm.trans hf) |>.symm
      obtain rfl : fn = Tryd.f4 := (Option.some.inj (Tryd.func4.symm.trans hfn)).symm
      exact ⟨by kernel_rfl, fun j t ht => by
        rw [Tryd.params4] at ht
        have h3 : t = 22 ∨ t = 26 := by
          rcases j with _ | _ | j
          · simp at ht; subst ht; simp
          · simp at ht; subst ht; simp
          · simp at ht
        rcases h3 with rfl | rfl
        · exact (show Tryd.prog.wantsStandIn 22 = false by kernel_rfl)
        · exact (show Tryd.prog.wantsStandIn 26 = false by kernel_rfl)⟩)
    (by kernel_rfl)
end

end Go.Proofs.YtcenlinpbpbpoaaDoor
