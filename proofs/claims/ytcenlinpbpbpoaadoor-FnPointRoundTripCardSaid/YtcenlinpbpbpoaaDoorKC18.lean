/- laws.FnPointRoundTrip returns true for all x, feZero, feOne and sqrtM1 being laid by the program's text. -/
import Derived.BigRegion
import Derived.ChangeBears2
import Derived.ChangeKeysEq
import Derived.ChangeVars
import Derived.Deep.DeepCutAuto
import Derived.Deep.Draws
import Derived.Deep.Fields
import Derived.Deep.MidRow
import Derived.Deep.Quiet
import Derived.Deep.RegionHeld3
import Derived.Deep.WholeRow
import Derived.Great.BuildSlice
import Derived.LaidMore
import Derived.Laws.AppendOwn
import Derived.Laws.Bits64b
import Derived.Laws.CopyOwn
import Derived.Laws.CopyRow
import Derived.Laws.Externs
import Derived.Laws.StructEq
import Derived.Laws.Tables
import Derived.Lib.Hide
import Derived.LoopTactic
import Derived.OpenShut
import Derived.ProofKit
import Derived.StillTailTactics
import Derived.Stop.Joined
import Derived.Test.YtcenlinpbpbpoaaDoorCards
import Derived.Test.YtcenlinpbpbpoaaDoorProg
import Derived.Test.YtcenlinpbpbpoaaDoorRows
import Derived.Test.YtcenlinpbpbpoaaDoorTie
import Derived.WalkKit
import Derived.WalkLawsBesides
import Derived.WalkSpells
import Derived.WideKeyArgs
import Derived.Test.YtcenlinpbpbpoaaDoorKC0
import Derived.Test.YtcenlinpbpbpoaaDoorKC10
import Derived.Test.YtcenlinpbpbpoaaDoorKC11
import Derived.Test.YtcenlinpbpbpoaaDoorKC16
import Derived.Test.YtcenlinpbpbpoaaDoorKC2
import Derived.Test.YtcenlinpbpbpoaaDoorKC6
import Derived.Test.YtcenlinpbpbpoaaDoorKC7
import Derived.Test.YtcenlinpbpbpoaaDoorKC8
import Derived.Test.YtcenlinpbpbpoaaDoorKHF1
import Derived.Test.YtcenlinpbpbpoaaDoorKHF3
import Derived.Test.YtcenlinpbpbpoaaDoorKHGr
import Derived.Test.YtcenlinpbpbpoaaDoorKHPI
import Derived.Test.YtcenlinpbpbpoaaDoorKHPO
import Derived.Test.YtcenlinpbpbpoaaDoorKHPP
import Derived.Test.YtcenlinpbpbpoaaDoorKHPS
import Derived.Test.YtcenlinpbpbpoaaDoorKHS8
import Derived.Test.YtcenlinpbpbpoaaDoorKHSQ
import Derived.Test.YtcenlinpbpbpoaaDoorKHSQB
import Derived.Test.YtcenlinpbpbpoaaDoorKHSQN
import Derived.Test.YtcenlinpbpbpoaaDoorKHSRD
import Derived.Test.YtcenlinpbpbpoaaDoorKHU1
import Derived.Test.YtcenlinpbpbpoaaDoorKHUM
import Derived.Test.YtcenlinpbpbpoaaDoorKHUN
import Derived.Test.YtcenlinpbpbpoaaDoorKHUS
import Derived.Test.YtcenlinpbpbpoaaDoorKHUSR
import Derived.Test.YtcenlinpbpbpoaaDoorKHUSe
import Derived.Test.YtcenlinpbpbpoaaDoorKL0
import Derived.Test.YtcenlinpbpbpoaaDoorKL1
import Derived.Test.YtcenlinpbpbpoaaDoorKL2
import Derived.Test.YtcenlinpbpbpoaaDoorKL3
import Derived.Test.YtcenlinpbpbpoaaDoorKL4
namespace Go.Proofs.YtcenlinpbpbpoaaDoor
set_option maxRecDepth 4000
set_option linter.unusedSimpArgs false
set_option linter.unusedVariables false
section
open Go.RowKit
theorem two_new1 (w : World) (o o' : Obj) : ((w.alloc o).alloc o').drew.heap[w.heap.size + 1]? = some o' := by
  have := heap_new (w.alloc o) o'
  rw [alloc_size] at this
  exact this
end

section
open Go.RowKit
theorem iSet_some_somee (P Q : CP) (E : Nat) (HE : Hid (E = encN Q)) (N M xb xo cap : Nat) (lN : N < 256 ^ 32) (hN : Hid (decP N = some P)) (lM : M < 256 ^ 32) (hM : Hid (decP M = some Q)) (hcap : 32 ≤ cap) (B : Nat) (w : World) (hD0 : Var 1 z5 B w) (hD1 : Var 0 i5 B w) (hD2 : Var 2 o5 B w) (hx : Row w xb xo 32 (byV M)) :
    Calls Tryd.prog 13 #[.agg (arrC N), .slice (some ⟨xb, xo, none⟩) 32 cap] w fun e w' => e = .returned (.tuple #[.agg (arrC E), .bool true, .bool true]) ∧ Below w.heap.size w w' := by
  rw [HE.out]
  exact iSet_some_some N M xb xo cap P Q lN hN lM hM hcap B w hD0 hD1 hD2 hx
theorem iSet_some_nonee (P : CP) (E : Nat) (HE : Hid (E = encN P)) (N M xb xo cap : Nat) (lN : N < 256 ^ 32) (hN : Hid (decP N = some P)) (lM : M < 256 ^ 32) (hM : Hid (decP M = none)) (hcap : 32 ≤ cap) (B : Nat) (w : World) (hD0 : Var 1 z5 B w) (hD1 : Var 0 i5 B w) (hD2 : Var 2 o5 B w) (hx : Row w xb xo 32 (byV M)) :
    Calls Tryd.prog 13 #[.agg (arrC N), .slice (some ⟨xb, xo, none⟩) 32 cap] w fun e w' => e = .returned (.tuple #[.agg (arrC E), .bool false, .bool true]) ∧ Below w.heap.size w w' := by
  rw [HE.out]
  exact iSet_some_none N M xb xo cap P lN hN lM hM hcap B w hD0 hD1 hD2 hx
end

section
open Go.RowKit
theorem byte_step (x k : Nat) : x / 256 ^ k = 256 * (x / 256 ^ (k + 1)) + byteN x k := by
  unfold byteN
  rw [Nat.pow_succ, ← Nat.div_div_eq_div_mul]
  omega
theorem div_lt_of (x y k : Nat) (h : x / 256 ^ (k + 1) = y / 256 ^ (k + 1)) (hlt : x < y) (hne : ¬ byteN x k = byteN y k) : byteN x k < byteN y k := by
  have h1 := byte_step x k
  have h2 := byte_step y k
  have h3 : x / 256 ^ k ≤ y / 256 ^ k := Nat.div_le_div_right (Nat.le_of_lt hlt)
  rw [h] at h1
  omega
set_option maxHeartbeats 2000000 in
theorem lower_any (x y : Nat) (hx : x < 256 ^ 32) (hy : y < 256 ^ 32) (hlt : Hid (x < y)) (w : World) : Calls Tryd.prog 18 #[.agg (arrC x), .agg (arrC y)] w fun e w' => e = .returned (.bool true) ∧ Below w.heap.size w w' := by
  go_enter Tryd.func18, Tryd.ntmps18
  go_wp2
  refine wp_named ?_
  intro w1 e1
  have h0 : w1.heap[w.heap.size]? = some (.cells (arrC x) 22 (0, 0)) := by rw [e1]; exact heap_old _ (heap_new_at _ _ _ rfl)
  have h1 : w1.heap[w.heap.size + 1]? = some (.cells (arrC y) 22 (0, 0)) := by rw [e1]; exact heap_new_at _ _ _ (by simp only [alloc_size])
  have hB := Lib.hid (show Below w.heap.size w w1 by rw [e1]; exact below_alloc (below_alloc (Below.refl _ w) _) _)
  clear e1
  go_loopw [5] (fun i wr => ∃ k : Nat, k ≤ 32 ∧ i = .int .i64 ((k : Int) - 1) ∧ Hid (x / 256 ^ k = y / 256 ^ k) ∧ Hid (wr.heap[w.heap.size]? = some (.cells (arrC x) 22 (0, 0))) ∧ Hid (wr.heap[w.heap.size + 1]? = some (.cells (arrC y) 22 (0, 0))) ∧ Hid (Below w.heap.size w wr)) (fun i _ => (intOf i + 1).toNat)
  case atStart =>
    exact ⟨32, by omega, rfl, Lib.hid (by rw [Nat.div_eq_of_lt hx, Nat.div_eq_of_lt hy]), Lib.hid h0, Lib.hid h1, hB⟩
  case round =>
    obtain ⟨k, hk, rfl, He, H0, H1, HB⟩ := hrel
    rcases Nat.eq_zero_or_pos k with rfl | hpos
    · exfalso
      have h := He.out
      have h2 := hlt.out
      rw [Nat.pow_zero, Nat.div_one, Nat.div_one] at h
      omega
    · obtain ⟨j, rfl⟩ : ∃ j, k = j + 1 := ⟨k - 1, by omega⟩
      have c0 := (Row.ofArr H0.out).cell (i := j) (by omega)
      have c1 := (Row.ofArr H1.out).cell (i := j) (by omega)
      simp only [Nat.zero_add] at c0 c1
      unfold byV at c0 c1
      have b0 := byteN_lt x j
      have b1 := byteN_lt y j
      by_cases hb : byteN x j = byteN y j
      · have He2 : Hid (x / 256 ^ j = y / 256 ^ j) := Lib.hid (by rw [byte_step x j, byte_step y j, He.out, hb])
        rw [hb] at c0
        generalize byteN y j = Bj at c0 c1 b1
        clear hb b0
        go_wp2
        go_region
        go_wp2
        go_roundw
        case rel => exact ⟨j, by omega, by go_num, He2, H0, H1, Lib.hid (HB.out.drew)⟩
        case measure => simp [intOf]
      · have hl := div_lt_of x y j He.out hlt.out hb
        generalize byteN x j = Aj at *
        generalize byteN y j = Bj at *
        go_wp2
        go_region
        go_wp2
        go_region
        go_wp2
        go_ret
        exact ⟨by simp, HB.out.drew.drew⟩
end

section
open Go.RowKit
theorem p_lt : pF < 256 ^ 32 := by unfold pF; omega
end

section
open Go.RowKit
theorem prime_byte (i : Nat) (hi : i < 32) : byV pF i = if i = 31 then .int .u8 127 else if i = 0 then .int .u8 237 else .int .u8 255 := by
  have h : ∀ i : Fin 32, byteN pF i.val = if i.val = 31 then 127 else if i.val = 0 then 237 else 255 := by decide +kernel
  unfold byV
  rw [h ⟨i, hi⟩]
  simp only
  split
  · rfl
  · split <;> rfl
set_option maxHeartbeats 1000000 in
theorem prime_v (w : World) : Calls Tryd.prog 19 #[] w fun e w' => e = .returned (.agg (arrC pF)) ∧ Below w.heap.size w w' := by
  go_enter Tryd.func19, Tryd.ntmps19
  go_wp2_with (refine wpList_store_row rfl 22 _ _ rfl (w.heap.size + 1) zL rfl rfl 22 zL (two_new1 w _ _) info32 rfl zL_one ?_)
  obtain ⟨w1, hw1⟩ : ∃ u : World, u = ((w.alloc (.cells zL 22)).alloc (.cells zL 22)).setRow (w.heap.size + 1) zL := ⟨_, rfl⟩
  have h1 : w1.heap[w.heap.size + 1]? = some (.cells zL 22 (0, 0)) := by rw [hw1]; exact setRow_heap _ _ _ _ _ _ (two_new1 w _ _)
  have h0 : w1.heap[w.heap.size]? = some (.cells zL 22 (0, 0)) := by rw [hw1, setRow_other _ _ _ _ (by omega)]; exact two_new0 w _ _
  have hB := Lib.hid (show Below w.heap.size w w1 by rw [hw1]; exact below_setRow (((Below.refl _ w).alloc (Nat.le_refl _) _).alloc (by rw [alloc_size]; omega) _) (by omega) _)
  change Code.wp _ _ _ _ (((w.alloc (.cells zL 22)).alloc (.cells zL 22)).setRow (w.heap.size + 1) zL)
  rw [← hw1]
  clear hw1
  rw [zL_arrC] at h0 h1
  have hr := Lib.hid (Row.ofArr h1)
  have h0' := Lib.hid h0
  have h1' := Lib.hid h1
  have hlt1 := heap_lt h1
  clear h0 h1
  go_loopw [2] (fun i wr => ∃ k : Nat, k ≤ 32 ∧ i = .int .i64 (k : Int) ∧ Hid (Wr w1 wr (w.heap.size + 1) 0 32 (fun j => if j < k then .int .u8 255 else byV 0 j))) (fun i _ => 32 - (intOf i).toNat)
  case atStart =>
    exact ⟨0, by omega, rfl, Lib.hid ((Wr.start hr.out).congr fun i _ => by simp)⟩
  case round =>
    obtain ⟨k, hk, rfl, hw⟩ := hrel
    by_cases hlt : k < 32
    · have hf := (hw.out.row hr.out).frozen (i := k) (by omega)
      have hc := (hw.out.row hr.out).cell (i := k) (by omega)
      rw [if_neg (by omega)] at hc
      simp only [Nat.zero_add] at hf hc
      go_wp2
      go_roundw
      case rel =>
        refine ⟨k + 1, by omega, by go_num, Lib.hid ?_⟩
        have h9 := hw.out.set k (.int .u8 255) (by omega)
        rw [Nat.zero_add] at h9
        refine h9.congr fun j hj => ?_
        by_cases hjk : j = k
        · subst hjk
          rw [if_pos (by omega), if_pos rfl]
        · rw [if_neg hjk]
          by_cases h2 : j < k
          · rw [if_pos (by omega), if_pos h2]
          · rw [if_neg (by omega), if_neg h2]
      case measure => simp [intOf]; omega
    · have f0 := (hw.out.row hr.out).frozen (i := 0) (by omega)
      have c0 := (hw.out.row hr.out).cell (i := 0) (by omega)
      have f1 := (hw.out.row hr.out).frozen (i := 31) (by omega)
      have c1 := (hw.out.row hr.out).cell (i := 31) (by omega)
      simp only [Nat.zero_add] at f0 c0 f1 c1
      rw [if_pos (by omega)] at c0 c1
      go_upto_region 8 with (fail)
      refine wp_named ?_
      intro w2 e2
      have hw2 : Wr w1 w2 (w.heap.size + 1) 0 32 (byV pF) := by
        rw [e2]
        have h8 := (hw.out.set 0 (.int .u8 237) (by omega)).set 31 (.int .u8 127) (by omega)
        simp only [Nat.zero_add] at h8
        refine h8.congr fun j hj => ?_
        rw [prime_byte j hj]
        split
        · rfl
        · split
          · rfl
          · rw [if_pos (by omega)]
      clear e2 f0 c0 f1 c1
      have hl := hw2.arr h1'.out (arrC_size 0)
      have hs := (hw2.other _ (by omega) (by omega)).trans h0'.out
      have hBw := Lib.hid (hB.out.trans (hw2.below (B := w.heap.size) (by omega) hB.out.size))
      clear hw2
      go_wp2_with (first
        | ((with_reducible refine at_dst 12 ?_); refine wpList_load_row rfl 22 _ rfl (w.heap.size + 1) rfl 22 (arrC pF) (0, 0) _ hl under32 rfl (info32_of _ (arrC_size _)) ?_)
        | ((with_reducible refine at_store 0 ?_); refine wpList_store_row rfl 22 _ _ rfl (w.heap.size) (arrC pF) rfl rfl 22 (arrC 0) hs (info32_of _ (arrC_size _)) (by rw [arrC_size, arrC_size]) (arrC_one _) ?_))
      refine bodyPost_ret (results_cell_row rfl _ _ (w.heap.size) 22 (arrC pF) (0, 0) _ rfl (setRow_heap _ _ _ _ _ _ hs) under32 rfl (info32_of _ (arrC_size _))) rfl ⟨rfl, below_setRow hBw.out (by omega) _⟩
end

section
open Go.RowKit
theorem arr_low (N : Nat) (hN : N < 256 ^ 32) : (arrC N).setIfInBounds 31 (.int .u8 ((byteN N 31 % 128 : Nat) : Int)) = arrC (N % 57896044618658097711785492504343953926634992332820282019728792003956564819968) := by
  refine arr_ext _ _ (by simp [arrC_size]) fun i hi => ?_
  rw [Array.getElem?_setIfInBounds, low255 N i hi]
  by_cases e : i = 31
  · subst e; simp [arrC_size]
  · rw [if_neg (by omega), if_neg e]; exact arr_get _ i hi
theorem enc_low (P : CP) : encN P % 57896044618658097711785492504343953926634992332820282019728792003956564819968 = P.y.val := by
  have h := P.y.isLt
  unfold encN
  have hp : pF < 57896044618658097711785492504343953926634992332820282019728792003956564819968 := by unfold pF; omega
  split <;> omega
set_option maxHeartbeats 4000000 in
theorem PtRT_s (N : Nat) (P : CP) (lN : N < 256 ^ 32) (hN : Hid (decP N = some P)) (B : Nat) (w : World) (hD0 : Var 1 z5 B w) (hD1 : Var 0 i5 B w) (hD2 : Var 2 o5 B w) :
    Calls Tryd.prog 5 #[.agg (arrC N)] w fun e w' => e = .returned (.bool true) ∧ Below w.heap.size w w' := by
  have hBl := hD0.1
  obtain ⟨E0, qE0⟩ : ∃ u : Nat, u = encN (CP.zero) := ⟨_, rfl⟩
  have HE0 := Lib.hid qE0
  have lE0 : E0 < 256 ^ 32 := by rw [qE0]; exact encN_lt _
  clear qE0
  obtain ⟨E1, qE1⟩ : ∃ u : Nat, u = encN (P) := ⟨_, rfl⟩
  have HE1 := Lib.hid qE1
  have lE1 : E1 < 256 ^ 32 := by rw [qE1]; exact encN_lt _
  clear qE1
  go_enter Tryd.func5, Tryd.ntmps5
  go_wp2_with fail
  try simp only [Act.put]
  refine wp_named ?_
  intro w1 ew1
  have hs1 : w.heap.size + 1 ≤ w1.heap.size := by rw [ew1]; (try simp only [alloc_size, setRow_size]); omega
  replace h1 : w1.heap[w.heap.size]? = some (.cells (arrC N) 22 (0, 0)) := by rw [ew1]; exact (heap_new_at _ _ _ rfl)
  have hBw1 : Hid (Below w.heap.size w w1) := Lib.hid (by rw [ew1]; exact (below_alloc (Below.refl _ w) _))
  clear ew1
  go_cut [3, 4, 5] (fun s3 s4 s5 wx => ∃ g3 : Nat, s3 = .pointer (some ⟨g3, 0, none⟩) ∧ Hid (w1.heap.size ≤ g3) ∧ Hid (wx.heap[g3]? = some (.cells (arrC E1) 22 (0, 0))) ∧ s4 = .bool true ∧ s5 = .bool true ∧ Hid (wx.heap[w.heap.size]? = some (.cells (arrC N) 22 (0, 0))) ∧ Hid (Below w.heap.size w wx) ∧ Hid (w1.heap.size ≤ wx.heap.size))
  case first =>
    refine wp_region_noPanic ?_
    refine wp_region_held_drew (S := Keep (w1.heap.size) w1) (by kernel_rfl) (Keep.start _ _) ?_
    intro hS
    obtain ⟨w2, ed⟩ : ∃ u : World, u = w1.drew := ⟨_, rfl⟩
    rw [← ed] at hS ⊢
    have xh1 : w2.heap[w.heap.size]? = some (.cells (arrC N) 22 (0, 0)) := by rw [ed]; exact h1
    clear ed
    have hSz := hS.size
    clear xh1
    refine takeAtK (i := 1) (v := .agg (arrC N)) rfl (some 12) rfl (take_row rfl _ _ rfl (w.heap.size) rfl _ _ _ h1 (Nat.ne_of_lt (heap_lt h1)) under32 rfl (info32_of (arrC N) (arrC_size _))) hS ?_
    simp only [Act.put, sia, sc0, scs]
    refine wpAnyH_ready (rs := [0, 8]) (by kernel_rfl) (by simp) ?_
    refine (AllReadyH.cons rfl ?_ (AllReadyH.cons rfl ?_ AllReadyH.nil))
    · intro K hK
      refine ready_call rfl (some 11) rfl 15 #[] (by go_simp) ?_
      refine (iIdentitye E0 HE0 B _ (hD0.later (hBw1.out.trans (hS.below (by omega) hBw1.out.size))) (hD1.later (hBw1.out.trans (hS.below (by omega) hBw1.out.size))) (hD2.later (hBw1.out.trans (hS.below (by omega) hBw1.out.size)))).mono ?_
      rintro e w3 ⟨rfl, hC⟩
      refine ⟨_, rfl, ?_⟩
      simp only [Act.put, sia, sc0, scs]
      have hS := hS.call hC
      have hz3 := hC.size
      clear hC
      refine hK.out _ _ hS ?_
      clear hK K
      intro _
      have hSz := hS.size
      refine wpAnyH_ready (rs := [2, 8]) (by kernel_rfl) (by simp) ?_
      refine (AllReadyH.cons rfl ?_ (AllReadyH.cons rfl ?_ AllReadyH.nil))
      · intro K hK
        refine ready_call rfl (some 13) rfl 16 #[.agg (arrC N)] (by go_simp) ?_
        refine (slice_any N _).mono ?_
        rintro e w4 ⟨b1_2, c1_2, rfl, hcap1_2, hlb1_2, hC, xhr1_2⟩
        refine ⟨_, rfl, ?_⟩
        simp only [Act.put, sia, sc0, scs]
        have hS := hS.call hC
        have hz4 := hC.size
        clear hC
        have hlb1_2 : w3.heap.size ≤ b1_2 := by (try simp only [alloc_size, setRow_size] at hlb1_2); omega
        have hub1_2 := xhr1_2.lt
        refine hK.out _ _ hS ?_
        clear hK K
        intro _
        have hSz := hS.size
        refine wpAnyH_ready (rs := [3, 8]) (by kernel_rfl) (by simp) ?_
        refine (AllReadyH.cons rfl ?_ (AllReadyH.cons rfl ?_ AllReadyH.nil))
        · intro K hK
          refine ready_call rfl (some 14) rfl 13 #[.agg (arrC E0), .slice (some ⟨b1_2, 0, none⟩) 32 c1_2] (by go_simp) ?_
          refine (iSet_some_somee (CP.zero) P E1 HE1 E0 N (b1_2) (0) (c1_2)  lE0 (Lib.hid (by rw [HE0.out]; exact dec_enc _)) lN hN hcap1_2 B _ (hD0.later (hBw1.out.trans (hS.below (by omega) hBw1.out.size))) (hD1.later (hBw1.out.trans (hS.below (by omega) hBw1.out.size))) (hD2.later (hBw1.out.trans (hS.below (by omega) hBw1.out.size))) xhr1_2).mono ?_
          rintro e w5 ⟨rfl, hC⟩
          refine ⟨_, rfl, ?_⟩
          simp only [Act.put, sia, sc0, scs]
          have xhr1_2 : Row w5 (b1_2) (0) 32 (byV N) := (Row.below_all xhr1_2 hC)
          have hS := hS.call hC
          have hz5 := hC.size
          clear hC
          refine hK.out _ _ hS ?_
          clear hK K
          intro _
          have hSz := hS.size
          refine takeAtK (i := 4) (v := .tuple #[.agg (arrC E1), .bool true, .bool true]) rfl (some 10) rfl (take_run rfl (fun _ _ => by go_simp)) hS ?_
          simp only [Act.put, sia, sc0, scs]
          refine takeAtK (i := 5) (v := .agg (arrC E1)) rfl (some 15) rfl (take_run rfl (fun _ _ => by go_simp)) hS ?_
          simp only [Act.put, sia, sc0, scs]
          refine takeAtK (i := 6) (v := .bool true) rfl (some 16) rfl (take_run rfl (fun _ _ => by go_simp)) hS ?_
          simp only [Act.put, sia, sc0, scs]
          refine takeAtK (i := 7) (v := .bool true) rfl (some 17) rfl (take_run rfl (fun _ _ => by go_simp)) hS ?_
          simp only [Act.put, sia, sc0, scs]
          refine wpAnyH_ready (rs := [8]) (by kernel_rfl) (by simp) ?_
          refine (AllReadyH.cons rfl ?_ AllReadyH.nil)
          intro K hK
          refine ready_run rfl (some 3) rfl (.pointer (some ⟨w5.heap.size, 0, none⟩)) (w5.alloc (.cells zL 22)) (by go_simp; try rfl) ?_
          simp only [Act.put, sia, sc0, scs]
          obtain ⟨w6, ea⟩ : ∃ u : World, u = w5.alloc (.cells zL 22) := ⟨_, rfl⟩
          rw [← ea]
          have hS := hS.alloc (.cells zL 22)
          rw [← ea] at hS
          have hz6 : w5.heap.size + 1 ≤ w6.heap.size := by rw [ea, alloc_size]; omega
          have hy6 : w1.heap.size ≤ w5.heap.size := hSz
          have xh3 : w6.heap[w5.heap.size]? = some (.cells (zL) 22 (0, 0)) := by rw [ea]; exact heap_new_at _ _ _ rfl
          clear ea
          refine hK.out _ _ hS ?_
          clear hK K
          intro _
          have hSz := hS.size
          refine wpAnyH_ready (rs := [9]) (by kernel_rfl) (by simp) ?_
          refine (AllReadyH.cons rfl ?_ AllReadyH.nil)
          intro K hK
          rw [if_pos (by rfl)]
          refine wp_store_row 22 _ _ rfl (w5.heap.size) (arrC E1) rfl rfl 22 (zL) xh3 (info32_of (arrC E1) (arrC_size _)) (zL_size.trans (arrC_size _).symm) (arrC_one _) ?_
          refine put_at (none) rfl ?_
          simp only [Act.put, sia, sc0, scs]
          have xh3 : (w6.setRow (w5.heap.size) (arrC E1)).heap[w5.heap.size]? = some (.cells (arrC E1) 22 (0, 0)) := (setRow_heap _ _ _ _ _ _ xh3)
          have hS := hS.storeNew (arrC E1) (show w1.heap.size ≤ w5.heap.size by omega)
          generalize w6.setRow (w5.heap.size) (arrC E1) = w7 at *
          refine hK.out _ _ hS ?_
          clear hK K
          intro _
          have hSz := hS.size
          refine takeAtK (i := 10) (v := .bool true) rfl (some 4) rfl (take_run rfl (fun _ _ => by go_simp)) hS ?_
          simp only [Act.put, sia, sc0, scs]
          refine takeAtK (i := 11) (v := .bool true) rfl (some 5) rfl (take_run rfl (fun _ _ => by go_simp)) hS ?_
          simp only [Act.put, sia, sc0, scs]
          refine wpAnyH_done (by kernel_rfl) ?_ _
          refine NoPanic.normal ?_
          have hsz := hS.size
          have h1 : w7.heap[w.heap.size]? = some (.cells (arrC N) 22 (0, 0)) := hS.old h1 (Nat.ne_of_lt (heap_lt h1))
          have h3 := xh3
          have hBw7 : Hid (Below w.heap.size w w7) := Lib.hid (hBw1.out.trans (hS.below (by omega) hBw1.out.size))
          clear hS
          go_wp2_with fail
          go_meet
          exact ⟨w5.heap.size, rfl, Lib.hid (show w1.heap.size ≤ w5.heap.size by omega), Lib.hid h3, rfl, rfl, Lib.hid h1, Lib.hid hBw7.out, Lib.hid (show w1.heap.size ≤ w7.heap.size by omega)⟩
        · intro K hK
          refine ready_run rfl (some 3) rfl (.pointer (some ⟨w4.heap.size, 0, none⟩)) (w4.alloc (.cells zL 22)) (by go_simp; try rfl) ?_
          simp only [Act.put, sia, sc0, scs]
          obtain ⟨w9, ea⟩ : ∃ u : World, u = w4.alloc (.cells zL 22) := ⟨_, rfl⟩
          rw [← ea]
          have xhr1_2 : Row w9 (b1_2) (0) 32 (byV N) := by rw [ea]; exact (Row.alloc xhr1_2 _)
          have hS := hS.alloc (.cells zL 22)
          rw [← ea] at hS
          have hz9 : w4.heap.size + 1 ≤ w9.heap.size := by rw [ea, alloc_size]; omega
          have hy9 : w1.heap.size ≤ w4.heap.size := hSz
          have xh3 : w9.heap[w4.heap.size]? = some (.cells (zL) 22 (0, 0)) := by rw [ea]; exact heap_new_at _ _ _ rfl
          clear ea
          refine hK.out _ _ hS ?_
          clear hK K
          intro _
          have hSz := hS.size
          refine wpAnyH_ready (rs := [3]) (by kernel_rfl) (by simp) ?_
          refine (AllReadyH.cons rfl ?_ AllReadyH.nil)
          intro K hK
          refine ready_call rfl (some 14) rfl 13 #[.agg (arrC E0), .slice (some ⟨b1_2, 0, none⟩) 32 c1_2] (by go_simp) ?_
          refine (iSet_some_somee (CP.zero) P E1 HE1 E0 N (b1_2) (0) (c1_2)  lE0 (Lib.hid (by rw [HE0.out]; exact dec_enc _)) lN hN hcap1_2 B _ (hD0.later (hBw1.out.trans (hS.below (by omega) hBw1.out.size))) (hD1.later (hBw1.out.trans (hS.below (by omega) hBw1.out.size))) (hD2.later (hBw1.out.trans (hS.below (by omega) hBw1.out.size))) xhr1_2).mono ?_
          rintro e w10 ⟨rfl, hC⟩
          refine ⟨_, rfl, ?_⟩
          simp only [Act.put, sia, sc0, scs]
          have xhr1_2 : Row w10 (b1_2) (0) 32 (byV N) := (Row.below_all xhr1_2 hC)
          have xh3 : w10.heap[w4.heap.size]? = some (.cells (zL) 22 (0, 0)) := (heap_call hC xh3)
          have hS := hS.call hC
          have hz10 := hC.size
          clear hC
          refine hK.out _ _ hS ?_
          clear hK K
          intro _
          have hSz := hS.size
          refine takeAtK (i := 4) (v := .tuple #[.agg (arrC E1), .bool true, .bool true]) rfl (some 10) rfl (take_run rfl (fun _ _ => by go_simp)) hS ?_
          simp only [Act.put, sia, sc0, scs]
          refine takeAtK (i := 5) (v := .agg (arrC E1)) rfl (some 15) rfl (take_run rfl (fun _ _ => by go_simp)) hS ?_
          simp only [Act.put, sia, sc0, scs]
          refine takeAtK (i := 6) (v := .bool true) rfl (some 16) rfl (take_run rfl (fun _ _ => by go_simp)) hS ?_
          simp only [Act.put, sia, sc0, scs]
          refine takeAtK (i := 7) (v := .bool true) rfl (some 17) rfl (take_run rfl (fun _ _ => by go_simp)) hS ?_
          simp only [Act.put, sia, sc0, scs]
          refine wpAnyH_ready (rs := [9]) (by kernel_rfl) (by simp) ?_
          refine (AllReadyH.cons rfl ?_ AllReadyH.nil)
          intro K hK
          rw [if_pos (by rfl)]
          refine wp_store_row 22 _ _ rfl (w4.heap.size) (arrC E1) rfl rfl 22 (zL) xh3 (info32_of (arrC E1) (arrC_size _)) (zL_size.trans (arrC_size _).symm) (arrC_one _) ?_
          refine put_at (none) rfl ?_
          simp only [Act.put, sia, sc0, scs]
          have xh3 : (w10.setRow (w4.heap.size) (arrC E1)).heap[w4.heap.size]? = some (.cells (arrC E1) 22 (0, 0)) := (setRow_heap _ _ _ _ _ _ xh3)
          have hS := hS.storeNew (arrC E1) (show w1.heap.size ≤ w4.heap.size by omega)
          generalize w10.setRow (w4.heap.size) (arrC E1) = w11 at *
          refine hK.out _ _ hS ?_
          clear hK K
          intro _
          have hSz := hS.size
          refine takeAtK (i := 10) (v := .bool true) rfl (some 4) rfl (take_run rfl (fun _ _ => by go_simp)) hS ?_
          simp only [Act.put, sia, sc0, scs]
          refine takeAtK (i := 11) (v := .bool true) rfl (some 5) rfl (take_run rfl (fun _ _ => by go_simp)) hS ?_
          simp only [Act.put, sia, sc0, scs]
          refine wpAnyH_done (by kernel_rfl) ?_ _
          refine NoPanic.normal ?_
          have hsz := hS.size
          have h1 : w11.heap[w.heap.size]? = some (.cells (arrC N) 22 (0, 0)) := hS.old h1 (Nat.ne_of_lt (heap_lt h1))
          have h3 := xh3
          have hBw11 : Hid (Below w.heap.size w w11) := Lib.hid (hBw1.out.trans (hS.below (by omega) hBw1.out.size))
          clear hS
          go_wp2_with fail
          go_meet
          exact ⟨w4.heap.size, rfl, Lib.hid (show w1.heap.size ≤ w4.heap.size by omega), Lib.hid h3, rfl, rfl, Lib.hid h1, Lib.hid hBw11.out, Lib.hid (show w1.heap.size ≤ w11.heap.size by omega)⟩
      · intro K hK
        refine ready_run rfl (some 3) rfl (.pointer (some ⟨w3.heap.size, 0, none⟩)) (w3.alloc (.cells zL 22)) (by go_simp; try rfl) ?_
        simp only [Act.put, sia, sc0, scs]
        obtain ⟨w13, ea⟩ : ∃ u : World, u = w3.alloc (.cells zL 22) := ⟨_, rfl⟩
        rw [← ea]
        have hS := hS.alloc (.cells zL 22)
        rw [← ea] at hS
        have hz13 : w3.heap.size + 1 ≤ w13.heap.size := by rw [ea, alloc_size]; omega
        have hy13 : w1.heap.size ≤ w3.heap.size := hSz
        have xh3 : w13.heap[w3.heap.size]? = some (.cells (zL) 22 (0, 0)) := by rw [ea]; exact heap_new_at _ _ _ rfl
        clear ea
        refine hK.out _ _ hS ?_
        clear hK K
        intro _
        have hSz := hS.size
        refine wpAnyH_ready (rs := [2]) (by kernel_rfl) (by simp) ?_
        refine (AllReadyH.cons rfl ?_ AllReadyH.nil)
        intro K hK
        refine ready_call rfl (some 13) rfl 16 #[.agg (arrC N)] (by go_simp) ?_
        refine (slice_any N _).mono ?_
        rintro e w14 ⟨b1_2, c1_2, rfl, hcap1_2, hlb1_2, hC, xhr1_2⟩
        refine ⟨_, rfl, ?_⟩
        simp only [Act.put, sia, sc0, scs]
        have xh3 : w14.heap[w3.heap.size]? = some (.cells (zL) 22 (0, 0)) := (heap_call hC xh3)
        have hS := hS.call hC
        have hz14 := hC.size
        clear hC
        have hlb1_2 : w13.heap.size ≤ b1_2 := by (try simp only [alloc_size, setRow_size] at hlb1_2); omega
        have hub1_2 := xhr1_2.lt
        refine hK.out _ _ hS ?_
        clear hK K
        intro _
        have hSz := hS.size
        refine wpAnyH_ready (rs := [3]) (by kernel_rfl) (by simp) ?_
        refine (AllReadyH.cons rfl ?_ AllReadyH.nil)
        intro K hK
        refine ready_call rfl (some 14) rfl 13 #[.agg (arrC E0), .slice (some ⟨b1_2, 0, none⟩) 32 c1_2] (by go_simp) ?_
        refine (iSet_some_somee (CP.zero) P E1 HE1 E0 N (b1_2) (0) (c1_2)  lE0 (Lib.hid (by rw [HE0.out]; exact dec_enc _)) lN hN hcap1_2 B _ (hD0.later (hBw1.out.trans (hS.below (by omega) hBw1.out.size))) (hD1.later (hBw1.out.trans (hS.below (by omega) hBw1.out.size))) (hD2.later (hBw1.out.trans (hS.below (by omega) hBw1.out.size))) xhr1_2).mono ?_
        rintro e w15 ⟨rfl, hC⟩
        refine ⟨_, rfl, ?_⟩
        simp only [Act.put, sia, sc0, scs]
        have xh3 : w15.heap[w3.heap.size]? = some (.cells (zL) 22 (0, 0)) := (heap_call hC xh3)
        have xhr1_2 : Row w15 (b1_2) (0) 32 (byV N) := (Row.below_all xhr1_2 hC)
        have hS := hS.call hC
        have hz15 := hC.size
        clear hC
        refine hK.out _ _ hS ?_
        clear hK K
        intro _
        have hSz := hS.size
        refine takeAtK (i := 4) (v := .tuple #[.agg (arrC E1), .bool true, .bool true]) rfl (some 10) rfl (take_run rfl (fun _ _ => by go_simp)) hS ?_
        simp only [Act.put, sia, sc0, scs]
        refine takeAtK (i := 5) (v := .agg (arrC E1)) rfl (some 15) rfl (take_run rfl (fun _ _ => by go_simp)) hS ?_
        simp only [Act.put, sia, sc0, scs]
        refine takeAtK (i := 6) (v := .bool true) rfl (some 16) rfl (take_run rfl (fun _ _ => by go_simp)) hS ?_
        simp only [Act.put, sia, sc0, scs]
        refine takeAtK (i := 7) (v := .bool true) rfl (some 17) rfl (take_run rfl (fun _ _ => by go_simp)) hS ?_
        simp only [Act.put, sia, sc0, scs]
        refine wpAnyH_ready (rs := [9]) (by kernel_rfl) (by simp) ?_
        refine (AllReadyH.cons rfl ?_ AllReadyH.nil)
        intro K hK
        rw [if_pos (by rfl)]
        refine wp_store_row 22 _ _ rfl (w3.heap.size) (arrC E1) rfl rfl 22 (zL) xh3 (info32_of (arrC E1) (arrC_size _)) (zL_size.trans (arrC_size _).symm) (arrC_one _) ?_
        refine put_at (none) rfl ?_
        simp only [Act.put, sia, sc0, scs]
        have xh3 : (w15.setRow (w3.heap.size) (arrC E1)).heap[w3.heap.size]? = some (.cells (arrC E1) 22 (0, 0)) := (setRow_heap _ _ _ _ _ _ xh3)
        have hS := hS.storeNew (arrC E1) (show w1.heap.size ≤ w3.heap.size by omega)
        generalize w15.setRow (w3.heap.size) (arrC E1) = w16 at *
        refine hK.out _ _ hS ?_
        clear hK K
        intro _
        have hSz := hS.size
        refine takeAtK (i := 10) (v := .bool true) rfl (some 4) rfl (take_run rfl (fun _ _ => by go_simp)) hS ?_
        simp only [Act.put, sia, sc0, scs]
        refine takeAtK (i := 11) (v := .bool true) rfl (some 5) rfl (take_run rfl (fun _ _ => by go_simp)) hS ?_
        simp only [Act.put, sia, sc0, scs]
        refine wpAnyH_done (by kernel_rfl) ?_ _
        refine NoPanic.normal ?_
        have hsz := hS.size
        have h1 : w16.heap[w.heap.size]? = some (.cells (arrC N) 22 (0, 0)) := hS.old h1 (Nat.ne_of_lt (heap_lt h1))
        have h3 := xh3
        have hBw16 : Hid (Below w.heap.size w w16) := Lib.hid (hBw1.out.trans (hS.below (by omega) hBw1.out.size))
        clear hS
        go_wp2_with fail
        go_meet
        exact ⟨w3.heap.size, rfl, Lib.hid (show w1.heap.size ≤ w3.heap.size by omega), Lib.hid h3, rfl, rfl, Lib.hid h1, Lib.hid hBw16.out, Lib.hid (show w1.heap.size ≤ w16.heap.size by omega)⟩
    · intro K hK
      refine ready_run rfl (some 3) rfl (.pointer (some ⟨w2.heap.size, 0, none⟩)) (w2.alloc (.cells zL 22)) (by go_simp; try rfl) ?_
      simp only [Act.put, sia, sc0, scs]
      obtain ⟨w18, ea⟩ : ∃ u : World, u = w2.alloc (.cells zL 22) := ⟨_, rfl⟩
      rw [← ea]
      have hS := hS.alloc (.cells zL 22)
      rw [← ea] at hS
      have hz18 : w2.heap.size + 1 ≤ w18.heap.size := by rw [ea, alloc_size]; omega
      have hy18 : w1.heap.size ≤ w2.heap.size := hSz
      have xh3 : w18.heap[w2.heap.size]? = some (.cells (zL) 22 (0, 0)) := by rw [ea]; exact heap_new_at _ _ _ rfl
      clear ea
      refine hK.out _ _ hS ?_
      clear hK K
      intro _
      have hSz := hS.size
      refine wpAnyH_ready (rs := [0]) (by kernel_rfl) (by simp) ?_
      refine (AllReadyH.cons rfl ?_ AllReadyH.nil)
      intro K hK
      refine ready_call rfl (some 11) rfl 15 #[] (by go_simp) ?_
      refine (iIdentitye E0 HE0 B _ (hD0.later (hBw1.out.trans (hS.below (by omega) hBw1.out.size))) (hD1.later (hBw1.out.trans (hS.below (by omega) hBw1.out.size))) (hD2.later (hBw1.out.trans (hS.below (by omega) hBw1.out.size)))).mono ?_
      rintro e w19 ⟨rfl, hC⟩
      refine ⟨_, rfl, ?_⟩
      simp only [Act.put, sia, sc0, scs]
      have xh3 : w19.heap[w2.heap.size]? = some (.cells (zL) 22 (0, 0)) := (heap_call hC xh3)
      have hS := hS.call hC
      have hz19 := hC.size
      clear hC
      refine hK.out _ _ hS ?_
      clear hK K
      intro _
      have hSz := hS.size
      refine wpAnyH_ready (rs := [2]) (by kernel_rfl) (by simp) ?_
      refine (AllReadyH.cons rfl ?_ AllReadyH.nil)
      intro K hK
      refine ready_call rfl (some 13) rfl 16 #[.agg (arrC N)] (by go_simp) ?_
      refine (slice_any N _).mono ?_
      rintro e w20 ⟨b1_2, c1_2, rfl, hcap1_2, hlb1_2, hC, xhr1_2⟩
      refine ⟨_, rfl, ?_⟩
      simp only [Act.put, sia, sc0, scs]
      have xh3 : w20.heap[w2.heap.size]? = some (.cells (zL) 22 (0, 0)) := (heap_call hC xh3)
      have hS := hS.call hC
      have hz20 := hC.size
      clear hC
      have hlb1_2 : w19.heap.size ≤ b1_2 := by (try simp only [alloc_size, setRow_size] at hlb1_2); omega
      have hub1_2 := xhr1_2.lt
      refine hK.out _ _ hS ?_
      clear hK K
      intro _
      have hSz := hS.size
      refine wpAnyH_ready (rs := [3]) (by kernel_rfl) (by simp) ?_
      refine (AllReadyH.cons rfl ?_ AllReadyH.nil)
      intro K hK
      refine ready_call rfl (some 14) rfl 13 #[.agg (arrC E0), .slice (some ⟨b1_2, 0, none⟩) 32 c1_2] (by go_simp) ?_
      refine (iSet_some_somee (CP.zero) P E1 HE1 E0 N (b1_2) (0) (c1_2)  lE0 (Lib.hid (by rw [HE0.out]; exact dec_enc _)) lN hN hcap1_2 B _ (hD0.later (hBw1.out.trans (hS.below (by omega) hBw1.out.size))) (hD1.later (hBw1.out.trans (hS.below (by omega) hBw1.out.size))) (hD2.later (hBw1.out.trans (hS.below (by omega) hBw1.out.size))) xhr1_2).mono ?_
      rintro e w21 ⟨rfl, hC⟩
      refine ⟨_, rfl, ?_⟩
      simp only [Act.put, sia, sc0, scs]
      have xh3 : w21.heap[w2.heap.size]? = some (.cells (zL) 22 (0, 0)) := (heap_call hC xh3)
      have xhr1_2 : Row w21 (b1_2) (0) 32 (byV N) := (Row.below_all xhr1_2 hC)
      have hS := hS.call hC
      have hz21 := hC.size
      clear hC
      refine hK.out _ _ hS ?_
      clear hK K
      intro _
      have hSz := hS.size
      refine takeAtK (i := 4) (v := .tuple #[.agg (arrC E1), .bool true, .bool true]) rfl (some 10) rfl (take_run rfl (fun _ _ => by go_simp)) hS ?_
      simp only [Act.put, sia, sc0, scs]
      refine takeAtK (i := 5) (v := .agg (arrC E1)) rfl (some 15) rfl (take_run rfl (fun _ _ => by go_simp)) hS ?_
      simp only [Act.put, sia, sc0, scs]
      refine takeAtK (i := 6) (v := .bool true) rfl (some 16) rfl (take_run rfl (fun _ _ => by go_simp)) hS ?_
      simp only [Act.put, sia, sc0, scs]
      refine takeAtK (i := 7) (v := .bool true) rfl (some 17) rfl (take_run rfl (fun _ _ => by go_simp)) hS ?_
      simp only [Act.put, sia, sc0, scs]
      refine wpAnyH_ready (rs := [9]) (by kernel_rfl) (by simp) ?_
      refine (AllReadyH.cons rfl ?_ AllReadyH.nil)
      intro K hK
      rw [if_pos (by rfl)]
      refine wp_store_row 22 _ _ rfl (w2.heap.size) (arrC E1) rfl rfl 22 (zL) xh3 (info32_of (arrC E1) (arrC_size _)) (zL_size.trans (arrC_size _).symm) (arrC_one _) ?_
      refine put_at (none) rfl ?_
      simp only [Act.put, sia, sc0, scs]
      have xh3 : (w21.setRow (w2.heap.size) (arrC E1)).heap[w2.heap.size]? = some (.cells (arrC E1) 22 (0, 0)) := (setRow_heap _ _ _ _ _ _ xh3)
      have hS := hS.storeNew (arrC E1) (show w1.heap.size ≤ w2.heap.size by omega)
      generalize w21.setRow (w2.heap.size) (arrC E1) = w22 at *
      refine hK.out _ _ hS ?_
      clear hK K
      intro _
      have hSz := hS.size
      refine takeAtK (i := 10) (v := .bool true) rfl (some 4) rfl (take_run rfl (fun _ _ => by go_simp)) hS ?_
      simp only [Act.put, sia, sc0, scs]
      refine takeAtK (i := 11) (v := .bool true) rfl (some 5) rfl (take_run rfl (fun _ _ => by go_simp)) hS ?_
      simp only [Act.put, sia, sc0, scs]
      refine wpAnyH_done (by kernel_rfl) ?_ _
      refine NoPanic.normal ?_
      have hsz := hS.size
      have h1 : w22.heap[w.heap.size]? = some (.cells (arrC N) 22 (0, 0)) := hS.old h1 (Nat.ne_of_lt (heap_lt h1))
      have h3 := xh3
      have hBw22 : Hid (Below w.heap.size w w22) := Lib.hid (hBw1.out.trans (hS.below (by omega) hBw1.out.size))
      clear hS
      go_wp2_with fail
      go_meet
      exact ⟨w2.heap.size, rfl, Lib.hid (show w1.heap.size ≤ w2.heap.size by omega), Lib.hid h3, rfl, rfl, Lib.hid h1, Lib.hid hBw22.out, Lib.hid (show w1.heap.size ≤ w22.heap.size by omega)⟩
  case rest =>
    obtain ⟨g3, rfl, Hg3, Hh3, rfl, rfl, Hh1, hBw24, Hsz24⟩ := hcut
    obtain ⟨w24, rfl⟩ : ∃ u : World, u = wc := ⟨_, rfl⟩
    have hgl3 := Hg3.out
    have h3 := Hh3.out
    have hgu3 := heap_lt h3
    have h1 := Hh1.out
    have hsz24 := Hsz24.out
    go_wp2_with fail
    try simp only [Act.put]
    refine wp_named ?_
    intro w25 ew25
    have hs25 : w24.heap.size ≤ w25.heap.size := by rw [ew25]; (try simp only [alloc_size, setRow_size]); omega
    replace h1 : w25.heap[w.heap.size]? = some (.cells (arrC N) 22 (0, 0)) := by rw [ew25]; exact h1
    replace h3 : w25.heap[g3]? = some (.cells (arrC E1) 22 (0, 0)) := by rw [ew25]; exact h3
    have hBw25 : Hid (Below w.heap.size w w25) := Lib.hid (by rw [ew25]; exact hBw24.out)
    clear ew25
    go_cut [6, 7, 8] (fun s6 s7 s8 wx => ∃ g6 : Nat, s6 = .pointer (some ⟨g6, 0, none⟩) ∧ Hid (w25.heap.size ≤ g6) ∧ Hid (wx.heap[g6]? = some (.cells (arrC E1) 22 (0, 0))) ∧ s7 = .bool true ∧ s8 = .bool true ∧ Hid (wx.heap[w.heap.size]? = some (.cells (arrC N) 22 (0, 0))) ∧ Hid (wx.heap[g3]? = some (.cells (arrC E1) 22 (0, 0))) ∧ Hid (Below w.heap.size w wx) ∧ Hid (w25.heap.size ≤ wx.heap.size))
    case first =>
      refine wp_region_noPanic ?_
      refine wp_region_held_drew (S := Keep (w25.heap.size) w25) (by kernel_rfl) (Keep.start _ _) ?_
      intro hS
      obtain ⟨w26, ed⟩ : ∃ u : World, u = w25.drew := ⟨_, rfl⟩
      rw [← ed] at hS ⊢
      have xh1 : w26.heap[w.heap.size]? = some (.cells (arrC N) 22 (0, 0)) := by rw [ed]; exact h1
      have xh3 : w26.heap[g3]? = some (.cells (arrC E1) 22 (0, 0)) := by rw [ed]; exact h3
      clear ed
      have hSz := hS.size
      clear xh1
      clear xh3
      refine takeAtK (i := 1) (v := .agg (arrC E1)) rfl (some 25) rfl (take_row rfl _ _ rfl (g3) rfl _ _ _ h3 (Nat.ne_of_lt (heap_lt h3)) under32 rfl (info32_of (arrC E1) (arrC_size _))) hS ?_
      simp only [Act.put, sia, sc0, scs]
      refine wpAnyH_ready (rs := [0, 8]) (by kernel_rfl) (by simp) ?_
      refine (AllReadyH.cons rfl ?_ (AllReadyH.cons rfl ?_ AllReadyH.nil))
      · intro K hK
        refine ready_call rfl (some 24) rfl 15 #[] (by go_simp) ?_
        refine (iIdentitye E0 HE0 B _ (hD0.later (hBw25.out.trans (hS.below (by omega) hBw25.out.size))) (hD1.later (hBw25.out.trans (hS.below (by omega) hBw25.out.size))) (hD2.later (hBw25.out.trans (hS.below (by omega) hBw25.out.size)))).mono ?_
        rintro e w27 ⟨rfl, hC⟩
        refine ⟨_, rfl, ?_⟩
        simp only [Act.put, sia, sc0, scs]
        have hS := hS.call hC
        have hz27 := hC.size
        clear hC
        refine hK.out _ _ hS ?_
        clear hK K
        intro _
        have hSz := hS.size
        refine wpAnyH_ready (rs := [2, 8]) (by kernel_rfl) (by simp) ?_
        refine (AllReadyH.cons rfl ?_ (AllReadyH.cons rfl ?_ AllReadyH.nil))
        · intro K hK
          refine ready_call rfl (some 26) rfl 16 #[.agg (arrC E1)] (by go_simp) ?_
          refine (slice_any E1 _).mono ?_
          rintro e w28 ⟨b4_2, c4_2, rfl, hcap4_2, hlb4_2, hC, xhr4_2⟩
          refine ⟨_, rfl, ?_⟩
          simp only [Act.put, sia, sc0, scs]
          have hS := hS.call hC
          have hz28 := hC.size
          clear hC
          have hlb4_2 : w27.heap.size ≤ b4_2 := by (try simp only [alloc_size, setRow_size] at hlb4_2); omega
          have hub4_2 := xhr4_2.lt
          refine hK.out _ _ hS ?_
          clear hK K
          intro _
          have hSz := hS.size
          refine wpAnyH_ready (rs := [3, 8]) (by kernel_rfl) (by simp) ?_
          refine (AllReadyH.cons rfl ?_ (AllReadyH.cons rfl ?_ AllReadyH.nil))
          · intro K hK
            refine ready_call rfl (some 27) rfl 13 #[.agg (arrC E0), .slice (some ⟨b4_2, 0, none⟩) 32 c4_2] (by go_simp) ?_
            refine (iSet_some_somee (CP.zero) P E1 HE1 E0 E1 (b4_2) (0) (c4_2)  lE0 (Lib.hid (by rw [HE0.out]; exact dec_enc _)) lE1 (Lib.hid (by rw [HE1.out]; exact dec_enc _)) hcap4_2 B _ (hD0.later (hBw25.out.trans (hS.below (by omega) hBw25.out.size))) (hD1.later (hBw25.out.trans (hS.below (by omega) hBw25.out.size))) (hD2.later (hBw25.out.trans (hS.below (by omega) hBw25.out.size))) xhr4_2).mono ?_
            rintro e w29 ⟨rfl, hC⟩
            refine ⟨_, rfl, ?_⟩
            simp only [Act.put, sia, sc0, scs]
            have xhr4_2 : Row w29 (b4_2) (0) 32 (byV E1) := (Row.below_all xhr4_2 hC)
            have hS := hS.call hC
            have hz29 := hC.size
            clear hC
            refine hK.out _ _ hS ?_
            clear hK K
            intro _
            have hSz := hS.size
            refine takeAtK (i := 4) (v := .tuple #[.agg (arrC E1), .bool true, .bool true]) rfl (some 23) rfl (take_run rfl (fun _ _ => by go_simp)) hS ?_
            simp only [Act.put, sia, sc0, scs]
            refine takeAtK (i := 5) (v := .agg (arrC E1)) rfl (some 28) rfl (take_run rfl (fun _ _ => by go_simp)) hS ?_
            simp only [Act.put, sia, sc0, scs]
            refine takeAtK (i := 6) (v := .bool true) rfl (some 29) rfl (take_run rfl (fun _ _ => by go_simp)) hS ?_
            simp only [Act.put, sia, sc0, scs]
            refine takeAtK (i := 7) (v := .bool true) rfl (some 30) rfl (take_run rfl (fun _ _ => by go_simp)) hS ?_
            simp only [Act.put, sia, sc0, scs]
            refine wpAnyH_ready (rs := [8]) (by kernel_rfl) (by simp) ?_
            refine (AllReadyH.cons rfl ?_ AllReadyH.nil)
            intro K hK
            refine ready_run rfl (some 6) rfl (.pointer (some ⟨w29.heap.size, 0, none⟩)) (w29.alloc (.cells zL 22)) (by go_simp; try rfl) ?_
            simp only [Act.put, sia, sc0, scs]
            obtain ⟨w30, ea⟩ : ∃ u : World, u = w29.alloc (.cells zL 22) := ⟨_, rfl⟩
            rw [← ea]
            have hS := hS.alloc (.cells zL 22)
            rw [← ea] at hS
            have hz30 : w29.heap.size + 1 ≤ w30.heap.size := by rw [ea, alloc_size]; omega
            have hy30 : w25.heap.size ≤ w29.heap.size := hSz
            have xh6 : w30.heap[w29.heap.size]? = some (.cells (zL) 22 (0, 0)) := by rw [ea]; exact heap_new_at _ _ _ rfl
            clear ea
            refine hK.out _ _ hS ?_
            clear hK K
            intro _
            have hSz := hS.size
            refine wpAnyH_ready (rs := [9]) (by kernel_rfl) (by simp) ?_
            refine (AllReadyH.cons rfl ?_ AllReadyH.nil)
            intro K hK
            rw [if_pos (by rfl)]
            refine wp_store_row 22 _ _ rfl (w29.heap.size) (arrC E1) rfl rfl 22 (zL) xh6 (info32_of (arrC E1) (arrC_size _)) (zL_size.trans (arrC_size _).symm) (arrC_one _) ?_
            refine put_at (none) rfl ?_
            simp only [Act.put, sia, sc0, scs]
            have xh6 : (w30.setRow (w29.heap.size) (arrC E1)).heap[w29.heap.size]? = some (.cells (arrC E1) 22 (0, 0)) := (setRow_heap _ _ _ _ _ _ xh6)
            have hS := hS.storeNew (arrC E1) (show w25.heap.size ≤ w29.heap.size by omega)
            generalize w30.setRow (w29.heap.size) (arrC E1) = w31 at *
            refine hK.out _ _ hS ?_
            clear hK K
            intro _
            have hSz := hS.size
            refine takeAtK (i := 10) (v := .bool true) rfl (some 7) rfl (take_run rfl (fun _ _ => by go_simp)) hS ?_
            simp only [Act.put, sia, sc0, scs]
            refine takeAtK (i := 11) (v := .bool true) rfl (some 8) rfl (take_run rfl (fun _ _ => by go_simp)) hS ?_
            simp only [Act.put, sia, sc0, scs]
            refine wpAnyH_done (by kernel_rfl) ?_ _
            refine NoPanic.normal ?_
            have hsz := hS.size
            have h1 : w31.heap[w.heap.size]? = some (.cells (arrC N) 22 (0, 0)) := hS.old h1 (Nat.ne_of_lt (heap_lt h1))
            have h3 : w31.heap[g3]? = some (.cells (arrC E1) 22 (0, 0)) := hS.old h3 (Nat.ne_of_lt (heap_lt h3))
            have h6 := xh6
            have hBw31 : Hid (Below w.heap.size w w31) := Lib.hid (hBw25.out.trans (hS.below (by omega) hBw25.out.size))
            clear hS
            go_wp2_with fail
            go_meet
            exact ⟨w29.heap.size, rfl, Lib.hid (show w25.heap.size ≤ w29.heap.size by omega), Lib.hid h6, rfl, rfl, Lib.hid h1, Lib.hid h3, Lib.hid hBw31.out, Lib.hid (show w25.heap.size ≤ w31.heap.size by omega)⟩
          · intro K hK
            refine ready_run rfl (some 6) rfl (.pointer (some ⟨w28.heap.size, 0, none⟩)) (w28.alloc (.cells zL 22)) (by go_simp; try rfl) ?_
            simp only [Act.put, sia, sc0, scs]
            obtain ⟨w33, ea⟩ : ∃ u : World, u = w28.alloc (.cells zL 22) := ⟨_, rfl⟩
            rw [← ea]
            have xhr4_2 : Row w33 (b4_2) (0) 32 (byV E1) := by rw [ea]; exact (Row.alloc xhr4_2 _)
            have hS := hS.alloc (.cells zL 22)
            rw [← ea] at hS
            have hz33 : w28.heap.size + 1 ≤ w33.heap.size := by rw [ea, alloc_size]; omega
            have hy33 : w25.heap.size ≤ w28.heap.size := hSz
            have xh6 : w33.heap[w28.heap.size]? = some (.cells (zL) 22 (0, 0)) := by rw [ea]; exact heap_new_at _ _ _ rfl
            clear ea
            refine hK.out _ _ hS ?_
            clear hK K
            intro _
            have hSz := hS.size
            refine wpAnyH_ready (rs := [3]) (by kernel_rfl) (by simp) ?_
            refine (AllReadyH.cons rfl ?_ AllReadyH.nil)
            intro K hK
            refine ready_call rfl (some 27) rfl 13 #[.agg (arrC E0), .slice (some ⟨b4_2, 0, none⟩) 32 c4_2] (by go_simp) ?_
            refine (iSet_some_somee (CP.zero) P E1 HE1 E0 E1 (b4_2) (0) (c4_2)  lE0 (Lib.hid (by rw [HE0.out]; exact dec_enc _)) lE1 (Lib.hid (by rw [HE1.out]; exact dec_enc _)) hcap4_2 B _ (hD0.later (hBw25.out.trans (hS.below (by omega) hBw25.out.size))) (hD1.later (hBw25.out.trans (hS.below (by omega) hBw25.out.size))) (hD2.later (hBw25.out.trans (hS.below (by omega) hBw25.out.size))) xhr4_2).mono ?_
            rintro e w34 ⟨rfl, hC⟩
            refine ⟨_, rfl, ?_⟩
            simp only [Act.put, sia, sc0, scs]
            have xhr4_2 : Row w34 (b4_2) (0) 32 (byV E1) := (Row.below_all xhr4_2 hC)
            have xh6 : w34.heap[w28.heap.size]? = some (.cells (zL) 22 (0, 0)) := (heap_call hC xh6)
            have hS := hS.call hC
            have hz34 := hC.size
            clear hC
            refine hK.out _ _ hS ?_
            clear hK K
            intro _
            have hSz := hS.size
            refine takeAtK (i := 4) (v := .tuple #[.agg (arrC E1), .bool true, .bool true]) rfl (some 23) rfl (take_run rfl (fun _ _ => by go_simp)) hS ?_
            simp only [Act.put, sia, sc0, scs]
            refine takeAtK (i := 5) (v := .agg (arrC E1)) rfl (some 28) rfl (take_run rfl (fun _ _ => by go_simp)) hS ?_
            simp only [Act.put, sia, sc0, scs]
            refine takeAtK (i := 6) (v := .bool true) rfl (some 29) rfl (take_run rfl (fun _ _ => by go_simp)) hS ?_
            simp only [Act.put, sia, sc0, scs]
            refine takeAtK (i := 7) (v := .bool true) rfl (some 30) rfl (take_run rfl (fun _ _ => by go_simp)) hS ?_
            simp only [Act.put, sia, sc0, scs]
            refine wpAnyH_ready (rs := [9]) (by kernel_rfl) (by simp) ?_
            refine (AllReadyH.cons rfl ?_ AllReadyH.nil)
            intro K hK
            rw [if_pos (by rfl)]
            refine wp_store_row 22 _ _ rfl (w28.heap.size) (arrC E1) rfl rfl 22 (zL) xh6 (info32_of (arrC E1) (arrC_size _)) (zL_size.trans (arrC_size _).symm) (arrC_one _) ?_
            refine put_at (none) rfl ?_
            simp only [Act.put, sia, sc0, scs]
            have xh6 : (w34.setRow (w28.heap.size) (arrC E1)).heap[w28.heap.size]? = some (.cells (arrC E1) 22 (0, 0)) := (setRow_heap _ _ _ _ _ _ xh6)
            have hS := hS.storeNew (arrC E1) (show w25.heap.size ≤ w28.heap.size by omega)
            generalize w34.setRow (w28.heap.size) (arrC E1) = w35 at *
            refine hK.out _ _ hS ?_
            clear hK K
            intro _
            have hSz := hS.size
            refine takeAtK (i := 10) (v := .bool true) rfl (some 7) rfl (take_run rfl (fun _ _ => by go_simp)) hS ?_
            simp only [Act.put, sia, sc0, scs]
            refine takeAtK (i := 11) (v := .bool true) rfl (some 8) rfl (take_run rfl (fun _ _ => by go_simp)) hS ?_
            simp only [Act.put, sia, sc0, scs]
            refine wpAnyH_done (by kernel_rfl) ?_ _
            refine NoPanic.normal ?_
            have hsz := hS.size
            have h1 : w35.heap[w.heap.size]? = some (.cells (arrC N) 22 (0, 0)) := hS.old h1 (Nat.ne_of_lt (heap_lt h1))
            have h3 : w35.heap[g3]? = some (.cells (arrC E1) 22 (0, 0)) := hS.old h3 (Nat.ne_of_lt (heap_lt h3))
            have h6 := xh6
            have hBw35 : Hid (Below w.heap.size w w35) := Lib.hid (hBw25.out.trans (hS.below (by omega) hBw25.out.size))
            clear hS
            go_wp2_with fail
            go_meet
            exact ⟨w28.heap.size, rfl, Lib.hid (show w25.heap.size ≤ w28.heap.size by omega), Lib.hid h6, rfl, rfl, Lib.hid h1, Lib.hid h3, Lib.hid hBw35.out, Lib.hid (show w25.heap.size ≤ w35.heap.size by omega)⟩
        · intro K hK
          refine ready_run rfl (some 6) rfl (.pointer (some ⟨w27.heap.size, 0, none⟩)) (w27.alloc (.cells zL 22)) (by go_simp; try rfl) ?_
          simp only [Act.put, sia, sc0, scs]
          obtain ⟨w37, ea⟩ : ∃ u : World, u = w27.alloc (.cells zL 22) := ⟨_, rfl⟩
          rw [← ea]
          have hS := hS.alloc (.cells zL 22)
          rw [← ea] at hS
          have hz37 : w27.heap.size + 1 ≤ w37.heap.size := by rw [ea, alloc_size]; omega
          have hy37 : w25.heap.size ≤ w27.heap.size := hSz
          have xh6 : w37.heap[w27.heap.size]? = some (.cells (zL) 22 (0, 0)) := by rw [ea]; exact heap_new_at _ _ _ rfl
          clear ea
          refine hK.out _ _ hS ?_
          clear hK K
          intro _
          have hSz := hS.size
          refine wpAnyH_ready (rs := [2]) (by kernel_rfl) (by simp) ?_
          refine (AllReadyH.cons rfl ?_ AllReadyH.nil)
          intro K hK
          refine ready_call rfl (some 26) rfl 16 #[.agg (arrC E1)] (by go_simp) ?_
          refine (slice_any E1 _).mono ?_
          rintro e w38 ⟨b4_2, c4_2, rfl, hcap4_2, hlb4_2, hC, xhr4_2⟩
          refine ⟨_, rfl, ?_⟩
          simp only [Act.put, sia, sc0, scs]
          have xh6 : w38.heap[w27.heap.size]? = some (.cells (zL) 22 (0, 0)) := (heap_call hC xh6)
          have hS := hS.call hC
          have hz38 := hC.size
          clear hC
          have hlb4_2 : w37.heap.size ≤ b4_2 := by (try simp only [alloc_size, setRow_size] at hlb4_2); omega
          have hub4_2 := xhr4_2.lt
          refine hK.out _ _ hS ?_
          clear hK K
          intro _
          have hSz := hS.size
          refine wpAnyH_ready (rs := [3]) (by kernel_rfl) (by simp) ?_
          refine (AllReadyH.cons rfl ?_ AllReadyH.nil)
          intro K hK
          refine ready_call rfl (some 27) rfl 13 #[.agg (arrC E0), .slice (some ⟨b4_2, 0, none⟩) 32 c4_2] (by go_simp) ?_
          refine (iSet_some_somee (CP.zero) P E1 HE1 E0 E1 (b4_2) (0) (c4_2)  lE0 (Lib.hid (by rw [HE0.out]; exact dec_enc _)) lE1 (Lib.hid (by rw [HE1.out]; exact dec_enc _)) hcap4_2 B _ (hD0.later (hBw25.out.trans (hS.below (by omega) hBw25.out.size))) (hD1.later (hBw25.out.trans (hS.below (by omega) hBw25.out.size))) (hD2.later (hBw25.out.trans (hS.below (by omega) hBw25.out.size))) xhr4_2).mono ?_
          rintro e w39 ⟨rfl, hC⟩
          refine ⟨_, rfl, ?_⟩
          simp only [Act.put, sia, sc0, scs]
          have xh6 : w39.heap[w27.heap.size]? = some (.cells (zL) 22 (0, 0)) := (heap_call hC xh6)
          have xhr4_2 : Row w39 (b4_2) (0) 32 (byV E1) := (Row.below_all xhr4_2 hC)
          have hS := hS.call hC
          have hz39 := hC.size
          clear hC
          refine hK.out _ _ hS ?_
          clear hK K
          intro _
          have hSz := hS.size
          refine takeAtK (i := 4) (v := .tuple #[.agg (arrC E1), .bool true, .bool true]) rfl (some 23) rfl (take_run rfl (fun _ _ => by go_simp)) hS ?_
          simp only [Act.put, sia, sc0, scs]
          refine takeAtK (i := 5) (v := .agg (arrC E1)) rfl (some 28) rfl (take_run rfl (fun _ _ => by go_simp)) hS ?_
          simp only [Act.put, sia, sc0, scs]
          refine takeAtK (i := 6) (v := .bool true) rfl (some 29) rfl (take_run rfl (fun _ _ => by go_simp)) hS ?_
          simp only [Act.put, sia, sc0, scs]
          refine takeAtK (i := 7) (v := .bool true) rfl (some 30) rfl (take_run rfl (fun _ _ => by go_simp)) hS ?_
          simp only [Act.put, sia, sc0, scs]
          refine wpAnyH_ready (rs := [9]) (by kernel_rfl) (by simp) ?_
          refine (AllReadyH.cons rfl ?_ AllReadyH.nil)
          intro K hK
          rw [if_pos (by rfl)]
          refine wp_store_row 22 _ _ rfl (w27.heap.size) (arrC E1) rfl rfl 22 (zL) xh6 (info32_of (arrC E1) (arrC_size _)) (zL_size.trans (arrC_size _).symm) (arrC_one _) ?_
          refine put_at (none) rfl ?_
          simp only [Act.put, sia, sc0, scs]
          have xh6 : (w39.setRow (w27.heap.size) (arrC E1)).heap[w27.heap.size]? = some (.cells (arrC E1) 22 (0, 0)) := (setRow_heap _ _ _ _ _ _ xh6)
          have hS := hS.storeNew (arrC E1) (show w25.heap.size ≤ w27.heap.size by omega)
          generalize w39.setRow (w27.heap.size) (arrC E1) = w40 at *
          refine hK.out _ _ hS ?_
          clear hK K
          intro _
          have hSz := hS.size
          refine takeAtK (i := 10) (v := .bool true) rfl (some 7) rfl (take_run rfl (fun _ _ => by go_simp)) hS ?_
          simp only [Act.put, sia, sc0, scs]
          refine takeAtK (i := 11) (v := .bool true) rfl (some 8) rfl (take_run rfl (fun _ _ => by go_simp)) hS ?_
          simp only [Act.put, sia, sc0, scs]
          refine wpAnyH_done (by kernel_rfl) ?_ _
          refine NoPanic.normal ?_
          have hsz := hS.size
          have h1 : w40.heap[w.heap.size]? = some (.cells (arrC N) 22 (0, 0)) := hS.old h1 (Nat.ne_of_lt (heap_lt h1))
          have h3 : w40.heap[g3]? = some (.cells (arrC E1) 22 (0, 0)) := hS.old h3 (Nat.ne_of_lt (heap_lt h3))
          have h6 := xh6
          have hBw40 : Hid (Below w.heap.size w w40) := Lib.hid (hBw25.out.trans (hS.below (by omega) hBw25.out.size))
          clear hS
          go_wp2_with fail
          go_meet
          exact ⟨w27.heap.size, rfl, Lib.hid (show w25.heap.size ≤ w27.heap.size by omega), Lib.hid h6, rfl, rfl, Lib.hid h1, Lib.hid h3, Lib.hid hBw40.out, Lib.hid (show w25.heap.size ≤ w40.heap.size by omega)⟩
      · intro K hK
        refine ready_run rfl (some 6) rfl (.pointer (some ⟨w26.heap.size, 0, none⟩)) (w26.alloc (.cells zL 22)) (by go_simp; try rfl) ?_
        simp only [Act.put, sia, sc0, scs]
        obtain ⟨w42, ea⟩ : ∃ u : World, u = w26.alloc (.cells zL 22) := ⟨_, rfl⟩
        rw [← ea]
        have hS := hS.alloc (.cells zL 22)
        rw [← ea] at hS
        have hz42 : w26.heap.size + 1 ≤ w42.heap.size := by rw [ea, alloc_size]; omega
        have hy42 : w25.heap.size ≤ w26.heap.size := hSz
        have xh6 : w42.heap[w26.heap.size]? = some (.cells (zL) 22 (0, 0)) := by rw [ea]; exact heap_new_at _ _ _ rfl
        clear ea
        refine hK.out _ _ hS ?_
        clear hK K
        intro _
        have hSz := hS.size
        refine wpAnyH_ready (rs := [0]) (by kernel_rfl) (by simp) ?_
        refine (AllReadyH.cons rfl ?_ AllReadyH.nil)
        intro K hK
        refine ready_call rfl (some 24) rfl 15 #[] (by go_simp) ?_
        refine (iIdentitye E0 HE0 B _ (hD0.later (hBw25.out.trans (hS.below (by omega) hBw25.out.size))) (hD1.later (hBw25.out.trans (hS.below (by omega) hBw25.out.size))) (hD2.later (hBw25.out.trans (hS.below (by omega) hBw25.out.size)))).mono ?_
        rintro e w43 ⟨rfl, hC⟩
        refine ⟨_, rfl, ?_⟩
        simp only [Act.put, sia, sc0, scs]
        have xh6 : w43.heap[w26.heap.size]? = some (.cells (zL) 22 (0, 0)) := (heap_call hC xh6)
        have hS := hS.call hC
        have hz43 := hC.size
        clear hC
        refine hK.out _ _ hS ?_
        clear hK K
        intro _
        have hSz := hS.size
        refine wpAnyH_ready (rs := [2]) (by kernel_rfl) (by simp) ?_
        refine (AllReadyH.cons rfl ?_ AllReadyH.nil)
        intro K hK
        refine ready_call rfl (some 26) rfl 16 #[.agg (arrC E1)] (by go_simp) ?_
        refine (slice_any E1 _).mono ?_
        rintro e w44 ⟨b4_2, c4_2, rfl, hcap4_2, hlb4_2, hC, xhr4_2⟩
        refine ⟨_, rfl, ?_⟩
        simp only [Act.put, sia, sc0, scs]
        have xh6 : w44.heap[w26.heap.size]? = some (.cells (zL) 22 (0, 0)) := (heap_call hC xh6)
        have hS := hS.call hC
        have hz44 := hC.size
        clear hC
        have hlb4_2 : w43.heap.size ≤ b4_2 := by (try simp only [alloc_size, setRow_size] at hlb4_2); omega
        have hub4_2 := xhr4_2.lt
        refine hK.out _ _ hS ?_
        clear hK K
        intro _
        have hSz := hS.size
        refine wpAnyH_ready (rs := [3]) (by kernel_rfl) (by simp) ?_
        refine (AllReadyH.cons rfl ?_ AllReadyH.nil)
        intro K hK
        refine ready_call rfl (some 27) rfl 13 #[.agg (arrC E0), .slice (some ⟨b4_2, 0, none⟩) 32 c4_2] (by go_simp) ?_
        refine (iSet_some_somee (CP.zero) P E1 HE1 E0 E1 (b4_2) (0) (c4_2)  lE0 (Lib.hid (by rw [HE0.out]; exact dec_enc _)) lE1 (Lib.hid (by rw [HE1.out]; exact dec_enc _)) hcap4_2 B _ (hD0.later (hBw25.out.trans (hS.below (by omega) hBw25.out.size))) (hD1.later (hBw25.out.trans (hS.below (by omega) hBw25.out.size))) (hD2.later (hBw25.out.trans (hS.below (by omega) hBw25.out.size))) xhr4_2).mono ?_
        rintro e w45 ⟨rfl, hC⟩
        refine ⟨_, rfl, ?_⟩
        simp only [Act.put, sia, sc0, scs]
        have xh6 : w45.heap[w26.heap.size]? = some (.cells (zL) 22 (0, 0)) := (heap_call hC xh6)
        have xhr4_2 : Row w45 (b4_2) (0) 32 (byV E1) := (Row.below_all xhr4_2 hC)
        have hS := hS.call hC
        have hz45 := hC.size
        clear hC
        refine hK.out _ _ hS ?_
        clear hK K
        intro _
        have hSz := hS.size
        refine takeAtK (i := 4) (v := .tuple #[.agg (arrC E1), .bool true, .bool true]) rfl (some 23) rfl (take_run rfl (fun _ _ => by go_simp)) hS ?_
        simp only [Act.put, sia, sc0, scs]
        refine takeAtK (i := 5) (v := .agg (arrC E1)) rfl (some 28) rfl (take_run rfl (fun _ _ => by go_simp)) hS ?_
        simp only [Act.put, sia, sc0, scs]
        refine takeAtK (i := 6) (v := .bool true) rfl (some 29) rfl (take_run rfl (fun _ _ => by go_simp)) hS ?_
        simp only [Act.put, sia, sc0, scs]
        refine takeAtK (i := 7) (v := .bool true) rfl (some 30) rfl (take_run rfl (fun _ _ => by go_simp)) hS ?_
        simp only [Act.put, sia, sc0, scs]
        refine wpAnyH_ready (rs := [9]) (by kernel_rfl) (by simp) ?_
        refine (AllReadyH.cons rfl ?_ AllReadyH.nil)
        intro K hK
        rw [if_pos (by rfl)]
        refine wp_store_row 22 _ _ rfl (w26.heap.size) (arrC E1) rfl rfl 22 (zL) xh6 (info32_of (arrC E1) (arrC_size _)) (zL_size.trans (arrC_size _).symm) (arrC_one _) ?_
        refine put_at (none) rfl ?_
        simp only [Act.put, sia, sc0, scs]
        have xh6 : (w45.setRow (w26.heap.size) (arrC E1)).heap[w26.heap.size]? = some (.cells (arrC E1) 22 (0, 0)) := (setRow_heap _ _ _ _ _ _ xh6)
        have hS := hS.storeNew (arrC E1) (show w25.heap.size ≤ w26.heap.size by omega)
        generalize w45.setRow (w26.heap.size) (arrC E1) = w46 at *
        refine hK.out _ _ hS ?_
        clear hK K
        intro _
        have hSz := hS.size
        refine takeAtK (i := 10) (v := .bool true) rfl (some 7) rfl (take_run rfl (fun _ _ => by go_simp)) hS ?_
        simp only [Act.put, sia, sc0, scs]
        refine takeAtK (i := 11) (v := .bool true) rfl (some 8) rfl (take_run rfl (fun _ _ => by go_simp)) hS ?_
        simp only [Act.put, sia, sc0, scs]
        refine wpAnyH_done (by kernel_rfl) ?_ _
        refine NoPanic.normal ?_
        have hsz := hS.size
        have h1 : w46.heap[w.heap.size]? = some (.cells (arrC N) 22 (0, 0)) := hS.old h1 (Nat.ne_of_lt (heap_lt h1))
        have h3 : w46.heap[g3]? = some (.cells (arrC E1) 22 (0, 0)) := hS.old h3 (Nat.ne_of_lt (heap_lt h3))
        have h6 := xh6
        have hBw46 : Hid (Below w.heap.size w w46) := Lib.hid (hBw25.out.trans (hS.below (by omega) hBw25.out.size))
        clear hS
        go_wp2_with fail
        go_meet
        exact ⟨w26.heap.size, rfl, Lib.hid (show w25.heap.size ≤ w26.heap.size by omega), Lib.hid h6, rfl, rfl, Lib.hid h1, Lib.hid h3, Lib.hid hBw46.out, Lib.hid (show w25.heap.size ≤ w46.heap.size by omega)⟩
    case rest =>
      obtain ⟨g6, rfl, Hg6, Hh6, rfl, rfl, Hh1, Hh3, hBw48, Hsz48⟩ := hcut
      obtain ⟨w48, rfl⟩ : ∃ u : World, u = wc := ⟨_, rfl⟩
      have hgl6 := Hg6.out
      have h6 := Hh6.out
      have hgu6 := heap_lt h6
      have h1 := Hh1.out
      have h3 := Hh3.out
      have hsz48 := Hsz48.out
      go_upto_region 6 with (first
        | ((with_reducible refine at_dst 31 ?_); refine wpList_load_row rfl 22 _ rfl (g3) rfl 22 (arrC E1) (0, 0) _ h3 under32 rfl (info32_of (arrC E1) (arrC_size _)) ?_)
        | ((with_reducible refine at_store 9 ?_); refine wpList_store_row rfl 22 _ _ rfl (w48.heap.size) (arrC E1) rfl rfl 22 (zL) (heap_new_at _ _ _ rfl) (info32_of (arrC E1) (arrC_size _)) (zL_size.trans (arrC_size _).symm) (arrC_one _) ?_))
      try simp only [Act.put]
      refine wp_named ?_
      intro w49 ew49
      have hs49 : w48.heap.size + 1 ≤ w49.heap.size := by rw [ew49]; (try simp only [alloc_size, setRow_size]); omega
      replace h1 : w49.heap[w.heap.size]? = some (.cells (arrC N) 22 (0, 0)) := by rw [ew49]; exact (heap_row _ (by omega) (heap_old _ h1))
      replace h3 : w49.heap[g3]? = some (.cells (arrC E1) 22 (0, 0)) := by rw [ew49]; exact (heap_row _ (by omega) (heap_old _ h3))
      replace h6 : w49.heap[g6]? = some (.cells (arrC E1) 22 (0, 0)) := by rw [ew49]; exact (heap_row _ (by omega) (heap_old _ h6))
      replace h9 : w49.heap[w48.heap.size]? = some (.cells (arrC E1) 22 (0, 0)) := by rw [ew49]; exact (setRow_heap _ _ _ _ _ _ (heap_new_at _ _ _ rfl))
      have hBw49 : Hid (Below w.heap.size w w49) := Lib.hid (by rw [ew49]; exact (below_setRow (below_alloc hBw48.out _) (by omega) _))
      clear ew49
      have r9 := Row.ofArr h9
      have c31 := r9.cell (i := 31) (by omega)
      have f31 := r9.frozen (i := 31) (by omega)
      simp only [Nat.zero_add] at c31 f31
      unfold byV at c31
      have h127 := and127 _ (byteN_lt E1 31)
      have e9 := arr_low E1 lE1
      rw [show E1 % 57896044618658097711785492504343953926634992332820282019728792003956564819968 = P.y.val by rw [HE1.out]; exact enc_low P] at e9
      obtain ⟨B31, qB⟩ : ∃ u, u = byteN E1 31 := ⟨_, rfl⟩
      rw [← qB] at c31 h127 e9
      clear qB r9
      go_upto_region 7 with fail
      try simp only [Act.put]
      refine wp_named ?_
      intro w50 ew50
      have hs50 : w49.heap.size ≤ w50.heap.size := by rw [ew50]; simp [World.setCell]
      replace h1 : w50.heap[w.heap.size]? = some (.cells (arrC N) 22 (0, 0)) := by rw [ew50]; exact (setCell_other _ _ _ _ (by omega)).trans h1
      replace h3 : w50.heap[g3]? = some (.cells (arrC E1) 22 (0, 0)) := by rw [ew50]; exact (setCell_other _ _ _ _ (by omega)).trans h3
      replace h6 : w50.heap[g6]? = some (.cells (arrC E1) 22 (0, 0)) := by rw [ew50]; exact (setCell_other _ _ _ _ (by omega)).trans h6
      replace h9 : w50.heap[w48.heap.size]? = some (.cells (arrC (P.y.val)) 22 (0, 0)) := by rw [ew50, ← e9]; exact setCell_blk h9 31 _
      have hBw50 : Hid (Below w.heap.size w w50) := Lib.hid (by rw [ew50]; exact below_setCell hBw49.out (by omega) _ _)
      clear ew50 e9 c31 f31 h127
      refine wp_region_noPanic ?_
      refine wp_region_held_drew (S := Keep (w50.heap.size) w50) (by kernel_rfl) (Keep.start _ _) ?_
      intro hS
      obtain ⟨w51, ed⟩ : ∃ u : World, u = w50.drew := ⟨_, rfl⟩
      rw [← ed] at hS ⊢
      have xh1 : w51.heap[w.heap.size]? = some (.cells (arrC N) 22 (0, 0)) := by rw [ed]; exact h1
      have xh3 : w51.heap[g3]? = some (.cells (arrC E1) 22 (0, 0)) := by rw [ed]; exact h3
      have xh6 : w51.heap[g6]? = some (.cells (arrC E1) 22 (0, 0)) := by rw [ed]; exact h6
      have xh9 : w51.heap[w48.heap.size]? = some (.cells (arrC (P.y.val)) 22 (0, 0)) := by rw [ed]; exact h9
      clear ed
      have hSz := hS.size
      clear xh1
      clear xh3
      clear xh6
      clear xh9
      refine takeAtK (i := 0) (v := .bool true) rfl (some 36) rfl (take_run rfl (fun _ _ => by go_simp)) hS ?_
      simp only [Act.put, sia, sc0, scs]
      refine takeAtK (i := 1) (v := .bool true) rfl (some 37) rfl (take_run rfl (fun _ _ => by go_simp)) hS ?_
      simp only [Act.put, sia, sc0, scs]
      refine takeAtK (i := 2) (v := .agg (arrC E1)) rfl (some 38) rfl (take_row rfl _ _ rfl (g3) rfl _ _ _ h3 (Nat.ne_of_lt (heap_lt h3)) under32 rfl (info32_of (arrC E1) (arrC_size _))) hS ?_
      simp only [Act.put, sia, sc0, scs]
      refine takeAtK (i := 3) (v := .agg (arrC E1)) rfl (some 39) rfl (take_row rfl _ _ rfl (g6) rfl _ _ _ h6 (Nat.ne_of_lt (heap_lt h6)) under32 rfl (info32_of (arrC E1) (arrC_size _))) hS ?_
      simp only [Act.put, sia, sc0, scs]
      refine takeAtK (i := 4) (v := .bool true) rfl (some 40) rfl (take_run rfl (fun _ _ => by go_simp; rw [run_eq_arr _ _ lE1 lE1]; simp)) hS ?_
      simp only [Act.put, sia, sc0, scs]
      refine takeAtK (i := 5) (v := .bool true) rfl (some 41) rfl (take_run rfl (fun _ _ => by go_simp)) hS ?_
      simp only [Act.put, sia, sc0, scs]
      refine takeAtK (i := 6) (v := .bool true) rfl (some 42) rfl (take_run rfl (fun _ _ => by go_simp)) hS ?_
      simp only [Act.put, sia, sc0, scs]
      refine takeAtK (i := 7) (v := .agg (arrC (P.y.val))) rfl (some 43) rfl (take_row rfl _ _ rfl (w48.heap.size) rfl _ _ _ h9 (Nat.ne_of_lt (heap_lt h9)) under32 rfl (info32_of (arrC (P.y.val)) (arrC_size _))) hS ?_
      simp only [Act.put, sia, sc0, scs]
      refine wpAnyH_ready (rs := [8]) (by kernel_rfl) (by simp) ?_
      refine (AllReadyH.cons rfl ?_ AllReadyH.nil)
      intro K hK
      refine ready_call rfl (some 44) rfl 19 #[] (by go_simp) ?_
      refine (prime_v _).mono ?_
      rintro e w52 ⟨rfl, hC⟩
      refine ⟨_, rfl, ?_⟩
      simp only [Act.put, sia, sc0, scs]
      have hS := hS.call hC
      have hz52 := hC.size
      clear hC
      refine hK.out _ _ hS ?_
      clear hK K
      intro _
      have hSz := hS.size
      refine wpAnyH_ready (rs := [9]) (by kernel_rfl) (by simp) ?_
      refine (AllReadyH.cons rfl ?_ AllReadyH.nil)
      intro K hK
      refine ready_call rfl (some 45) rfl 18 #[.agg (arrC (P.y.val)), .agg (arrC pF)] (by go_simp) ?_
      refine (lower_any P.y.val pF (Nat.lt_trans P.y.isLt p_lt) p_lt (Lib.hid P.y.isLt) _).mono ?_
      rintro e w53 ⟨rfl, hC⟩
      refine ⟨_, rfl, ?_⟩
      simp only [Act.put, sia, sc0, scs]
      have hS := hS.call hC
      have hz53 := hC.size
      clear hC
      refine hK.out _ _ hS ?_
      clear hK K
      intro _
      have hSz := hS.size
      refine takeAtK (i := 10) (v := .bool true) rfl (some 46) rfl (take_run rfl (fun _ _ => by go_simp)) hS ?_
      simp only [Act.put, sia, sc0, scs]
      refine takeAtK (i := 11) (v := .bool true) rfl (some 2) rfl (take_run rfl (fun _ _ => by go_simp)) hS ?_
      simp only [Act.put, sia, sc0, scs]
      refine wpAnyH_done (by kernel_rfl) ?_ _
      refine NoPanic.normal ?_
      have hsz := hS.size
      have h1 : w53.heap[w.heap.size]? = some (.cells (arrC N) 22 (0, 0)) := hS.old h1 (Nat.ne_of_lt (heap_lt h1))
      have h3 : w53.heap[g3]? = some (.cells (arrC E1) 22 (0, 0)) := hS.old h3 (Nat.ne_of_lt (heap_lt h3))
      have h6 : w53.heap[g6]? = some (.cells (arrC E1) 22 (0, 0)) := hS.old h6 (Nat.ne_of_lt (heap_lt h6))
      have h9 : w53.heap[w48.heap.size]? = some (.cells (arrC (P.y.val)) 22 (0, 0)) := hS.old h9 (Nat.ne_of_lt (heap_lt h9))
      have hBw53 : Hid (Below w.heap.size w w53) := Lib.hid (hBw50.out.trans (hS.below (by omega) hBw50.out.size))
      clear hS
      go_wp2
      go_ret
      exact ⟨rfl, hBw53.out⟩
set_option maxHeartbeats 4000000 in
theorem PtRT_n (N : Nat) (lN : N < 256 ^ 32) (hN : Hid (decP N = none)) (B : Nat) (w : World) (hD0 : Var 1 z5 B w) (hD1 : Var 0 i5 B w) (hD2 : Var 2 o5 B w) :
    Calls Tryd.prog 5 #[.agg (arrC N)] w fun e w' => e = .returned (.bool true) ∧ Below w.heap.size w w' := by
  have hBl := hD0.1
  obtain ⟨E0, qE0⟩ : ∃ u : Nat, u = encN (CP.zero) := ⟨_, rfl⟩
  have HE0 := Lib.hid qE0
  have lE0 : E0 < 256 ^ 32 := by rw [qE0]; exact encN_lt _
  clear qE0
  go_enter Tryd.func5, Tryd.ntmps5
  go_wp2_with fail
  try simp only [Act.put]
  refine wp_named ?_
  intro w1 ew1
  have hs1 : w.heap.size + 1 ≤ w1.heap.size := by rw [ew1]; (try simp only [alloc_size, setRow_size]); omega
  replace h1 : w1.heap[w.heap.size]? = some (.cells (arrC N) 22 (0, 0)) := by rw [ew1]; exact (heap_new_at _ _ _ rfl)
  have hBw1 : Hid (Below w.heap.size w w1) := Lib.hid (by rw [ew1]; exact (below_alloc (Below.refl _ w) _))
  clear ew1
  go_cut [3, 4, 5] (fun s3 s4 s5 wx => ∃ g3 : Nat, s3 = .pointer (some ⟨g3, 0, none⟩) ∧ Hid (w1.heap.size ≤ g3) ∧ Hid (wx.heap[g3]? = some (.cells (arrC E0) 22 (0, 0))) ∧ s4 = .bool false ∧ s5 = .bool true ∧ Hid (wx.heap[w.heap.size]? = some (.cells (arrC N) 22 (0, 0))) ∧ Hid (Below w.heap.size w wx) ∧ Hid (w1.heap.size ≤ wx.heap.size))
  case first =>
    refine wp_region_noPanic ?_
    refine wp_region_held_drew (S := Keep (w1.heap.size) w1) (by kernel_rfl) (Keep.start _ _) ?_
    intro hS
    obtain ⟨w2, ed⟩ : ∃ u : World, u = w1.drew := ⟨_, rfl⟩
    rw [← ed] at hS ⊢
    have xh1 : w2.heap[w.heap.size]? = some (.cells (arrC N) 22 (0, 0)) := by rw [ed]; exact h1
    clear ed
    have hSz := hS.size
    clear xh1
    refine takeAtK (i := 1) (v := .agg (arrC N)) rfl (some 12) rfl (take_row rfl _ _ rfl (w.heap.size) rfl _ _ _ h1 (Nat.ne_of_lt (heap_lt h1)) under32 rfl (info32_of (arrC N) (arrC_size _))) hS ?_
    simp only [Act.put, sia, sc0, scs]
    refine wpAnyH_ready (rs := [0, 8]) (by kernel_rfl) (by simp) ?_
    refine (AllReadyH.cons rfl ?_ (AllReadyH.cons rfl ?_ AllReadyH.nil))
    · intro K hK
      refine ready_call rfl (some 11) rfl 15 #[] (by go_simp) ?_
      refine (iIdentitye E0 HE0 B _ (hD0.later (hBw1.out.trans (hS.below (by omega) hBw1.out.size))) (hD1.later (hBw1.out.trans (hS.below (by omega) hBw1.out.size))) (hD2.later (hBw1.out.trans (hS.below (by omega) hBw1.out.size)))).mono ?_
      rintro e w3 ⟨rfl, hC⟩
      refine ⟨_, rfl, ?_⟩
      simp only [Act.put, sia, sc0, scs]
      have hS := hS.call hC
      have hz3 := hC.size
      clear hC
      refine hK.out _ _ hS ?_
      clear hK K
      intro _
      have hSz := hS.size
      refine wpAnyH_ready (rs := [2, 8]) (by kernel_rfl) (by simp) ?_
      refine (AllReadyH.cons rfl ?_ (AllReadyH.cons rfl ?_ AllReadyH.nil))
      · intro K hK
        refine ready_call rfl (some 13) rfl 16 #[.agg (arrC N)] (by go_simp) ?_
        refine (slice_any N _).mono ?_
        rintro e w4 ⟨b1_2, c1_2, rfl, hcap1_2, hlb1_2, hC, xhr1_2⟩
        refine ⟨_, rfl, ?_⟩
        simp only [Act.put, sia, sc0, scs]
        have hS := hS.call hC
        have hz4 := hC.size
        clear hC
        have hlb1_2 : w3.heap.size ≤ b1_2 := by (try simp only [alloc_size, setRow_size] at hlb1_2); omega
        have hub1_2 := xhr1_2.lt
        refine hK.out _ _ hS ?_
        clear hK K
        intro _
        have hSz := hS.size
        refine wpAnyH_ready (rs := [3, 8]) (by kernel_rfl) (by simp) ?_
        refine (AllReadyH.cons rfl ?_ (AllReadyH.cons rfl ?_ AllReadyH.nil))
        · intro K hK
          refine ready_call rfl (some 14) rfl 13 #[.agg (arrC E0), .slice (some ⟨b1_2, 0, none⟩) 32 c1_2] (by go_simp) ?_
          refine (iSet_some_nonee (CP.zero)  E0 HE0 E0 N (b1_2) (0) (c1_2)  lE0 (Lib.hid (by rw [HE0.out]; exact dec_enc _)) lN hN hcap1_2 B _ (hD0.later (hBw1.out.trans (hS.below (by omega) hBw1.out.size))) (hD1.later (hBw1.out.trans (hS.below (by omega) hBw1.out.size))) (hD2.later (hBw1.out.trans (hS.below (by omega) hBw1.out.size))) xhr1_2).mono ?_
          rintro e w5 ⟨rfl, hC⟩
          refine ⟨_, rfl, ?_⟩
          simp only [Act.put, sia, sc0, scs]
          have xhr1_2 : Row w5 (b1_2) (0) 32 (byV N) := (Row.below_all xhr1_2 hC)
          have hS := hS.call hC
          have hz5 := hC.size
          clear hC
          refine hK.out _ _ hS ?_
          clear hK K
          intro _
          have hSz := hS.size
          refine takeAtK (i := 4) (v := .tuple #[.agg (arrC E0), .bool false, .bool true]) rfl (some 10) rfl (take_run rfl (fun _ _ => by go_simp)) hS ?_
          simp only [Act.put, sia, sc0, scs]
          refine takeAtK (i := 5) (v := .agg (arrC E0)) rfl (some 15) rfl (take_run rfl (fun _ _ => by go_simp)) hS ?_
          simp only [Act.put, sia, sc0, scs]
          refine takeAtK (i := 6) (v := .bool false) rfl (some 16) rfl (take_run rfl (fun _ _ => by go_simp)) hS ?_
          simp only [Act.put, sia, sc0, scs]
          refine takeAtK (i := 7) (v := .bool true) rfl (some 17) rfl (take_run rfl (fun _ _ => by go_simp)) hS ?_
          simp only [Act.put, sia, sc0, scs]
          refine wpAnyH_ready (rs := [8]) (by kernel_rfl) (by simp) ?_
          refine (AllReadyH.cons rfl ?_ AllReadyH.nil)
          intro K hK
          refine ready_run rfl (some 3) rfl (.pointer (some ⟨w5.heap.size, 0, none⟩)) (w5.alloc (.cells zL 22)) (by go_simp; try rfl) ?_
          simp only [Act.put, sia, sc0, scs]
          obtain ⟨w6, ea⟩ : ∃ u : World, u = w5.alloc (.cells zL 22) := ⟨_, rfl⟩
          rw [← ea]
          have hS := hS.alloc (.cells zL 22)
          rw [← ea] at hS
          have hz6 : w5.heap.size + 1 ≤ w6.heap.size := by rw [ea, alloc_size]; omega
          have hy6 : w1.heap.size ≤ w5.heap.size := hSz
          have xh3 : w6.heap[w5.heap.size]? = some (.cells (zL) 22 (0, 0)) := by rw [ea]; exact heap_new_at _ _ _ rfl
          clear ea
          refine hK.out _ _ hS ?_
          clear hK K
          intro _
          have hSz := hS.size
          refine wpAnyH_ready (rs := [9]) (by kernel_rfl) (by simp) ?_
          refine (AllReadyH.cons rfl ?_ AllReadyH.nil)
          intro K hK
          rw [if_pos (by rfl)]
          refine wp_store_row 22 _ _ rfl (w5.heap.size) (arrC E0) rfl rfl 22 (zL) xh3 (info32_of (arrC E0) (arrC_size _)) (zL_size.trans (arrC_size _).symm) (arrC_one _) ?_
          refine put_at (none) rfl ?_
          simp only [Act.put, sia, sc0, scs]
          have xh3 : (w6.setRow (w5.heap.size) (arrC E0)).heap[w5.heap.size]? = some (.cells (arrC E0) 22 (0, 0)) := (setRow_heap _ _ _ _ _ _ xh3)
          have hS := hS.storeNew (arrC E0) (show w1.heap.size ≤ w5.heap.size by omega)
          generalize w6.setRow (w5.heap.size) (arrC E0) = w7 at *
          refine hK.out _ _ hS ?_
          clear hK K
          intro _
          have hSz := hS.size
          refine takeAtK (i := 10) (v := .bool false) rfl (some 4) rfl (take_run rfl (fun _ _ => by go_simp)) hS ?_
          simp only [Act.put, sia, sc0, scs]
          refine takeAtK (i := 11) (v := .bool true) rfl (some 5) rfl (take_run rfl (fun _ _ => by go_simp)) hS ?_
          simp only [Act.put, sia, sc0, scs]
          refine wpAnyH_done (by kernel_rfl) ?_ _
          refine NoPanic.normal ?_
          have hsz := hS.size
          have h1 : w7.heap[w.heap.size]? = some (.cells (arrC N) 22 (0, 0)) := hS.old h1 (Nat.ne_of_lt (heap_lt h1))
          have h3 := xh3
          have hBw7 : Hid (Below w.heap.size w w7) := Lib.hid (hBw1.out.trans (hS.below (by omega) hBw1.out.size))
          clear hS
          go_wp2_with fail
          go_meet
          exact ⟨w5.heap.size, rfl, Lib.hid (show w1.heap.size ≤ w5.heap.size by omega), Lib.hid h3, rfl, rfl, Lib.hid h1, Lib.hid hBw7.out, Lib.hid (show w1.heap.size ≤ w7.heap.size by omega)⟩
        · intro K hK
          refine ready_run rfl (some 3) rfl (.pointer (some ⟨w4.heap.size, 0, none⟩)) (w4.alloc (.cells zL 22)) (by go_simp; try rfl) ?_
          simp only [Act.put, sia, sc0, scs]
          obtain ⟨w9, ea⟩ : ∃ u : World, u = w4.alloc (.cells zL 22) := ⟨_, rfl⟩
          rw [← ea]
          have xhr1_2 : Row w9 (b1_2) (0) 32 (byV N) := by rw [ea]; exact (Row.alloc xhr1_2 _)
          have hS := hS.alloc (.cells zL 22)
          rw [← ea] at hS
          have hz9 : w4.heap.size + 1 ≤ w9.heap.size := by rw [ea, alloc_size]; omega
          have hy9 : w1.heap.size ≤ w4.heap.size := hSz
          have xh3 : w9.heap[w4.heap.size]? = some (.cells (zL) 22 (0, 0)) := by rw [ea]; exact heap_new_at _ _ _ rfl
          clear ea
          refine hK.out _ _ hS ?_
          clear hK K
          intro _
          have hSz := hS.size
          refine wpAnyH_ready (rs := [3]) (by kernel_rfl) (by simp) ?_
          refine (AllReadyH.cons rfl ?_ AllReadyH.nil)
          intro K hK
          refine ready_call rfl (some 14) rfl 13 #[.agg (arrC E0), .slice (some ⟨b1_2, 0, none⟩) 32 c1_2] (by go_simp) ?_
          refine (iSet_some_nonee (CP.zero)  E0 HE0 E0 N (b1_2) (0) (c1_2)  lE0 (Lib.hid (by rw [HE0.out]; exact dec_enc _)) lN hN hcap1_2 B _ (hD0.later (hBw1.out.trans (hS.below (by omega) hBw1.out.size))) (hD1.later (hBw1.out.trans (hS.below (by omega) hBw1.out.size))) (hD2.later (hBw1.out.trans (hS.below (by omega) hBw1.out.size))) xhr1_2).mono ?_
          rintro e w10 ⟨rfl, hC⟩
          refine ⟨_, rfl, ?_⟩
          simp only [Act.put, sia, sc0, scs]
          have xhr1_2 : Row w10 (b1_2) (0) 32 (byV N) := (Row.below_all xhr1_2 hC)
          have xh3 : w10.heap[w4.heap.size]? = some (.cells (zL) 22 (0, 0)) := (heap_call hC xh3)
          have hS := hS.call hC
          have hz10 := hC.size
          clear hC
          refine hK.out _ _ hS ?_
          clear hK K
          intro _
          have hSz := hS.size
          refine takeAtK (i := 4) (v := .tuple #[.agg (arrC E0), .bool false, .bool true]) rfl (some 10) rfl (take_run rfl (fun _ _ => by go_simp)) hS ?_
          simp only [Act.put, sia, sc0, scs]
          refine takeAtK (i := 5) (v := .agg (arrC E0)) rfl (some 15) rfl (take_run rfl (fun _ _ => by go_simp)) hS ?_
          simp only [Act.put, sia, sc0, scs]
          refine takeAtK (i := 6) (v := .bool false) rfl (some 16) rfl (take_run rfl (fun _ _ => by go_simp)) hS ?_
          simp only [Act.put, sia, sc0, scs]
          refine takeAtK (i := 7) (v := .bool true) rfl (some 17) rfl (take_run rfl (fun _ _ => by go_simp)) hS ?_
          simp only [Act.put, sia, sc0, scs]
          refine wpAnyH_ready (rs := [9]) (by kernel_rfl) (by simp) ?_
          refine (AllReadyH.cons rfl ?_ AllReadyH.nil)
          intro K hK
          rw [if_pos (by rfl)]
          refine wp_store_row 22 _ _ rfl (w4.heap.size) (arrC E0) rfl rfl 22 (zL) xh3 (info32_of (arrC E0) (arrC_size _)) (zL_size.trans (arrC_size _).symm) (arrC_one _) ?_
          refine put_at (none) rfl ?_
          simp only [Act.put, sia, sc0, scs]
          have xh3 : (w10.setRow (w4.heap.size) (arrC E0)).heap[w4.heap.size]? = some (.cells (arrC E0) 22 (0, 0)) := (setRow_heap _ _ _ _ _ _ xh3)
          have hS := hS.storeNew (arrC E0) (show w1.heap.size ≤ w4.heap.size by omega)
          generalize w10.setRow (w4.heap.size) (arrC E0) = w11 at *
          refine hK.out _ _ hS ?_
          clear hK K
          intro _
          have hSz := hS.size
          refine takeAtK (i := 10) (v := .bool false) rfl (some 4) rfl (take_run rfl (fun _ _ => by go_simp)) hS ?_
          simp only [Act.put, sia, sc0, scs]
          refine takeAtK (i := 11) (v := .bool true) rfl (some 5) rfl (take_run rfl (fun _ _ => by go_simp)) hS ?_
          simp only [Act.put, sia, sc0, scs]
          refine wpAnyH_done (by kernel_rfl) ?_ _
          refine NoPanic.normal ?_
          have hsz := hS.size
          have h1 : w11.heap[w.heap.size]? = some (.cells (arrC N) 22 (0, 0)) := hS.old h1 (Nat.ne_of_lt (heap_lt h1))
          have h3 := xh3
          have hBw11 : Hid (Below w.heap.size w w11) := Lib.hid (hBw1.out.trans (hS.below (by omega) hBw1.out.size))
          clear hS
          go_wp2_with fail
          go_meet
          exact ⟨w4.heap.size, rfl, Lib.hid (show w1.heap.size ≤ w4.heap.size by omega), Lib.hid h3, rfl, rfl, Lib.hid h1, Lib.hid hBw11.out, Lib.hid (show w1.heap.size ≤ w11.heap.size by omega)⟩
      · intro K hK
        refine ready_run rfl (some 3) rfl (.pointer (some ⟨w3.heap.size, 0, none⟩)) (w3.alloc (.cells zL 22)) (by go_simp; try rfl) ?_
        simp only [Act.put, sia, sc0, scs]
        obtain ⟨w13, ea⟩ : ∃ u : World, u = w3.alloc (.cells zL 22) := ⟨_, rfl⟩
        rw [← ea]
        have hS := hS.alloc (.cells zL 22)
        rw [← ea] at hS
        have hz13 : w3.heap.size + 1 ≤ w13.heap.size := by rw [ea, alloc_size]; omega
        have hy13 : w1.heap.size ≤ w3.heap.size := hSz
        have xh3 : w13.heap[w3.heap.size]? = some (.cells (zL) 22 (0, 0)) := by rw [ea]; exact heap_new_at _ _ _ rfl
        clear ea
        refine hK.out _ _ hS ?_
        clear hK K
        intro _
        have hSz := hS.size
        refine wpAnyH_ready (rs := [2]) (by kernel_rfl) (by simp) ?_
        refine (AllReadyH.cons rfl ?_ AllReadyH.nil)
        intro K hK
        refine ready_call rfl (some 13) rfl 16 #[.agg (arrC N)] (by go_simp) ?_
        refine (slice_any N _).mono ?_
        rintro e w14 ⟨b1_2, c1_2, rfl, hcap1_2, hlb1_2, hC, xhr1_2⟩
        refine ⟨_, rfl, ?_⟩
        simp only [Act.put, sia, sc0, scs]
        have xh3 : w14.heap[w3.heap.size]? = some (.cells (zL) 22 (0, 0)) := (heap_call hC xh3)
        have hS := hS.call hC
        have hz14 := hC.size
        clear hC
        have hlb1_2 : w13.heap.size ≤ b1_2 := by (try simp only [alloc_size, setRow_size] at hlb1_2); omega
        have hub1_2 := xhr1_2.lt
        refine hK.out _ _ hS ?_
        clear hK K
        intro _
        have hSz := hS.size
        refine wpAnyH_ready (rs := [3]) (by kernel_rfl) (by simp) ?_
        refine (AllReadyH.cons rfl ?_ AllReadyH.nil)
        intro K hK
        refine ready_call rfl (some 14) rfl 13 #[.agg (arrC E0), .slice (some ⟨b1_2, 0, none⟩) 32 c1_2] (by go_simp) ?_
        refine (iSet_some_nonee (CP.zero)  E0 HE0 E0 N (b1_2) (0) (c1_2)  lE0 (Lib.hid (by rw [HE0.out]; exact dec_enc _)) lN hN hcap1_2 B _ (hD0.later (hBw1.out.trans (hS.below (by omega) hBw1.out.size))) (hD1.later (hBw1.out.trans (hS.below (by omega) hBw1.out.size))) (hD2.later (hBw1.out.trans (hS.below (by omega) hBw1.out.size))) xhr1_2).mono ?_
        rintro e w15 ⟨rfl, hC⟩
        refine ⟨_, rfl, ?_⟩
        simp only [Act.put, sia, sc0, scs]
        have xh3 : w15.heap[w3.heap.size]? = some (.cells (zL) 22 (0, 0)) := (heap_call hC xh3)
        have xhr1_2 : Row w15 (b1_2) (0) 32 (byV N) := (Row.below_all xhr1_2 hC)
        have hS := hS.call hC
        have hz15 := hC.size
        clear hC
        refine hK.out _ _ hS ?_
        clear hK K
        intro _
        have hSz := hS.size
        refine takeAtK (i := 4) (v := .tuple #[.agg (arrC E0), .bool false, .bool true]) rfl (some 10) rfl (take_run rfl (fun _ _ => by go_simp)) hS ?_
        simp only [Act.put, sia, sc0, scs]
        refine takeAtK (i := 5) (v := .agg (arrC E0)) rfl (some 15) rfl (take_run rfl (fun _ _ => by go_simp)) hS ?_
        simp only [Act.put, sia, sc0, scs]
        refine takeAtK (i := 6) (v := .bool false) rfl (some 16) rfl (take_run rfl (fun _ _ => by go_simp)) hS ?_
        simp only [Act.put, sia, sc0, scs]
        refine takeAtK (i := 7) (v := .bool true) rfl (some 17) rfl (take_run rfl (fun _ _ => by go_simp)) hS ?_
        simp only [Act.put, sia, sc0, scs]
        refine wpAnyH_ready (rs := [9]) (by kernel_rfl) (by simp) ?_
        refine (AllReadyH.cons rfl ?_ AllReadyH.nil)
        intro K hK
        rw [if_pos (by rfl)]
        refine wp_store_row 22 _ _ rfl (w3.heap.size) (arrC E0) rfl rfl 22 (zL) xh3 (info32_of (arrC E0) (arrC_size _)) (zL_size.trans (arrC_size _).symm) (arrC_one _) ?_
        refine put_at (none) rfl ?_
        simp only [Act.put, sia, sc0, scs]
        have xh3 : (w15.setRow (w3.heap.size) (arrC E0)).heap[w3.heap.size]? = some (.cells (arrC E0) 22 (0, 0)) := (setRow_heap _ _ _ _ _ _ xh3)
        have hS := hS.storeNew (arrC E0) (show w1.heap.size ≤ w3.heap.size by omega)
        generalize w15.setRow (w3.heap.size) (arrC E0) = w16 at *
        refine hK.out _ _ hS ?_
        clear hK K
        intro _
        have hSz := hS.size
        refine takeAtK (i := 10) (v := .bool false) rfl (some 4) rfl (take_run rfl (fun _ _ => by go_simp)) hS ?_
        simp only [Act.put, sia, sc0, scs]
        refine takeAtK (i := 11) (v := .bool true) rfl (some 5) rfl (take_run rfl (fun _ _ => by go_simp)) hS ?_
        simp only [Act.put, sia, sc0, scs]
        refine wpAnyH_done (by kernel_rfl) ?_ _
        refine NoPanic.normal ?_
        have hsz := hS.size
        have h1 : w16.heap[w.heap.size]? = some (.cells (arrC N) 22 (0, 0)) := hS.old h1 (Nat.ne_of_lt (heap_lt h1))
        have h3 := xh3
        have hBw16 : Hid (Below w.heap.size w w16) := Lib.hid (hBw1.out.trans (hS.below (by omega) hBw1.out.size))
        clear hS
        go_wp2_with fail
        go_meet
        exact ⟨w3.heap.size, rfl, Lib.hid (show w1.heap.size ≤ w3.heap.size by omega), Lib.hid h3, rfl, rfl, Lib.hid h1, Lib.hid hBw16.out, Lib.hid (show w1.heap.size ≤ w16.heap.size by omega)⟩
    · intro K hK
      refine ready_run rfl (some 3) rfl (.pointer (some ⟨w2.heap.size, 0, none⟩)) (w2.alloc (.cells zL 22)) (by go_simp; try rfl) ?_
      simp only [Act.put, sia, sc0, scs]
      obtain ⟨w18, ea⟩ : ∃ u : World, u = w2.alloc (.cells zL 22) := ⟨_, rfl⟩
      rw [← ea]
      have hS := hS.alloc (.cells zL 22)
      rw [← ea] at hS
      have hz18 : w2.heap.size + 1 ≤ w18.heap.size := by rw [ea, alloc_size]; omega
      have hy18 : w1.heap.size ≤ w2.heap.size := hSz
      have xh3 : w18.heap[w2.heap.size]? = some (.cells (zL) 22 (0, 0)) := by rw [ea]; exact heap_new_at _ _ _ rfl
      clear ea
      refine hK.out _ _ hS ?_
      clear hK K
      intro _
      have hSz := hS.size
      refine wpAnyH_ready (rs := [0]) (by kernel_rfl) (by simp) ?_
      refine (AllReadyH.cons rfl ?_ AllReadyH.nil)
      intro K hK
      refine ready_call rfl (some 11) rfl 15 #[] (by go_simp) ?_
      refine (iIdentitye E0 HE0 B _ (hD0.later (hBw1.out.trans (hS.below (by omega) hBw1.out.size))) (hD1.later (hBw1.out.trans (hS.below (by omega) hBw1.out.size))) (hD2.later (hBw1.out.trans (hS.below (by omega) hBw1.out.size)))).mono ?_
      rintro e w19 ⟨rfl, hC⟩
      refine ⟨_, rfl, ?_⟩
      simp only [Act.put, sia, sc0, scs]
      have xh3 : w19.heap[w2.heap.size]? = some (.cells (zL) 22 (0, 0)) := (heap_call hC xh3)
      have hS := hS.call hC
      have hz19 := hC.size
      clear hC
      refine hK.out _ _ hS ?_
      clear hK K
      intro _
      have hSz := hS.size
      refine wpAnyH_ready (rs := [2]) (by kernel_rfl) (by simp) ?_
      refine (AllReadyH.cons rfl ?_ AllReadyH.nil)
      intro K hK
      refine ready_call rfl (some 13) rfl 16 #[.agg (arrC N)] (by go_simp) ?_
      refine (slice_any N _).mono ?_
      rintro e w20 ⟨b1_2, c1_2, rfl, hcap1_2, hlb1_2, hC, xhr1_2⟩
      refine ⟨_, rfl, ?_⟩
      simp only [Act.put, sia, sc0, scs]
      have xh3 : w20.heap[w2.heap.size]? = some (.cells (zL) 22 (0, 0)) := (heap_call hC xh3)
      have hS := hS.call hC
      have hz20 := hC.size
      clear hC
      have hlb1_2 : w19.heap.size ≤ b1_2 := by (try simp only [alloc_size, setRow_size] at hlb1_2); omega
      have hub1_2 := xhr1_2.lt
      refine hK.out _ _ hS ?_
      clear hK K
      intro _
      have hSz := hS.size
      refine wpAnyH_ready (rs := [3]) (by kernel_rfl) (by simp) ?_
      refine (AllReadyH.cons rfl ?_ AllReadyH.nil)
      intro K hK
      refine ready_call rfl (some 14) rfl 13 #[.agg (arrC E0), .slice (some ⟨b1_2, 0, none⟩) 32 c1_2] (by go_simp) ?_
      refine (iSet_some_nonee (CP.zero)  E0 HE0 E0 N (b1_2) (0) (c1_2)  lE0 (Lib.hid (by rw [HE0.out]; exact dec_enc _)) lN hN hcap1_2 B _ (hD0.later (hBw1.out.trans (hS.below (by omega) hBw1.out.size))) (hD1.later (hBw1.out.trans (hS.below (by omega) hBw1.out.size))) (hD2.later (hBw1.out.trans (hS.below (by omega) hBw1.out.size))) xhr1_2).mono ?_
      rintro e w21 ⟨rfl, hC⟩
      refine ⟨_, rfl, ?_⟩
      simp only [Act.put, sia, sc0, scs]
      have xh3 : w21.heap[w2.heap.size]? = some (.cells (zL) 22 (0, 0)) := (heap_call hC xh3)
      have xhr1_2 : Row w21 (b1_2) (0) 32 (byV N) := (Row.below_all xhr1_2 hC)
      have hS := hS.call hC
      have hz21 := hC.size
      clear hC
      refine hK.out _ _ hS ?_
      clear hK K
      intro _
      have hSz := hS.size
      refine takeAtK (i := 4) (v := .tuple #[.agg (arrC E0), .bool false, .bool true]) rfl (some 10) rfl (take_run rfl (fun _ _ => by go_simp)) hS ?_
      simp only [Act.put, sia, sc0, scs]
      refine takeAtK (i := 5) (v := .agg (arrC E0)) rfl (some 15) rfl (take_run rfl (fun _ _ => by go_simp)) hS ?_
      simp only [Act.put, sia, sc0, scs]
      refine takeAtK (i := 6) (v := .bool false) rfl (some 16) rfl (take_run rfl (fun _ _ => by go_simp)) hS ?_
      simp only [Act.put, sia, sc0, scs]
      refine takeAtK (i := 7) (v := .bool true) rfl (some 17) rfl (take_run rfl (fun _ _ => by go_simp)) hS ?_
      simp only [Act.put, sia, sc0, scs]
      refine wpAnyH_ready (rs := [9]) (by kernel_rfl) (by simp) ?_
      refine (AllReadyH.cons rfl ?_ AllReadyH.nil)
      intro K hK
      rw [if_pos (by rfl)]
      refine wp_store_row 22 _ _ rfl (w2.heap.size) (arrC E0) rfl rfl 22 (zL) xh3 (info32_of (arrC E0) (arrC_size _)) (zL_size.trans (arrC_size _).symm) (arrC_one _) ?_
      refine put_at (none) rfl ?_
      simp only [Act.put, sia, sc0, scs]
      have xh3 : (w21.setRow (w2.heap.size) (arrC E0)).heap[w2.heap.size]? = some (.cells (arrC E0) 22 (0, 0)) := (setRow_heap _ _ _ _ _ _ xh3)
      have hS := hS.storeNew (arrC E0) (show w1.heap.size ≤ w2.heap.size by omega)
      generalize w21.setRow (w2.heap.size) (arrC E0) = w22 at *
      refine hK.out _ _ hS ?_
      clear hK K
      intro _
      have hSz := hS.size
      refine takeAtK (i := 10) (v := .bool false) rfl (some 4) rfl (take_run rfl (fun _ _ => by go_simp)) hS ?_
      simp only [Act.put, sia, sc0, scs]
      refine takeAtK (i := 11) (v := .bool true) rfl (some 5) rfl (take_run rfl (fun _ _ => by go_simp)) hS ?_
      simp only [Act.put, sia, sc0, scs]
      refine wpAnyH_done (by kernel_rfl) ?_ _
      refine NoPanic.normal ?_
      have hsz := hS.size
      have h1 : w22.heap[w.heap.size]? = some (.cells (arrC N) 22 (0, 0)) := hS.old h1 (Nat.ne_of_lt (heap_lt h1))
      have h3 := xh3
      have hBw22 : Hid (Below w.heap.size w w22) := Lib.hid (hBw1.out.trans (hS.below (by omega) hBw1.out.size))
      clear hS
      go_wp2_with fail
      go_meet
      exact ⟨w2.heap.size, rfl, Lib.hid (show w1.heap.size ≤ w2.heap.size by omega), Lib.hid h3, rfl, rfl, Lib.hid h1, Lib.hid hBw22.out, Lib.hid (show w1.heap.size ≤ w22.heap.size by omega)⟩
  case rest =>
    obtain ⟨g3, rfl, Hg3, Hh3, rfl, rfl, Hh1, hBw24, Hsz24⟩ := hcut
    obtain ⟨w24, rfl⟩ : ∃ u : World, u = wc := ⟨_, rfl⟩
    have hgl3 := Hg3.out
    have h3 := Hh3.out
    have hgu3 := heap_lt h3
    have h1 := Hh1.out
    have hsz24 := Hsz24.out
    go_wp2_with (first
      | ((with_reducible refine at_dst 20 ?_); refine wpList_load_row rfl 22 _ rfl (w.heap.size) rfl 22 (arrC N) (0, 0) _ h1 under32 rfl (info32_of (arrC N) (arrC_size _)) ?_))
    refine (isPoint_n N  lN hN _).mono ?_
    rintro e w25 ⟨rfl, hC25⟩
    have hs25 : w24.heap.size ≤ w25.heap.size := by have := hC25.size; (try simp only [alloc_size, setRow_size] at this); omega
    replace h1 : w25.heap[w.heap.size]? = some (.cells (arrC N) 22 (0, 0)) := (heap_call hC25 h1)
    replace h3 : w25.heap[g3]? = some (.cells (arrC E0) 22 (0, 0)) := (heap_call hC25 h3)
    have hBw25 : Hid (Below w.heap.size w w25) := Lib.hid (below_call hBw24.out hC25)
    clear hC25
    go_wp2
    go_ret
    exact ⟨rfl, hBw25.out⟩
theorem PtRT_walk (N : Nat) (lN : N < 256 ^ 32) (B : Nat) (w : World) (hD0 : Var 1 z5 B w) (hD1 : Var 0 i5 B w) (hD2 : Var 2 o5 B w) : Calls Tryd.prog 5 #[.agg (arrC N)] w fun e w' => e = .returned (.bool true) ∧ Below w.heap.size w w' := by
  cases hP : decP N with
  | none => exact PtRT_n N lN (Lib.hid hP) B w hD0 hD1 hD2
  | some P => exact PtRT_s N P lN (Lib.hid hP) B w hD0 hD1 hD2
end

section
open Go.ChangeShapes Go.WideShapes Go.ChangeAt Go.RowKit
set_option maxRecDepth 100000 in
theorem fnPointRoundTrip_laid {W : World} (h : laidMetH Tryd.prog Rows.fnPointRoundTripRow.laid W) : Var 1 z5 W.heap.size W ∧ Var 2 o5 W.heap.size W ∧ Var 0 i5 W.heap.size W := by
  rw [MakeChecks.laidMetH_plain _ _ _ (by kernel_rfl)] at h
  obtain ⟨ps, ⟨g0, t0, cs0, f0, q0, r0, hg0, ht0, hv0, hd0, ⟨g1, t1, cs1, f1, q1, r1, hg1, ht1, hv1, hd1, ⟨g2, t2, cs2, f2, q2, r2, hg2, ht2, hv2, hd2, hlast, hp2⟩, hp1⟩, hp0⟩, _, hfr⟩ := h
  obtain rfl := Option.some.inj ((show Tryd.prog.globalNamed "loop.example/pub-g03328/pub/field.feZero" = some 1 by kernel_rfl).symm.trans hg0)
  obtain rfl := Option.some.inj ((show (Tryd.prog.globals[1]?).map (·.type) = some 68 by kernel_rfl).symm.trans ht0)
  obtain rfl := Option.some.inj ((show Tryd.prog.globalNamed "loop.example/pub-g03328/pub/field.feOne" = some 2 by kernel_rfl).symm.trans hg1)
  obtain rfl := Option.some.inj ((show (Tryd.prog.globals[2]?).map (·.type) = some 68 by kernel_rfl).symm.trans ht1)
  obtain rfl := Option.some.inj ((show Tryd.prog.globalNamed "loop.example/pub-g03328/pub/field.sqrtM1" = some 0 by kernel_rfl).symm.trans hg2)
  obtain rfl := Option.some.inj ((show (Tryd.prog.globals[0]?).map (·.type) = some 68 by kernel_rfl).symm.trans ht2)
  have hin0 : ∀ x, x ∈ q0 → x ∈ ps := by
    intro x hx
    rw [hp0]
    simp [hx]
  have hD0 := laid_el 0 0 0 0 0 hg0 hv0 hd0 (fun b off hm => (hfr b off (hin0 _ hm)).1)
  have hin1 : ∀ x, x ∈ q1 → x ∈ ps := by
    intro x hx
    rw [hp0, hp1]
    simp [hx]
  have hD1 := laid_el 1 0 0 0 0 hg1 hv1 hd1 (fun b off hm => (hfr b off (hin1 _ hm)).1)
  have hin2 : ∀ x, x ∈ q2 → x ∈ ps := by
    intro x hx
    rw [hp0, hp1, hp2]
    simp [hx]
  have hD2 := laid_el 1718705420411056 234908883556509 2233514472574048 2117202627021982 765476049583133 hg2 hv2 hd2 (fun b off hm => (hfr b off (hin2 _ hm)).1)
  exact ⟨hD0, hD1, hD2⟩
theorem fnPointRoundTrip_met (os : Os) (args : Array Value) : laidMetH Tryd.prog Rows.fnPointRoundTripRow.laid ((World.doorLaid Tryd.prog 400 os).forCall (fun _ _ => 0) ⟨#[], args, []⟩).memory :=
  laidMetH_of_parts3 (fuel := 8) (laidMet_of_run' 8 (by kernel_rfl) (by kernel_rfl)) (by kernel_rfl) (by kernel_rfl)
set_option maxRecDepth 100000 in
theorem fnPointRoundTrip_lifted (os : Os) (started : os.Started) (H : Type) (enc : TypeId × Value → H) :
    ReturnsInHanded {} Tryd.checked os 5 .any (fun w args => (Rows.fnPointRoundTripSpec.pre enc Tryd.prog Tryd.f5 [] false w args ∧ laidMetH Tryd.prog Rows.fnPointRoundTripRow.laid w) ∧ sizedMet enc Tryd.prog Tryd.f5 (OpenSpec.ofChange Rows.fnPointRoundTripSpec) false w args)
      (Rows.fnPointRoundTripSpec.post enc Tryd.prog Tryd.f5 false true false false) := by
  refine returnsInHanded_of_change_and (C := Tryd.checked) (X := fun w _ => laidMetH Tryd.prog Rows.fnPointRoundTripRow.laid w) (fun _ _ _ hh h => h.of_heap hh) Tryd.own started (by kernel_rfl) Tryd.func5
    (ChangeSpec.witness_shaped (enc := enc) (C := Tryd.checked) (os := os) (X := fun w _ => laidMetH Tryd.prog Rows.fnPointRoundTripRow.laid w) false (World.doorLaid Tryd.prog 400 os) #[.agg #[.int .u8 0, .int .u8 0, .int .u8 0, .int .u8 0, .int .u8 0, .int .u8 0, .int .u8 0, .int .u8 0, .int .u8 0, .int .u8 0, .int .u8 0, .int .u8 0, .int .u8 0, .int .u8 0, .int .u8 0, .int .u8 0, .int .u8 0, .int .u8 0, .int .u8 0, .int .u8 0, .int .u8 0, .int .u8 0, .int .u8 0, .int .u8 0, .int .u8 0, .int .u8 0, .int .u8 0, .int .u8 0, .int .u8 0, .int .u8 0, .int .u8 0, .int .u8 0]] 8 rfl (World.shaped_of_RefB (by kernel_rfl) (by kernel_rfl)) (by kernel_rfl) (by kernel_rfl) (by kernel_rfl) (fnPointRoundTrip_met os _)) ?_
  intro W base args ds gs before hval0 hW _ _ hL _
  have hval : ∀ (j : Nat) t v, Tryd.f5.params[j]? = some t → args[j]? = some v → Value.okWide Tryd.prog W .any base t v := hval0
  have hW' := hW
  obtain ⟨p, q, hA0, hV, rfl, hfz, hnd⟩ := hW
  have hA : DataW.TrodAll enc Tryd.prog W 0 (fun _ => true) true Tryd.f5.params.toList args.toList ds p := hA0
  rw [Tryd.params5] at hA hval
  obtain ⟨v0, d0, rfl, rfl, h0⟩ := trodAll_one hA
  obtain ⟨X, bX, rfl, rfl, sX⟩ := open32 (hval 0 22 v0 rfl rfl) h0
  clear hA0 hval0 hA
  have hVV : DataW.TrodVars enc Tryd.prog W (fun _ => true) ["loop.example/pub-g03328/pub/field.feOne", "loop.example/pub-g03328/pub/field.sqrtM1", "loop.example/pub-g03328/pub/field.feZero"] gs q := hV
  have hVs := fun W' (hB : Below W.heap.size W W') => vars_stay hB (ns := ["loop.example/pub-g03328/pub/field.feOne", "loop.example/pub-g03328/pub/field.sqrtM1", "loop.example/pub-g03328/pub/field.feZero"]) (gs := gs) (q := q) (by
    intro n hn g t hg ht
    simp only [List.mem_cons, List.not_mem_nil, or_false] at hn
    rcases hn with rfl | rfl | rfl
    · obtain rfl := Option.some.inj ((show Tryd.prog.globalNamed "loop.example/pub-g03328/pub/field.feOne" = some 2 by kernel_rfl).symm.trans hg)
      obtain rfl := Option.some.inj ((show (Tryd.prog.globals[2]?).map (·.type) = some 68 by kernel_rfl).symm.trans ht)
      exact ⟨by kernel_rfl, of_decide_eq_true (by kernel_rfl)⟩
    · obtain rfl := Option.some.inj ((show Tryd.prog.globalNamed "loop.example/pub-g03328/pub/field.sqrtM1" = some 0 by kernel_rfl).symm.trans hg)
      obtain rfl := Option.some.inj ((show (Tryd.prog.globals[0]?).map (·.type) = some 68 by kernel_rfl).symm.trans ht)
      exact ⟨by kernel_rfl, of_decide_eq_true (by kernel_rfl)⟩
    · obtain rfl := Option.some.inj ((show Tryd.prog.globalNamed "loop.example/pub-g03328/pub/field.feZero" = some 1 by kernel_rfl).symm.trans hg)
      obtain rfl := Option.some.inj ((show (Tryd.prog.globals[1]?).map (·.type) = some 68 by kernel_rfl).symm.trans ht)
      exact ⟨by kernel_rfl, of_decide_eq_true (by kernel_rfl)⟩) hVV
  obtain ⟨y0, y1, y2, hgs⟩ := list_len3 (trodVars_len hVV)
  subst hgs
  obtain ⟨hD0, hD1, hD2⟩ := fnPointRoundTrip_laid hL
  refine (PtRT_walk X bX W.heap.size W hD0 hD2 hD1).mono fun e W' ⟨he, hB⟩ => ?_
  subst he
  exact ⟨_, rfl, _, _, _, [], [], q, hW', trodAll_mk1 (shut_bool (by kernel_rfl) true), trodAll_mk1 (sX W' _), hVs W' hB, hB.frame _, fun h => by cases h⟩
theorem fnPointRoundTrip_holds : Rows.FnPointRoundTripSaid :=
  OpenClaim.holds_of_wide 5 Tryd.f5 rfl rfl rfl rfl rfl rfl rfl ⟨rfl, rfl, rfl, rfl, rfl⟩ rfl rfl rfl rfl rfl (by kernel_rfl) Tryd.func5 (by kernel_rfl)
    (of_decide_eq_true (by kernel_rfl)) (by unfold Func.isWrapper; first | (rw [if_pos (by decide +kernel)]; kernel_rfl) | (rw [if_neg (by decide +kernel)]; exact ⟨rfl, rfl⟩))
    (fun os started H enc _ => fnPointRoundTrip_lifted os started H enc)
theorem fnPointRoundTrip_card : Rows.FnPointRoundTripCardSaid :=
  Claim7.holds_tied_plain_at .later [] [.widerDeep, .widerDeep, .widerDeep] true Rows.fnPointRoundTripCard.stood.harness false
    fnPointRoundTrip_holds (fun _ h => by cases h) (by kernel_rfl) (fun _ h => by cases h) fnPointRoundTrip_row_tie rfl ⟨rfl, rfl⟩ (by kernel_rfl) rfl
    (fun f fn hf hfn => by
      obtain rfl : f = 5 := Option.some.inj ((show Tryd.prog.funcNamed "loop.example/pub-g03328/laws.FnPointRoundTrip" = some 5 by kernel_rfl).symm.trans hf) |>.symm
      obtain rfl : fn = Tryd.f5 := (Option.some.inj (Tryd.func5.symm.trans hfn)).symm
      exact ⟨by kernel_rfl, fun j t ht => by
        rw [Tryd.params5] at ht
        have h3 : t = 22 := by
          rcases j with _ | j
          · simp at ht; subst ht; simp
          · simp at ht
        subst h3
        exact (show Tryd.prog.wantsStandIn 22 = false by kernel_rfl)⟩)
    (by kernel_rfl)
end

end Go.Proofs.YtcenlinpbpbpoaaDoor
