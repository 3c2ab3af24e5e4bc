/- Parts of texts for several laws: Columns of 128-bit words: words on cells. Absolute. The reference's power. The reference's element. element under a name. The reference's inverse. The reference's opposite, FieldNegate, FieldZero, FieldOne. spec. -/
import Derived.BigRegion
import Derived.ChangeKeysEq
import Derived.Deep.DeepCutAuto
import Derived.Deep.Draws
import Derived.Deep.Fields
import Derived.Deep.Quiet
import Derived.Deep.RegionHeld3
import Derived.Deep.WholeRow
import Derived.LaidMore
import Derived.Laws.Bits64b
import Derived.Laws.CopyOwn
import Derived.Laws.Externs
import Derived.Laws.Tables
import Derived.Lib.Hide
import Derived.LoopTactic
import Derived.OpenShut
import Derived.ProofKit
import Derived.StillTailTactics
import Derived.Stop.Joined
import Derived.Test.YtcenlinpbpbpoaaDoorProg
import Derived.WalkKit
import Derived.WalkLawsBesides
import Derived.WalkSpells
import Derived.WideKeyArgs
import Derived.Test.YtcenlinpbpbpoaaDoorKHF1
import Derived.Test.YtcenlinpbpbpoaaDoorKHF3
import Derived.Test.YtcenlinpbpbpoaaDoorKHS8
import Derived.Test.YtcenlinpbpbpoaaDoorKHU1
import Derived.Test.YtcenlinpbpbpoaaDoorKHUSe
import Derived.Test.YtcenlinpbpbpoaaDoorKL0
import Derived.Test.YtcenlinpbpbpoaaDoorKL1
import Derived.Test.YtcenlinpbpbpoaaDoorKL2
namespace Go.Proofs.YtcenlinpbpbpoaaDoor
set_option maxRecDepth 4000
set_option linter.unusedSimpArgs false
set_option linter.unusedVariables false
section
open Go.RowKit
/-- a cell of a block that is known whole -/
theorem blk_cell {w : World} {b : Nat} {cs : Array Value} {t : TypeId} {fr : Nat × Nat} (h : w.heap[b]? = some (.cells cs t fr)) (i : Nat) {v : Value} (hv : cs[i]? = some v) : w.cell? ⟨b, i, none⟩ = some v := by
  simp [World.cell?, h, hv]
theorem uC_0 (V : Nat) : (uC V)[0]? = some (.int .u64 ((V % 18446744073709551616 : Nat) : Int)) := rfl
theorem low51 (V l m : Nat) (hl : Hid (l = V % 18446744073709551616)) (hm : Hid (m = V % 2251799813685248)) : bits .and .u64 (l : Int) 2251799813685247 = (m : Int) := by
  have h1 := hl.out; have h2 := hm.out
  rw [mask51 l (by omega), show l % 2251799813685248 = m by omega]
theorem qcell {P : Program} {w0 w : World} {o : Oper} {a : Act} {v : Value} (ty : TypeId) (x : Operand) (ho : o.op = .load ty x) (b off : Nat) (hx : a.eval x = .pointer (some ⟨b, off, none⟩))
    (hc : w0.cell? ⟨b, off, none⟩ = some v) (hlt : b < w0.heap.size) (hB : Below w0.heap.size w0 w) (hrun : ∀ u : World, u.cell? ⟨b, off, none⟩ = some v → (execOp a.eval o).run P u = .ok (.value v) u) {C : World → Prop} : o.quietAt P a C w v := by
  unfold Oper.quietAt
  rw [hrun w ((hB.cell (p := ⟨b, off, none⟩) hlt).trans hc)]
  exact ⟨rfl, rfl⟩
theorem mul19_q (a : Int) (w : World) (h0 : 0 ≤ a) (h : a < 970881267037344822) : Calls Tryd.prog 101 #[.int .u64 a] w fun e w'' => e = .returned (.int .u64 (19 * a)) ∧ Below w.heap.size w w'' :=
  (mul19_any a w h0 h).mono fun e w'' ⟨h1, h2⟩ => ⟨h1, by rw [h2]; exact Below.refl _ _⟩
end

section
open Go.RowKit
set_option maxHeartbeats 2000000 in
theorem absolute_raw0 (vb vo ab ao x v0 R B : Nat) (dU : Apart vb vo ab ao) (HR : Hid (R = (pF - x) % pF)) (HZ : Hid ((0 : Int) = ((x % 2 : Nat) : Int))) (w : World) (hD0 : Var 1 z5 B w) (hv : Fe w vb vo v0) (ha : Fe w ab ao x) :
    Calls Tryd.prog 88 #[.pointer (some ⟨vb, vo, none⟩), .pointer (some ⟨ab, ao, none⟩)] w fun e w' => e = .returned (.pointer (some ⟨vb, vo, none⟩)) ∧ Sets w w' vb vo x := by
  have hvl := hv.lt; have hal := ha.lt; have hBl := hD0.1
  go_enter Tryd.func88, Tryd.ntmps88
  go_wp2_with fail
  refine (neg_fe (w.heap.size) 0 ab ao _ _ B _ (hD0.later (below_alloc (Below.refl _ w) _)) (by omega) (Fe.newz_at _ _ rfl) (Fe.alloc ha _) (apart_blk _ _ _ _ (by omega)) R HR).mono ?_
  rintro e w1 ⟨rfl, hC1⟩
  have hs1 : w.heap.size + 1 ≤ w1.heap.size := by have := hC1.size; (try simp only [alloc_size, setRow_size] at this); omega
  replace hv : Fe w1 (vb) (vo) (v0) := (Sets.others hC1 (Fe.alloc hv _) (by omega))
  replace ha : Fe w1 (ab) (ao) (x) := (Sets.others hC1 (Fe.alloc ha _) (by omega))
  replace h6 : Fe w1 (w.heap.size) (0) (R) := (Sets.fe' hC1 (Fe.newz_at _ _ rfl))
  have hBw1 : Hid (Below w.heap.size w w1) := Lib.hid ((below_alloc (Below.refl _ w) _).trans (hC1.below (by omega) (below_alloc (Below.refl _ w) _).size))
  clear hC1
  go_wp2_with fail
  refine (IsNegative_any ab ao x _ ha 0 HZ).mono ?_
  rintro e w2 ⟨rfl, hC2⟩
  have hs2 : w1.heap.size ≤ w2.heap.size := by have := hC2.size; (try simp only [alloc_size, setRow_size] at this); omega
  replace hv : Fe w2 (vb) (vo) (v0) := (Fe.below_all hv hC2)
  replace ha : Fe w2 (ab) (ao) (x) := (Fe.below_all ha hC2)
  replace h6 : Fe w2 (w.heap.size) (0) (R) := (Fe.below_all h6 hC2)
  have hBw2 : Hid (Below w.heap.size w w2) := Lib.hid (below_call hBw1.out hC2)
  clear hC2
  go_wp2_with fail
  refine (select_fe0 vb vo (w.heap.size) 0 ab ao _ _ _ (apart_blk _ _ _ _ (by omega)) dU _ hv h6 ha).mono ?_
  rintro e w3 ⟨rfl, hC3⟩
  go_wp2
  go_ret
  exact ⟨rfl, Sets.ahead hBw2.out hC3 hvl⟩
set_option maxHeartbeats 2000000 in
theorem absolute_raw1 (vb vo ab ao x v0 R B : Nat) (dU : Apart vb vo ab ao) (HR : Hid (R = (pF - x) % pF)) (HZ : Hid ((1 : Int) = ((x % 2 : Nat) : Int))) (w : World) (hD0 : Var 1 z5 B w) (hv : Fe w vb vo v0) (ha : Fe w ab ao x) :
    Calls Tryd.prog 88 #[.pointer (some ⟨vb, vo, none⟩), .pointer (some ⟨ab, ao, none⟩)] w fun e w' => e = .returned (.pointer (some ⟨vb, vo, none⟩)) ∧ Sets w w' vb vo R := by
  have hvl := hv.lt; have hal := ha.lt; have hBl := hD0.1
  go_enter Tryd.func88, Tryd.ntmps88
  go_wp2_with fail
  refine (neg_fe (w.heap.size) 0 ab ao _ _ B _ (hD0.later (below_alloc (Below.refl _ w) _)) (by omega) (Fe.newz_at _ _ rfl) (Fe.alloc ha _) (apart_blk _ _ _ _ (by omega)) R HR).mono ?_
  rintro e w1 ⟨rfl, hC1⟩
  have hs1 : w.heap.size + 1 ≤ w1.heap.size := by have := hC1.size; (try simp only [alloc_size, setRow_size] at this); omega
  replace hv : Fe w1 (vb) (vo) (v0) := (Sets.others hC1 (Fe.alloc hv _) (by omega))
  replace ha : Fe w1 (ab) (ao) (x) := (Sets.others hC1 (Fe.alloc ha _) (by omega))
  replace h6 : Fe w1 (w.heap.size) (0) (R) := (Sets.fe' hC1 (Fe.newz_at _ _ rfl))
  have hBw1 : Hid (Below w.heap.size w w1) := Lib.hid ((below_alloc (Below.refl _ w) _).trans (hC1.below (by omega) (below_alloc (Below.refl _ w) _).size))
  clear hC1
  go_wp2_with fail
  refine (IsNegative_any ab ao x _ ha 1 HZ).mono ?_
  rintro e w2 ⟨rfl, hC2⟩
  have hs2 : w1.heap.size ≤ w2.heap.size := by have := hC2.size; (try simp only [alloc_size, setRow_size] at this); omega
  replace hv : Fe w2 (vb) (vo) (v0) := (Fe.below_all hv hC2)
  replace ha : Fe w2 (ab) (ao) (x) := (Fe.below_all ha hC2)
  replace h6 : Fe w2 (w.heap.size) (0) (R) := (Fe.below_all h6 hC2)
  have hBw2 : Hid (Below w.heap.size w w2) := Lib.hid (below_call hBw1.out hC2)
  clear hC2
  go_wp2_with fail
  refine (select_fe1 vb vo (w.heap.size) 0 ab ao _ _ _ (apart_blk _ _ _ _ (by omega)) dU _ hv h6 ha).mono ?_
  rintro e w3 ⟨rfl, hC3⟩
  go_wp2
  go_ret
  exact ⟨rfl, Sets.ahead hBw2.out hC3 hvl⟩
theorem absolute_fe (vb vo ab ao x v0 B : Nat) (dU : Apart vb vo ab ao) (w : World) (hD0 : Var 1 z5 B w) (hv : Fe w vb vo v0) (ha : Fe w ab ao x) (R : Nat) (hR : Hid (R = absN x)) :
    Calls Tryd.prog 88 #[.pointer (some ⟨vb, vo, none⟩), .pointer (some ⟨ab, ao, none⟩)] w fun e w' => e = .returned (.pointer (some ⟨vb, vo, none⟩)) ∧ Sets w w' vb vo R := by
  rw [hR.out]
  unfold absN
  by_cases h : x % 2 = 1
  · rw [if_pos h]
    exact absolute_raw1 vb vo ab ao x v0 _ B dU rfl (Lib.hid (by rw [h]; rfl)) w hD0 hv ha
  · rw [if_neg h]
    exact absolute_raw0 vb vo ab ao x v0 _ B dU rfl (Lib.hid (by rw [show x % 2 = 0 by omega]; rfl)) w hD0 hv ha
end

section
open Go.RowKit
set_option maxHeartbeats 1000000 in
theorem power_to (a b m F : Nat) (HF : Hid (F = pm a b m)) (ha : a < m) (hb : b < 2 ^ 256) (hm1 : 1 < m) (hm : m < 57896044618658097711785492504343953926634992332820282019728792003956564819968) (w : World) :
    Calls Tryd.prog 82 #[.agg (numC a), .agg (numC b), .agg (numC m)] w fun e w' => e = .returned (.agg (numC F)) ∧ Below w.heap.size w w' := by
  go_enter Tryd.func82, Tryd.ntmps82
  go_wp2_with fail
  refine (small_any 1 (by omega) _).mono ?_
  rintro e w1 ⟨rfl, hC1⟩
  have hs1 : w.heap.size + 1 + 1 + 1 + 1 ≤ w1.heap.size := by have := hC1.size; (try simp only [alloc_size, setRow_size] at this); omega
  have h3 : w1.heap[w.heap.size]? = some (.cells (numC a) 43 (0, 0)) := (heap_call hC1 (heap_old _ (heap_old _ (heap_old _ (heap_new_at _ _ _ rfl)))))
  have h4 : w1.heap[w.heap.size + 1]? = some (.cells (numC b) 43 (0, 0)) := (heap_call hC1 (heap_old _ (heap_old _ (heap_new_at _ _ _ (by simp only [alloc_size, setRow_size])))))
  have h5 : w1.heap[w.heap.size + 1 + 1]? = some (.cells (numC m) 43 (0, 0)) := (heap_call hC1 (heap_old _ (heap_new_at _ _ _ (by simp only [alloc_size, setRow_size]))))
  have h6 : w1.heap[w.heap.size + 1 + 1 + 1]? = some (.cells (z4) 43 (0, 0)) := (heap_call hC1 (heap_new_at _ _ _ (by simp only [alloc_size, setRow_size])))
  have hB1 : Hid (Below w.heap.size w w1) := Lib.hid (below_call (below_alloc (below_alloc (below_alloc (below_alloc (Below.refl _ w) _) _) _) _) hC1)
  clear hC1
  go_wp2_with (first
    | ((with_reducible refine at_store 7 ?_); refine wpList_store_row rfl 43 _ _ rfl (w1.heap.size) (numC 1) rfl rfl 43 (z4) (heap_new_at _ _ _ rfl) (infoNum_of (numC 1) (numC_size _)) (z4_size.trans (numC_size _).symm) (numC_one _) ?_))
  go_loopw [8] (fun i wr => ∃ k X : Nat, k ≤ 256 ∧ i = .int .i64 ((k : Int) - 1) ∧ Hid (X = pm a (b / 2 ^ k) m) ∧ Hid (wr.heap[w.heap.size]? = some (.cells (numC a) 43 (0, 0))) ∧ Hid (wr.heap[w.heap.size + 1]? = some (.cells (numC b) 43 (0, 0))) ∧ Hid (wr.heap[w.heap.size + 1 + 1]? = some (.cells (numC m) 43 (0, 0))) ∧ Hid (wr.heap[w.heap.size + 1 + 1 + 1]? = some (.cells (z4) 43 (0, 0))) ∧ Hid (wr.heap[w1.heap.size]? = some (.cells (numC X) 43 (0, 0))) ∧ Hid (Below w.heap.size w wr)) (fun i _ => (intOf i + 1).toNat)
  case atStart =>
    exact ⟨256, 1, by omega, rfl, Lib.hid (by unfold pm; rw [Nat.div_eq_of_lt hb, Nat.pow_zero, Nat.mod_eq_of_lt hm1]), Lib.hid (heap_row _ (by omega) (heap_old _ h3)), Lib.hid (heap_row _ (by omega) (heap_old _ h4)), Lib.hid (heap_row _ (by omega) (heap_old _ h5)), Lib.hid (heap_row _ (by omega) (heap_old _ h6)), Lib.hid (setRow_heap _ _ _ _ _ _ (heap_new_at _ _ _ rfl)), Lib.hid (below_setRow (below_alloc hB1.out _) (by omega) _)⟩
  case round =>
    obtain ⟨k, X, hk, rfl, HX, H3, H4, H5, H6, H7, HB⟩ := hrel
    have h3 := H3.out
    have h4 := H4.out
    have h5 := H5.out
    have h6 := H6.out
    have h7 := H7.out
    clear H3 H4 H5 H6 H7
    rcases Nat.eq_zero_or_pos k with rfl | hpos
    · skip
      obtain rfl : X = F := by rw [HX.out, HF.out, Nat.pow_zero, Nat.div_one]
      go_wp2_with (first
        | ((with_reducible refine at_dst 25 ?_); refine wpList_load_row rfl 43 _ rfl (w1.heap.size) rfl 43 (numC X) (0, 0) _ h7 underNum rfl (infoNum_of (numC X) (numC_size _)) ?_)
        | ((with_reducible refine at_store 6 ?_); refine wpList_store_row rfl 43 _ _ rfl (w.heap.size + 1 + 1 + 1) (numC X) rfl rfl 43 (z4) h6 (infoNum_of (numC X) (numC_size _)) (z4_size.trans (numC_size _).symm) (numC_one _) ?_))
      refine bodyPost_ret (results_cell_row rfl _ _ (w.heap.size + 1 + 1 + 1) 43 (numC X) (0, 0) _ rfl (setRow_heap _ _ _ _ _ _ h6) underNum rfl (infoNum_of (numC X) (numC_size _))) rfl ⟨rfl, (below_setRow HB.out (by omega) _)⟩
    · obtain ⟨j, rfl⟩ : ∃ j, k = j + 1 := ⟨k - 1, by omega⟩
      have bl : X < m := by rw [HX.out]; exact Nat.mod_lt _ (by omega)
      obtain ⟨Y, qY⟩ : ∃ u : Nat, u = X * X % m := ⟨_, rfl⟩
      have bl2 : Y < m := by rw [qY]; exact Nat.mod_lt _ (by omega)
      have HY := Lib.hid qY; clear qY
      obtain ⟨Z, qZ⟩ : ∃ u : Nat, u = Y * a % m := ⟨_, rfl⟩
      have HZ := Lib.hid qZ; clear qZ
      by_cases hbit : b / 2 ^ j % 2 = 1
      · skip
        go_wp2_with (first
          | ((with_reducible refine at_dst 14 ?_); refine wpList_load_row rfl 43 _ rfl (w1.heap.size) rfl 43 (numC X) (0, 0) _ h7 underNum rfl (infoNum_of (numC X) (numC_size _)) ?_)
          | ((with_reducible refine at_dst 15 ?_); refine wpList_load_row rfl 43 _ rfl (w1.heap.size) rfl 43 (numC X) (0, 0) _ h7 underNum rfl (infoNum_of (numC X) (numC_size _)) ?_)
          | ((with_reducible refine at_dst 16 ?_); refine wpList_load_row rfl 43 _ rfl (w.heap.size + 1 + 1) rfl 43 (numC m) (0, 0) _ h5 underNum rfl (infoNum_of (numC m) (numC_size _)) ?_))
        refine (times_to X X m Y HY bl (by omega) hm _).mono ?_
        rintro e w2 ⟨rfl, hC2⟩
        have hs2 : wr.heap.size ≤ w2.heap.size := by have := hC2.size; (try simp only [alloc_size, setRow_size] at this); omega
        have h3 : w2.heap[w.heap.size]? = some (.cells (numC a) 43 (0, 0)) := (heap_call hC2 h3)
        have h4 : w2.heap[w.heap.size + 1]? = some (.cells (numC b) 43 (0, 0)) := (heap_call hC2 h4)
        have h5 : w2.heap[w.heap.size + 1 + 1]? = some (.cells (numC m) 43 (0, 0)) := (heap_call hC2 h5)
        have h6 : w2.heap[w.heap.size + 1 + 1 + 1]? = some (.cells (z4) 43 (0, 0)) := (heap_call hC2 h6)
        have h7 : w2.heap[w1.heap.size]? = some (.cells (numC X) 43 (0, 0)) := (heap_call hC2 h7)
        have hB2 : Hid (Below w.heap.size w w2) := Lib.hid (below_call HB.out hC2)
        clear hC2
        go_wp2_with (first
          | ((with_reducible refine at_store 7 ?_); refine wpList_store_row rfl 43 _ _ rfl (w1.heap.size) (numC Y) rfl rfl 43 (numC X) h7 (infoNum_of (numC Y) (numC_size _)) ((numC_size _).trans (numC_size _).symm) (numC_one _) ?_)
          | ((with_reducible refine at_dst 18 ?_); refine wpList_load_row rfl 43 _ rfl (w.heap.size + 1) rfl 43 (numC b) (0, 0) _ (heap_row _ (by omega) h4) underNum rfl (infoNum_of (numC b) (numC_size _)) ?_))
        refine (bit_true b j (by omega) hbit _).mono ?_
        rintro e w3 ⟨rfl, hC3⟩
        have hs3 : w2.heap.size ≤ w3.heap.size := by have := hC3.size; (try simp only [alloc_size, setRow_size] at this); omega
        have h3 : w3.heap[w.heap.size]? = some (.cells (numC a) 43 (0, 0)) := (heap_call hC3 (heap_row _ (by omega) h3))
        have h4 : w3.heap[w.heap.size + 1]? = some (.cells (numC b) 43 (0, 0)) := (heap_call hC3 (heap_row _ (by omega) h4))
        have h5 : w3.heap[w.heap.size + 1 + 1]? = some (.cells (numC m) 43 (0, 0)) := (heap_call hC3 (heap_row _ (by omega) h5))
        have h6 : w3.heap[w.heap.size + 1 + 1 + 1]? = some (.cells (z4) 43 (0, 0)) := (heap_call hC3 (heap_row _ (by omega) h6))
        have h7 : w3.heap[w1.heap.size]? = some (.cells (numC Y) 43 (0, 0)) := (heap_call hC3 (setRow_heap _ _ _ _ _ _ h7))
        have hB3 : Hid (Below w.heap.size w w3) := Lib.hid (below_call (below_setRow hB2.out (by omega) _) hC3)
        clear hC3
        go_wp2_with (first
          | ((with_reducible refine at_dst 21 ?_); refine wpList_load_row rfl 43 _ rfl (w1.heap.size) rfl 43 (numC Y) (0, 0) _ h7 underNum rfl (infoNum_of (numC Y) (numC_size _)) ?_)
          | ((with_reducible refine at_dst 22 ?_); refine wpList_load_row rfl 43 _ rfl (w.heap.size) rfl 43 (numC a) (0, 0) _ h3 underNum rfl (infoNum_of (numC a) (numC_size _)) ?_)
          | ((with_reducible refine at_dst 23 ?_); refine wpList_load_row rfl 43 _ rfl (w.heap.size + 1 + 1) rfl 43 (numC m) (0, 0) _ h5 underNum rfl (infoNum_of (numC m) (numC_size _)) ?_))
        refine (times_to Y a m Z HZ bl2 (by omega) hm _).mono ?_
        rintro e w4 ⟨rfl, hC4⟩
        have hs4 : w3.heap.size ≤ w4.heap.size := by have := hC4.size; (try simp only [alloc_size, setRow_size] at this); omega
        have h3 : w4.heap[w.heap.size]? = some (.cells (numC a) 43 (0, 0)) := (heap_call hC4 h3)
        have h4 : w4.heap[w.heap.size + 1]? = some (.cells (numC b) 43 (0, 0)) := (heap_call hC4 h4)
        have h5 : w4.heap[w.heap.size + 1 + 1]? = some (.cells (numC m) 43 (0, 0)) := (heap_call hC4 h5)
        have h6 : w4.heap[w.heap.size + 1 + 1 + 1]? = some (.cells (z4) 43 (0, 0)) := (heap_call hC4 h6)
        have h7 : w4.heap[w1.heap.size]? = some (.cells (numC Y) 43 (0, 0)) := (heap_call hC4 h7)
        have hB4 : Hid (Below w.heap.size w w4) := Lib.hid (below_call hB3.out hC4)
        clear hC4
        go_wp2_with (first
          | ((with_reducible refine at_store 7 ?_); refine wpList_store_row rfl 43 _ _ rfl (w1.heap.size) (numC Z) rfl rfl 43 (numC Y) h7 (infoNum_of (numC Z) (numC_size _)) ((numC_size _).trans (numC_size _).symm) (numC_one _) ?_))
        go_roundw
        case rel =>
          exact ⟨j, _, by omega, by go_num, Lib.hid (by rw [HZ.out, HY.out, HX.out]; exact pm_step1 a b m j hbit), Lib.hid (heap_row _ (by omega) h3), Lib.hid (heap_row _ (by omega) h4), Lib.hid (heap_row _ (by omega) h5), Lib.hid (heap_row _ (by omega) h6), Lib.hid (setRow_heap _ _ _ _ _ _ h7), Lib.hid (below_setRow hB4.out (by omega) _)⟩
        case measure => simp [intOf]
      · skip
        go_wp2_with (first
          | ((with_reducible refine at_dst 14 ?_); refine wpList_load_row rfl 43 _ rfl (w1.heap.size) rfl 43 (numC X) (0, 0) _ h7 underNum rfl (infoNum_of (numC X) (numC_size _)) ?_)
          | ((with_reducible refine at_dst 15 ?_); refine wpList_load_row rfl 43 _ rfl (w1.heap.size) rfl 43 (numC X) (0, 0) _ h7 underNum rfl (infoNum_of (numC X) (numC_size _)) ?_)
          | ((with_reducible refine at_dst 16 ?_); refine wpList_load_row rfl 43 _ rfl (w.heap.size + 1 + 1) rfl 43 (numC m) (0, 0) _ h5 underNum rfl (infoNum_of (numC m) (numC_size _)) ?_))
        refine (times_to X X m Y HY bl (by omega) hm _).mono ?_
        rintro e w2 ⟨rfl, hC2⟩
        have hs2 : wr.heap.size ≤ w2.heap.size := by have := hC2.size; (try simp only [alloc_size, setRow_size] at this); omega
        have h3 : w2.heap[w.heap.size]? = some (.cells (numC a) 43 (0, 0)) := (heap_call hC2 h3)
        have h4 : w2.heap[w.heap.size + 1]? = some (.cells (numC b) 43 (0, 0)) := (heap_call hC2 h4)
        have h5 : w2.heap[w.heap.size + 1 + 1]? = some (.cells (numC m) 43 (0, 0)) := (heap_call hC2 h5)
        have h6 : w2.heap[w.heap.size + 1 + 1 + 1]? = some (.cells (z4) 43 (0, 0)) := (heap_call hC2 h6)
        have h7 : w2.heap[w1.heap.size]? = some (.cells (numC X) 43 (0, 0)) := (heap_call hC2 h7)
        have hB2 : Hid (Below w.heap.size w w2) := Lib.hid (below_call HB.out hC2)
        clear hC2
        go_wp2_with (first
          | ((with_reducible refine at_store 7 ?_); refine wpList_store_row rfl 43 _ _ rfl (w1.heap.size) (numC Y) rfl rfl 43 (numC X) h7 (infoNum_of (numC Y) (numC_size _)) ((numC_size _).trans (numC_size _).symm) (numC_one _) ?_)
          | ((with_reducible refine at_dst 18 ?_); refine wpList_load_row rfl 43 _ rfl (w.heap.size + 1) rfl 43 (numC b) (0, 0) _ (heap_row _ (by omega) h4) underNum rfl (infoNum_of (numC b) (numC_size _)) ?_))
        refine (bit_false b j (by omega) hbit _).mono ?_
        rintro e w3 ⟨rfl, hC3⟩
        have hs3 : w2.heap.size ≤ w3.heap.size := by have := hC3.size; (try simp only [alloc_size, setRow_size] at this); omega
        have h3 : w3.heap[w.heap.size]? = some (.cells (numC a) 43 (0, 0)) := (heap_call hC3 (heap_row _ (by omega) h3))
        have h4 : w3.heap[w.heap.size + 1]? = some (.cells (numC b) 43 (0, 0)) := (heap_call hC3 (heap_row _ (by omega) h4))
        have h5 : w3.heap[w.heap.size + 1 + 1]? = some (.cells (numC m) 43 (0, 0)) := (heap_call hC3 (heap_row _ (by omega) h5))
        have h6 : w3.heap[w.heap.size + 1 + 1 + 1]? = some (.cells (z4) 43 (0, 0)) := (heap_call hC3 (heap_row _ (by omega) h6))
        have h7 : w3.heap[w1.heap.size]? = some (.cells (numC Y) 43 (0, 0)) := (heap_call hC3 (setRow_heap _ _ _ _ _ _ h7))
        have hB3 : Hid (Below w.heap.size w w3) := Lib.hid (below_call (below_setRow hB2.out (by omega) _) hC3)
        clear hC3
        go_wp2
        go_roundw
        case rel =>
          exact ⟨j, _, by omega, by go_num, Lib.hid (by rw [HY.out, HX.out]; exact pm_step0 a b m j hbit), Lib.hid h3, Lib.hid h4, Lib.hid h5, Lib.hid h6, Lib.hid h7, Lib.hid hB3.out⟩
        case measure => simp [intOf]
end

section
open Go.RowKit
theorem and127 (B : Nat) (hB : B < 256) : bits .and .u8 (B : Int) 127 = ((B % 128 : Nat) : Int) := by
  refine (bits_and_u8_nat B 127 hB (by omega)).trans ?_
  rw [show B &&& 127 = B % 128 from Nat.and_two_pow_sub_one_eq_mod B 7]
theorem low255 (N i : Nat) (hi : i < 32) : byV (N % 57896044618658097711785492504343953926634992332820282019728792003956564819968) i = if i = 31 then .int .u8 ((byteN N 31 % 128 : Nat) : Int) else byV N i := by
  unfold byV
  have h : ∀ j, j < 31 → byteN (N % 57896044618658097711785492504343953926634992332820282019728792003956564819968) j = byteN N j := by
    intro j hj
    have e : N % 57896044618658097711785492504343953926634992332820282019728792003956564819968 % 256 ^ 31 = N % 256 ^ 31 := by omega
    rw [← byteN_mod _ 31 j hj, e, byteN_mod _ 31 j hj]
  by_cases e : i = 31
  · subst e
    rw [if_pos rfl]
    congr 2
    unfold byteN
    omega
  · rw [if_neg e, h i (by omega)]
theorem reduced_to (N n m b off cap r : Nat) (hr : Hid (r = N % m)) (hN : N < 2 ^ (8 * n)) (hn : n ≤ 140737488351232) (hm1 : 1 < m) (hm : m < 57896044618658097711785492504343953926634992332820282019728792003956564819968) (w : World) (hR : Row w b off n (byV N)) :
    Calls Tryd.prog 78 #[.slice (some ⟨b, off, none⟩) n cap, .agg (numC m)] w fun e w' => e = .returned (.agg (numC r)) ∧ Below w.heap.size w w' := by
  rw [hr.out]; exact reduced_any N n m b off cap hN hn hm1 hm w hR
set_option maxHeartbeats 1000000 in
theorem element_any (N : Nat) (w : World) : Calls Tryd.prog 44 #[.agg (arrC N)] w fun e w' => e = .returned (.agg (numC (valN N))) ∧ Below w.heap.size w w' := by
  obtain ⟨R, qR⟩ : ∃ u : Nat, u = valN N := ⟨_, rfl⟩
  rw [← qR]
  have HR := Lib.hid qR; clear qR
  have r0 := (Row.ofArr (heap_new w (.cells (arrC N) 22))).alloc (.cells #[.int .u64 0, .int .u64 0, .int .u64 0, .int .u64 0] 43)
  have hw := Lib.hid (Wr.start r0)
  have c31 := r0.cell (i := 31) (by omega)
  have f31 := r0.frozen (i := 31) (by omega)
  rw [Nat.zero_add] at c31 f31
  unfold byV at c31
  have hb := byteN_lt N 31
  have h127 := and127 _ hb
  have hl := Lib.hid (low255 N)
  generalize byteN N 31 = B at *
  generalize hq : B % 128 = D at *
  have Hr := Lib.hid r0
  clear r0 hq
  go_enter Tryd.func44, Tryd.ntmps44
  go_wp2
  refine wp_named ?_
  intro w1 hw1
  obtain ⟨M, qM⟩ : ∃ u : Nat, u = N % 57896044618658097711785492504343953926634992332820282019728792003956564819968 := ⟨_, rfl⟩
  have hM : M < 2 ^ (8 * 32) := by omega
  have HRM : Hid (R = M % pF) := Lib.hid (by rw [HR.out, qM]; rfl)
  rw [← qM] at hl
  clear qM
  have eM : (arrC N).setIfInBounds 31 (.int .u8 (D : Int)) = arrC M := by
    refine arr_ext M _ (by simp [arrC_size]) fun i hi => ?_
    rw [Array.getElem?_setIfInBounds, hl.out i hi]
    by_cases e : i = 31
    · subst e; simp [arrC_size]
    · rw [if_neg (by omega), if_neg e]; exact arr_get N i hi
  rw [eM] at hw1
  have h1 : w1.heap[w.heap.size]? = some (.cells (arrC M) 22 (0, 0)) := by rw [hw1]; exact heap_old _ (heap_new_at _ _ _ rfl)
  have h2 : w1.heap[w.heap.size + 1]? = some (.cells z4 43 (0, 0)) := by rw [hw1]; exact heap_new_at _ _ _ (by simp only [alloc_size])
  have hs1 : w.heap.size + 2 ≤ w1.heap.size := by rw [hw1]; simp only [alloc_size]; omega
  have hB1 := Lib.hid (show Below w.heap.size w w1 by rw [hw1]; exact below_alloc (below_alloc (Below.refl _ w) _) _)
  clear hw1 hw Hr eM hl c31 f31 h127
  refine wp_region_noPanic ?_
  refine wp_region_held_drew (S := Keep (w.heap.size + 1) w1) (by kernel_rfl) (Keep.start _ _) ?_
  intro hS
  obtain ⟨w2, ed⟩ : ∃ u : World, u = w1.drew := ⟨_, rfl⟩
  rw [← ed] at hS ⊢
  have hT : w2.heap[w.heap.size + 1]? = some (.cells (z4) 43 (0, 0)) := by rw [ed]; exact h2
  clear ed
  refine wpAnyH_take (i := 0) (v := .slice (some ⟨w.heap.size, 0, none⟩) 32 32) rfl (by kernel_rfl) (by kernel_rfl) (by kernel_rfl) (fun _ _ _ h => h) (take_run rfl (fun _ _ => by go_simp)) hS ?_
  simp only [Act.put, sia, sc0, scs]
  refine wpAnyH_ready (rs := [1]) (by kernel_rfl) (by simp) ?_
  refine (AllReadyH.cons rfl ?_ AllReadyH.nil)
  intro K hK
  go_simp
  refine (prime_any _).mono ?_
  rintro e w3 ⟨rfl, hC⟩
  have hT := heap_call hC hT
  have hS := hS.call hC
  clear hC
  refine hK.out _ _ hS ?_
  clear hK K
  intro _
  refine wpAnyH_ready (rs := [2]) (by kernel_rfl) (by simp) ?_
  refine (AllReadyH.cons rfl ?_ AllReadyH.nil)
  intro K hK
  go_simp
  refine (reduced_to M 32 pF (w.heap.size) 0 32 R HRM (by omega) (by omega) (by unfold pF; omega) (by unfold pF; omega) _ (Row.ofArr (hS.old h1 (by omega)))).mono ?_
  rintro e w4 ⟨rfl, hC⟩
  have hT := heap_call hC hT
  have hS := hS.call hC
  clear hC
  refine hK.out _ _ hS ?_
  clear hK K
  intro _
  refine wpAnyH_ready (rs := [3]) (by kernel_rfl) (by simp) ?_
  refine (AllReadyH.cons rfl ?_ AllReadyH.nil)
  intro K hK
  rw [if_pos (by rfl)]
  refine wp_store_row 43 _ _ rfl (w.heap.size + 1) (numC R) rfl rfl 43 (z4) hT (infoNum_of (numC R) (numC_size _)) (z4_size.trans (numC_size _).symm) (numC_one _) ?_
  simp only [Act.put, sia, sc0, scs]
  have hS := hS.store (numC R)
  have hT : (w4.setRow (w.heap.size + 1) (numC R)).heap[w.heap.size + 1]? = some (.cells (numC R) 43 (0, 0)) := setRow_heap _ _ _ _ _ _ hT
  generalize w4.setRow (w.heap.size + 1) (numC R) = w5 at *
  refine hK.out _ _ hS ?_
  clear hK K
  intro _
  refine wpAnyH_done (by kernel_rfl) ?_ _
  refine NoPanic.normal ?_
  have h1 : w5.heap[w.heap.size]? = some (.cells (arrC M) 22 (0, 0)) := hS.old h1 (by omega)
  have h2 := hT
  have hsz6 := hS.size
  have hB6 : Hid (Below w.heap.size w w5) := Lib.hid (hB1.out.trans (hS.below (by omega) hB1.out.size))
  clear hS
  go_wp2
  refine bodyPost_ret (results_cell_row rfl _ _ (w.heap.size + 1) 43 (numC R) (0, 0) _ rfl h2 underNum rfl (infoNum_of (numC R) (numC_size _))) rfl ⟨rfl, hB6.out⟩
end

section
open Go.RowKit
theorem element_to (N r : Nat) (hr : Hid (r = valN N)) (w : World) : Calls Tryd.prog 44 #[.agg (arrC N)] w fun e w' => e = .returned (.agg (numC r)) ∧ Below w.heap.size w w' := by
  rw [hr.out]; exact element_any N w
end

section
open Go.RowKit
theorem rest_to (a b d k : Nat) (ha : a < 18446744073709551616 ^ 4 ∧ b < 18446744073709551616 ^ 4) (h : difN a b = d ∧ (if a < b then 1 else 0 : Nat) = k) (w : World) : Calls Tryd.prog 80 #[.agg (numC a), .agg (numC b)] w fun e w' => e = .returned (.tuple #[.agg (numC d), .int .u64 (k : Int)]) ∧ Below w.heap.size w w' := by
  rw [← h.1, ← h.2]; exact rest_any a b ha.1 ha.2 w
set_option maxHeartbeats 1000000 in
theorem inverse_to (a R : Nat) (ha : a < pF) (hR : Hid (R = xp a 57896044618658097711785492504343953926634992332820282019728792003956564819947)) (w : World) :
    Calls Tryd.prog 52 #[.agg (numC a)] w fun e w' => e = .returned (.agg (numC R)) ∧ Below w.heap.size w w' := by
  have HR : Hid (R = pm a 57896044618658097711785492504343953926634992332820282019728792003956564819947 pF) := Lib.hid hR.out
  clear hR
  go_enter Tryd.func52, Tryd.ntmps52
  go_wp2_with fail
  refine (prime_any _).mono ?_
  rintro e w1 ⟨rfl, hC1⟩
  have hs1 : w.heap.size + 1 + 1 ≤ w1.heap.size := by have := hC1.size; (try simp only [alloc_size, setRow_size] at this); omega
  replace h1 : w1.heap[w.heap.size]? = some (.cells (numC a) 43 (0, 0)) := (heap_call hC1 (heap_old _ (heap_new_at _ _ _ rfl)))
  replace h2 : w1.heap[w.heap.size + 1]? = some (.cells (z4) 43 (0, 0)) := (heap_call hC1 (heap_new_at _ _ _ (by simp only [alloc_size, setRow_size])))
  have hBw1 : Hid (Below w.heap.size w w1) := Lib.hid (below_call (below_alloc (below_alloc (Below.refl _ w) _) _) hC1)
  clear hC1
  go_wp2_with fail
  refine (small_any 2 (by omega) _).mono ?_
  rintro e w2 ⟨rfl, hC2⟩
  have hs2 : w1.heap.size ≤ w2.heap.size := by have := hC2.size; (try simp only [alloc_size, setRow_size] at this); omega
  replace h1 : w2.heap[w.heap.size]? = some (.cells (numC a) 43 (0, 0)) := (heap_call hC2 h1)
  replace h2 : w2.heap[w.heap.size + 1]? = some (.cells (z4) 43 (0, 0)) := (heap_call hC2 h2)
  have hBw2 : Hid (Below w.heap.size w w2) := Lib.hid (below_call hBw1.out hC2)
  clear hC2
  go_wp2_with fail
  refine (rest_to pF 2 57896044618658097711785492504343953926634992332820282019728792003956564819947 0 (by decide +kernel) (by decide +kernel) _).mono ?_
  rintro e w3 ⟨rfl, hC3⟩
  have hs3 : w2.heap.size ≤ w3.heap.size := by have := hC3.size; (try simp only [alloc_size, setRow_size] at this); omega
  replace h1 : w3.heap[w.heap.size]? = some (.cells (numC a) 43 (0, 0)) := (heap_call hC3 h1)
  replace h2 : w3.heap[w.heap.size + 1]? = some (.cells (z4) 43 (0, 0)) := (heap_call hC3 h2)
  have hBw3 : Hid (Below w.heap.size w w3) := Lib.hid (below_call hBw2.out hC3)
  clear hC3
  go_wp2_with (first
    | ((with_reducible refine at_store 3 ?_); refine wpList_store_row rfl 43 _ _ rfl (w3.heap.size) (numC 57896044618658097711785492504343953926634992332820282019728792003956564819947) rfl rfl 43 (z4) (heap_new_at _ _ _ rfl) (infoNum_of (numC 57896044618658097711785492504343953926634992332820282019728792003956564819947) (numC_size _)) (z4_size.trans (numC_size _).symm) (numC_one _) ?_))
  refine wp_named ?_
  intro w4 ew4
  have hs4 : w3.heap.size + 1 ≤ w4.heap.size := by rw [ew4]; (try simp only [alloc_size, setRow_size]); omega
  replace h1 : w4.heap[w.heap.size]? = some (.cells (numC a) 43 (0, 0)) := by rw [ew4]; exact (heap_row _ (by omega) (heap_old _ h1))
  replace h2 : w4.heap[w.heap.size + 1]? = some (.cells (z4) 43 (0, 0)) := by rw [ew4]; exact (heap_row _ (by omega) (heap_old _ h2))
  replace h3 : w4.heap[w3.heap.size]? = some (.cells (numC 57896044618658097711785492504343953926634992332820282019728792003956564819947) 43 (0, 0)) := by rw [ew4]; exact (setRow_heap _ _ _ _ _ _ (heap_new_at _ _ _ rfl))
  have hBw4 : Hid (Below w.heap.size w w4) := Lib.hid (by rw [ew4]; exact (below_setRow (below_alloc hBw3.out _) (by omega) _))
  clear ew4
  refine wp_region_noPanic ?_
  refine wp_region_held_drew (S := Keep (w.heap.size + 1) w4) (by kernel_rfl) (Keep.start _ _) ?_
  intro hS
  obtain ⟨w5, ed⟩ : ∃ u : World, u = w4.drew := ⟨_, rfl⟩
  rw [← ed] at hS ⊢
  have xh1 : w5.heap[w.heap.size]? = some (.cells (numC a) 43 (0, 0)) := by rw [ed]; exact h1
  have xh2 : w5.heap[w.heap.size + 1]? = some (.cells (z4) 43 (0, 0)) := by rw [ed]; exact h2
  have xh3 : w5.heap[w3.heap.size]? = some (.cells (numC 57896044618658097711785492504343953926634992332820282019728792003956564819947) 43 (0, 0)) := by rw [ed]; exact h3
  clear ed
  have hSz := hS.size
  clear xh1
  clear xh3
  refine takeAtK (i := 0) (v := .agg (numC a)) rfl (some 11) rfl (take_row rfl _ _ rfl (w.heap.size) rfl _ _ _ h1 (by omega) underNum rfl (infoNum_of (numC a) (numC_size _))) hS ?_
  simp only [Act.put, sia, sc0, scs]
  refine takeAtK (i := 1) (v := .agg (numC 57896044618658097711785492504343953926634992332820282019728792003956564819947)) rfl (some 12) rfl (take_row rfl _ _ rfl (w3.heap.size) rfl _ _ _ h3 (by omega) underNum rfl (infoNum_of (numC 57896044618658097711785492504343953926634992332820282019728792003956564819947) (numC_size _))) hS ?_
  simp only [Act.put, sia, sc0, scs]
  refine wpAnyH_ready (rs := [2]) (by kernel_rfl) (by simp) ?_
  refine (AllReadyH.cons rfl ?_ AllReadyH.nil)
  intro K hK
  refine ready_call rfl (some 13) rfl 46 #[] (by go_simp) ?_
  refine (prime_any _).mono ?_
  rintro e w6 ⟨rfl, hC⟩
  refine ⟨_, rfl, ?_⟩
  simp only [Act.put, sia, sc0, scs]
  have xh2 : w6.heap[w.heap.size + 1]? = some (.cells (z4) 43 (0, 0)) := (heap_call hC xh2)
  have hS := hS.call hC
  have hz6 := hC.size
  clear hC
  refine hK.out _ _ hS ?_
  clear hK K
  intro _
  have hSz := hS.size
  refine wpAnyH_ready (rs := [3]) (by kernel_rfl) (by simp) ?_
  refine (AllReadyH.cons rfl ?_ AllReadyH.nil)
  intro K hK
  refine ready_call rfl (some 14) rfl 82 #[.agg (numC a), .agg (numC 57896044618658097711785492504343953926634992332820282019728792003956564819947), .agg (numC pF)] (by go_simp) ?_
  refine (power_to a 57896044618658097711785492504343953926634992332820282019728792003956564819947 pF R HR ha (by decide +kernel) (by unfold pF; omega) (by decide +kernel) _).mono ?_
  rintro e w7 ⟨rfl, hC⟩
  refine ⟨_, rfl, ?_⟩
  simp only [Act.put, sia, sc0, scs]
  have xh2 : w7.heap[w.heap.size + 1]? = some (.cells (z4) 43 (0, 0)) := (heap_call hC xh2)
  have hS := hS.call hC
  have hz7 := hC.size
  clear hC
  refine hK.out _ _ hS ?_
  clear hK K
  intro _
  have hSz := hS.size
  refine wpAnyH_ready (rs := [4]) (by kernel_rfl) (by simp) ?_
  refine (AllReadyH.cons rfl ?_ AllReadyH.nil)
  intro K hK
  rw [if_pos (by rfl)]
  refine wp_store_row 43 _ _ rfl (w.heap.size + 1) (numC R) rfl rfl 43 (z4) xh2 (infoNum_of (numC R) (numC_size _)) (z4_size.trans (numC_size _).symm) (numC_one _) ?_
  refine put_at (none) rfl ?_
  simp only [Act.put, sia, sc0, scs]
  have xh2 : (w7.setRow (w.heap.size + 1) (numC R)).heap[w.heap.size + 1]? = some (.cells (numC R) 43 (0, 0)) := (setRow_heap _ _ _ _ _ _ xh2)
  have hS := hS.store (numC R)
  generalize w7.setRow (w.heap.size + 1) (numC R) = w8 at *
  refine hK.out _ _ hS ?_
  clear hK K
  intro _
  have hSz := hS.size
  refine wpAnyH_done (by kernel_rfl) ?_ _
  refine NoPanic.normal ?_
  have hsz := hS.size
  have h1 : w8.heap[w.heap.size]? = some (.cells (numC a) 43 (0, 0)) := hS.old h1 (by omega)
  have h3 : w8.heap[w3.heap.size]? = some (.cells (numC 57896044618658097711785492504343953926634992332820282019728792003956564819947) 43 (0, 0)) := hS.old h3 (by omega)
  have h2 := xh2
  have hBw8 : Hid (Below w.heap.size w w8) := Lib.hid (hBw4.out.trans (hS.below (by omega) hBw4.out.size))
  clear hS
  go_wp2
  refine bodyPost_ret (results_cell_row rfl _ _ (w.heap.size + 1) 43 (numC R) (0, 0) _ rfl h2 underNum rfl (infoNum_of (numC R) (numC_size _))) rfl ⟨rfl, hBw8.out⟩
end

section
open Go.RowKit
set_option maxHeartbeats 1000000 in
theorem opposite_to (a R : Nat) (ha : a < pF) (hR : Hid (R = (pF - a) % pF)) (w : World) :
    Calls Tryd.prog 53 #[.agg (numC a)] w fun e w' => e = .returned (.agg (numC R)) ∧ Below w.heap.size w w' := by
  have HR : Hid (R = (0 + (pF - a)) % pF) := Lib.hid (by rw [Nat.zero_add]; exact hR.out)
  clear hR
  go_enter Tryd.func53, Tryd.ntmps53
  go_wp2_with fail
  refine wp_named ?_
  intro w1 ew1
  have hs1 : w.heap.size + 1 + 1 ≤ w1.heap.size := by rw [ew1]; (try simp only [alloc_size, setRow_size]); omega
  have h1 : w1.heap[w.heap.size]? = some (.cells (numC a) 43 (0, 0)) := by rw [ew1]; exact (heap_old _ (heap_new_at _ _ _ rfl))
  have h2 : w1.heap[w.heap.size + 1]? = some (.cells (z4) 43 (0, 0)) := by rw [ew1]; exact (heap_new_at _ _ _ (by simp only [alloc_size, setRow_size]))
  have hBw1 : Hid (Below w.heap.size w w1) := Lib.hid (by rw [ew1]; exact (below_alloc (below_alloc (Below.refl _ w) _) _))
  clear ew1
  refine wp_region_noPanic ?_
  refine wp_region_held_drew (S := Keep (w.heap.size + 1) w1) (by kernel_rfl) (Keep.start _ _) ?_
  intro hS
  obtain ⟨w2, ed⟩ : ∃ u : World, u = w1.drew := ⟨_, rfl⟩
  rw [← ed] at hS ⊢
  have xh1 : w2.heap[w.heap.size]? = some (.cells (numC a) 43 (0, 0)) := by rw [ed]; exact h1
  have xh2 : w2.heap[w.heap.size + 1]? = some (.cells (z4) 43 (0, 0)) := by rw [ed]; exact h2
  clear ed
  have hSz := hS.size
  clear xh1
  refine takeAtK (i := 0) (v := .agg (numC 0)) rfl (some 3) rfl (take_run rfl (fun _ _ => by go_simp; rfl)) hS ?_
  simp only [Act.put, sia, sc0, scs]
  refine takeAtK (i := 1) (v := .agg (numC a)) rfl (some 4) rfl (take_row rfl _ _ rfl (w.heap.size) rfl _ _ _ h1 (by omega) underNum rfl (infoNum_of (numC a) (numC_size _))) hS ?_
  simp only [Act.put, sia, sc0, scs]
  refine wpAnyH_ready (rs := [2]) (by kernel_rfl) (by simp) ?_
  refine (AllReadyH.cons rfl ?_ AllReadyH.nil)
  intro K hK
  refine ready_call rfl (some 5) rfl 46 #[] (by go_simp) ?_
  refine (prime_any _).mono ?_
  rintro e w3 ⟨rfl, hC⟩
  refine ⟨_, rfl, ?_⟩
  simp only [Act.put, sia, sc0, scs]
  have xh2 : w3.heap[w.heap.size + 1]? = some (.cells (z4) 43 (0, 0)) := (heap_call hC xh2)
  have hS := hS.call hC
  have hz3 := hC.size
  clear hC
  refine hK.out _ _ hS ?_
  clear hK K
  intro _
  have hSz := hS.size
  refine wpAnyH_ready (rs := [3]) (by kernel_rfl) (by simp) ?_
  refine (AllReadyH.cons rfl ?_ AllReadyH.nil)
  intro K hK
  refine ready_call rfl (some 6) rfl 47 #[.agg (numC 0), .agg (numC a), .agg (numC pF)] (by go_simp) ?_
  refine (minus_to 0 a pF R HR (by unfold pF; omega) ha (by unfold pF; omega) _).mono ?_
  rintro e w4 ⟨rfl, hC⟩
  refine ⟨_, rfl, ?_⟩
  simp only [Act.put, sia, sc0, scs]
  have xh2 : w4.heap[w.heap.size + 1]? = some (.cells (z4) 43 (0, 0)) := (heap_call hC xh2)
  have hS := hS.call hC
  have hz4 := hC.size
  clear hC
  refine hK.out _ _ hS ?_
  clear hK K
  intro _
  have hSz := hS.size
  refine wpAnyH_ready (rs := [4]) (by kernel_rfl) (by simp) ?_
  refine (AllReadyH.cons rfl ?_ AllReadyH.nil)
  intro K hK
  rw [if_pos (by rfl)]
  refine wp_store_row 43 _ _ rfl (w.heap.size + 1) (numC R) rfl rfl 43 (z4) xh2 (infoNum_of (numC R) (numC_size _)) (z4_size.trans (numC_size _).symm) (numC_one _) ?_
  refine put_at (none) rfl ?_
  simp only [Act.put, sia, sc0, scs]
  have xh2 : (w4.setRow (w.heap.size + 1) (numC R)).heap[w.heap.size + 1]? = some (.cells (numC R) 43 (0, 0)) := (setRow_heap _ _ _ _ _ _ xh2)
  have hS := hS.store (numC R)
  generalize w4.setRow (w.heap.size + 1) (numC R) = w5 at *
  refine hK.out _ _ hS ?_
  clear hK K
  intro _
  have hSz := hS.size
  refine wpAnyH_done (by kernel_rfl) ?_ _
  refine NoPanic.normal ?_
  have hsz := hS.size
  have h1 : w5.heap[w.heap.size]? = some (.cells (numC a) 43 (0, 0)) := hS.old h1 (by omega)
  have h2 := xh2
  have hBw5 : Hid (Below w.heap.size w w5) := Lib.hid (hBw1.out.trans (hS.below (by omega) hBw1.out.size))
  clear hS
  go_wp2
  refine bodyPost_ret (results_cell_row rfl _ _ (w.heap.size + 1) 43 (numC R) (0, 0) _ rfl h2 underNum rfl (infoNum_of (numC R) (numC_size _))) rfl ⟨rfl, hBw5.out⟩
end

section
open Go.RowKit
set_option maxHeartbeats 1000000 in
theorem negative_true (a : Nat) (h : Hid (a % 2 = 1)) (w : World) :
    Calls Tryd.prog 68 #[.agg (numC a)] w fun e w' => e = .returned (.bool true) ∧ Below w.heap.size w w' := by
  go_enter Tryd.func68, Tryd.ntmps68
  go_wp2_with (first
    | ((with_reducible refine at_dst 3 ?_); refine wpList_load_row rfl 43 _ rfl (w.heap.size) rfl 43 (numC a) (0, 0) _ (heap_new_at _ _ _ rfl) underNum rfl (infoNum_of (numC a) (numC_size _)) ?_))
  refine (bit_true a 0 (by omega) (by rw [Nat.pow_zero, Nat.div_one]; exact h.out) _).mono ?_
  rintro e w1 ⟨rfl, hC1⟩
  have hs1 : w.heap.size + 1 ≤ w1.heap.size := by have := hC1.size; (try simp only [alloc_size, setRow_size] at this); omega
  have h1 : w1.heap[w.heap.size]? = some (.cells (numC a) 43 (0, 0)) := (heap_call hC1 (heap_new_at _ _ _ rfl))
  have hB1 : Hid (Below w.heap.size w w1) := Lib.hid (below_call (below_alloc (Below.refl _ w) _) hC1)
  clear hC1
  go_wp2
  go_ret
  exact ⟨rfl, hB1.out⟩
set_option maxHeartbeats 1000000 in
theorem negative_false (a : Nat) (h : Hid (¬ a % 2 = 1)) (w : World) :
    Calls Tryd.prog 68 #[.agg (numC a)] w fun e w' => e = .returned (.bool false) ∧ Below w.heap.size w w' := by
  go_enter Tryd.func68, Tryd.ntmps68
  go_wp2_with (first
    | ((with_reducible refine at_dst 3 ?_); refine wpList_load_row rfl 43 _ rfl (w.heap.size) rfl 43 (numC a) (0, 0) _ (heap_new_at _ _ _ rfl) underNum rfl (infoNum_of (numC a) (numC_size _)) ?_))
  refine (bit_false a 0 (by omega) (by rw [Nat.pow_zero, Nat.div_one]; exact h.out) _).mono ?_
  rintro e w1 ⟨rfl, hC1⟩
  have hs1 : w.heap.size + 1 ≤ w1.heap.size := by have := hC1.size; (try simp only [alloc_size, setRow_size] at this); omega
  have h1 : w1.heap[w.heap.size]? = some (.cells (numC a) 43 (0, 0)) := (heap_call hC1 (heap_new_at _ _ _ rfl))
  have hB1 : Hid (Below w.heap.size w w1) := Lib.hid (below_call (below_alloc (Below.refl _ w) _) hC1)
  clear hC1
  go_wp2
  go_ret
  exact ⟨rfl, hB1.out⟩
end

end Go.Proofs.YtcenlinpbpbpoaaDoor
