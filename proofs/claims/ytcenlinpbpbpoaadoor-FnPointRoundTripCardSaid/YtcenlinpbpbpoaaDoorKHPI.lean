/- Parts of texts for several laws: Set, identity, Bytes of points; impl's pointOf, pointBytes. -/
import Derived.BigRegion
import Derived.ChangeKeysEq
import Derived.Deep.DeepCutAuto
import Derived.Deep.Draws
import Derived.Deep.Fields
import Derived.Deep.MidRow
import Derived.Deep.Quiet
import Derived.Deep.RegionHeld3
import Derived.Deep.WholeRow
import Derived.Great.BuildSlice
import Derived.LaidMore
import Derived.Laws.AppendOwn
import Derived.Laws.Bits64b
import Derived.Laws.CopyOwn
import Derived.Laws.CopyRow
import Derived.Laws.Externs
import Derived.Laws.StructEq
import Derived.Laws.Tables
import Derived.Lib.Hide
import Derived.LoopTactic
import Derived.OpenShut
import Derived.ProofKit
import Derived.StillTailTactics
import Derived.Stop.Joined
import Derived.Test.YtcenlinpbpbpoaaDoorProg
import Derived.WalkKit
import Derived.WalkLawsBesides
import Derived.WalkSpells
import Derived.WideKeyArgs
import Derived.Test.YtcenlinpbpbpoaaDoorKHF1
import Derived.Test.YtcenlinpbpbpoaaDoorKHF3
import Derived.Test.YtcenlinpbpbpoaaDoorKHGr
import Derived.Test.YtcenlinpbpbpoaaDoorKHPP
import Derived.Test.YtcenlinpbpbpoaaDoorKHPS
import Derived.Test.YtcenlinpbpbpoaaDoorKHU1
import Derived.Test.YtcenlinpbpbpoaaDoorKHUM
import Derived.Test.YtcenlinpbpbpoaaDoorKHUN
import Derived.Test.YtcenlinpbpbpoaaDoorKHUS
import Derived.Test.YtcenlinpbpbpoaaDoorKHUSR
import Derived.Test.YtcenlinpbpbpoaaDoorKHUSe
import Derived.Test.YtcenlinpbpbpoaaDoorKL0
import Derived.Test.YtcenlinpbpbpoaaDoorKL1
import Derived.Test.YtcenlinpbpbpoaaDoorKL2
import Derived.Test.YtcenlinpbpbpoaaDoorKL3
import Derived.Test.YtcenlinpbpbpoaaDoorKL4
namespace Go.Proofs.YtcenlinpbpbpoaaDoor
set_option maxRecDepth 4000
set_option linter.unusedSimpArgs false
set_option linter.unusedVariables false
section
open Go.RowKit
def zP : Array Value := #[.int .u64 0, .int .u64 0, .int .u64 0, .int .u64 0, .int .u64 0, .int .u64 0, .int .u64 0, .int .u64 0, .int .u64 0, .int .u64 0, .int .u64 0, .int .u64 0, .int .u64 0, .int .u64 0, .int .u64 0, .int .u64 0, .int .u64 0, .int .u64 0, .int .u64 0, .int .u64 0]
theorem underPP : Tryd.prog.underlying 62 = some (.struct (Tryd.prog.fieldsOf 62)) := by kernel_rfl
theorem infoP : (Tryd.prog.info? 62).map (·.size) = some 20 := by kernel_rfl
/-- the twenty cells of a point -/
def l20 (L : Nat → L5) (i : Nat) : Value := limbV (L (i / 5)) (i % 5)
def c20 (L : Nat → L5) : Array Value := ((List.range 20).map (l20 L)).toArray
theorem c20_size (L : Nat → L5) : (c20 L).size = 20 := by simp [c20]
theorem c20_get (L : Nat → L5) (i : Nat) (hi : i < 20) : (c20 L)[i]? = some (l20 L i) := by simp [c20, hi]
theorem c20_one (L : Nat → L5) : (c20 L).all (·.oneCell') = true := by
  apply Array.all_eq_true_iff_forall_mem.2
  intro v hv
  simp only [c20, List.mem_toArray, List.mem_map] at hv
  obtain ⟨i, _, rfl⟩ := hv
  rfl
theorem c20_range (L : Nat → L5) {w : World} {b o : Nat} (h : ∀ q, q < 4 → El w b (o + 5 * q) (L q)) : w.rangeAt b o (c20 L).toList := by
  intro j v hv
  have hj : j < 20 := by
    have := (List.getElem?_eq_some_iff.1 hv).1
    simpa [c20] using this
  have e : v = l20 L j := by
    have : (c20 L).toList[j]? = some (l20 L j) := by simp [c20, hj]
    rw [this] at hv
    exact (Option.some.inj hv).symm
  have := Row.cell (i := j % 5) (h (j / 5) (by omega)) (by omega)
  rw [e, show o + j = o + 5 * (j / 5) + j % 5 by omega]
  exact this
theorem c20_el (L : Nat → L5) {w : World} {b : Nat} {t : TypeId} (h : w.heap[b]? = some (.cells (c20 L) t (0, 0))) (q : Nat) (hq : q < 4) : El w b (5 * q) (L q) :=
  ⟨c20 L, t, (0, 0), h, fun i hi => ⟨by
    rw [c20_get L _ (by omega)]
    unfold l20
    rw [show (5 * q + i) / 5 = q by omega, show (5 * q + i) % 5 = i by omega], by simp⟩⟩
theorem Fr.setRow {b : Nat} {w w1 : World} (h : Fr b w w1) (cs : Array Value) : Fr b w (w1.setRow b cs) :=
  ⟨h.os, h.tape, h.output, by rw [setRow_size]; exact h.size, fun k hk hne => (setRow_other _ _ _ _ hne).trans (h.other k hk hne)⟩
set_option maxHeartbeats 1000000 in
theorem pt_set (vb ub uo : Nat) (X Y Z T : Fp) (old : Array Value) (ho : old.size = 20) (Ty : TypeId) (w : World) (hv : w.heap[vb]? = some (.cells old Ty (0, 0))) (hu0 : Fe w ub uo X.val) (hu1 : Fe w ub (uo + 5) Y.val) (hu2 : Fe w ub (uo + 10) Z.val) (hu3 : Fe w ub (uo + 15) T.val) :
    Calls Tryd.prog 69 #[.pointer (some ⟨vb, 0, none⟩), .pointer (some ⟨ub, uo, none⟩)] w fun e w' => e = .returned (.pointer (some ⟨vb, 0, none⟩)) ∧ Fr vb w w' ∧ Fe w' vb 0 X.val ∧ Fe w' vb 5 Y.val ∧ Fe w' vb 10 Z.val ∧ Fe w' vb 15 T.val := by
  obtain ⟨L0, e0, b0, v0⟩ := hu0
  obtain ⟨L1, e1, b1, v1⟩ := hu1
  obtain ⟨L2, e2, b2, v2⟩ := hu2
  obtain ⟨L3, e3, b3, v3⟩ := hu3
  obtain ⟨L, qL⟩ : ∃ L : Nat → L5, L = fun q => if q = 0 then L0 else if q = 1 then L1 else if q = 2 then L2 else L3 := ⟨_, rfl⟩
  have l0 : L 0 = L0 := by rw [qL]; rfl
  have l1 : L 1 = L1 := by rw [qL]; rfl
  have l2 : L 2 = L2 := by rw [qL]; rfl
  have l3 : L 3 = L3 := by rw [qL]; rfl
  have hr := Lib.hid (c20_range L (w := w) (b := ub) (o := uo) (by
    intro q hq
    rcases (show q = 0 ∨ q = 1 ∨ q = 2 ∨ q = 3 by omega) with rfl | rfl | rfl | rfl
    · rw [l0]; exact e0
    · rw [l1]; exact e1
    · rw [l2]; exact e2
    · rw [l3]; exact e3))
  have hb := Lib.hid (And.intro b0 (And.intro b1 (And.intro b2 b3))); have hvs := Lib.hid (And.intro v0 (And.intro v1 (And.intro v2 v3))); have hv' := Lib.hid hv; have hl := Lib.hid (And.intro l0 (And.intro l1 (And.intro l2 l3)))
  clear e0 e1 e2 e3 b0 b1 b2 b3 v0 v1 v2 v3 hv qL l0 l1 l2 l3
  go_enter Tryd.func69, Tryd.ntmps69
  go_wp2_with (first
    | ((with_reducible refine at_dst 8 ?_); refine wpList_load_mid rfl 62 _ rfl ub uo rfl (c20 L).toList _ hr.out underPP rfl (by rw [infoP]; simp [c20]) ?_)
    | ((with_reducible refine at_store 9 ?_); refine wpList_store_row rfl 62 _ _ rfl vb (c20 L) rfl rfl Ty old hv'.out (by rw [infoP, c20_size]) (by rw [c20_size]; exact ho) (c20_one L) ?_))
  refine bodyPost_ret (results_tmp rfl _ _ _) rfl ?_
  have hh : (w.setRow vb (c20 L)).heap[vb]? = some (.cells (c20 L) Ty (0, 0)) := setRow_heap _ _ _ _ _ _ hv'.out
  obtain ⟨l0, l1, l2, l3⟩ := hl.out
  obtain ⟨b0, b1, b2, b3⟩ := hb.out
  obtain ⟨v0, v1, v2, v3⟩ := hvs.out
  have g0 := c20_el L hh 0 (by omega); have g1 := c20_el L hh 1 (by omega); have g2 := c20_el L hh 2 (by omega); have g3 := c20_el L hh 3 (by omega)
  rw [l0] at g0; rw [l1] at g1; rw [l2] at g2; rw [l3] at g3
  exact ⟨rfl, (Fr.refl vb w).setRow _, ⟨L0, g0, b0, v0⟩, ⟨L1, g1, b1, v1⟩, ⟨L2, g2, b2, v2⟩, ⟨L3, g3, b3, v3⟩⟩
set_option maxHeartbeats 4000000 in
theorem identity_new (B : Nat) (w : World) (hD0 : Var 1 z5 B w) (hD1 : Var 0 i5 B w) (hD2 : Var 2 o5 B w) :
    Calls Tryd.prog 70 #[] w fun e w' => ∃ b, ∃ r0 r1 r2 r3 : Fp, e = .returned (.pointer (some ⟨b, 0, none⟩)) ∧ w.heap.size ≤ b ∧ Below w.heap.size w w' ∧ Rq CP.zero r0 r1 r2 r3 ∧ Fe w' b 0 r0.val ∧ Fe w' b 5 r1.val ∧ Fe w' b 10 r2.val ∧ Fe w' b 15 r3.val := by
  have hBl := hD0.1
  have l1 : 1 < 256 ^ 32 := by omega
  go_enter Tryd.func70, Tryd.ntmps70
  go_wp2_with (first
    | ((with_reducible refine at_dst 5 ?_); refine wpList_buildBytes rfl (some 5) rfl _ rfl [1, 0, 0, 0, 0, 0, 0, 0, 0, 0, 0, 0, 0, 0, 0, 0, 0, 0, 0, 0, 0, 0, 0, 0, 0, 0, 0, 0, 0, 0, 0, 0] (1) (w.heap.size + 1) (by kernel_rfl) (by (try simp only [alloc_size, setRow_size])) rfl (by kernel_rfl) ?_))
  refine (pt_setBytes_some (w.heap.size) (0) (w.heap.size + 1) (0) (1) (32) _ _ _ _ CP.zero l1 zero_dec (by omega) (by omega) B _ (hD0.later (below_alloc (below_alloc (Below.refl _ w) _) _)) (hD1.later (below_alloc (below_alloc (Below.refl _ w) _) _)) (hD2.later (below_alloc (below_alloc (Below.refl _ w) _) _)) (by omega) (Fe.alloc (Fe.news_at _ _ _ _ 0 rfl rfl rfl rfl rfl (by first | rfl | simp only [alloc_size, setRow_size])) _) (Fe.alloc (Fe.news_at _ _ _ _ 5 rfl rfl rfl rfl rfl (by first | rfl | simp only [alloc_size, setRow_size])) _) (Fe.alloc (Fe.news_at _ _ _ _ 10 rfl rfl rfl rfl rfl (by first | rfl | simp only [alloc_size, setRow_size])) _) (Fe.alloc (Fe.news_at _ _ _ _ 15 rfl rfl rfl rfl rfl (by first | rfl | simp only [alloc_size, setRow_size])) _) (Row.ofArr (heap_new_at _ _ _ (by simp only [alloc_size, setRow_size])))).mono ?_
  rintro e w1 ⟨rfl, hC1, k1_2_0, k1_2_1, k1_2_2, k1_2_3, hK1_2, y1_2_0, y1_2_1, y1_2_2, y1_2_3⟩
  have hs1 : w.heap.size + 1 + 1 ≤ w1.heap.size := by have := hC1.size; (try simp only [alloc_size, setRow_size] at this); omega
  replace h4_0 : Fe w1 (w.heap.size) (0) (k1_2_0.val) := y1_2_0
  replace h4_5 : Fe w1 (w.heap.size) (5) (k1_2_1.val) := y1_2_1
  replace h4_10 : Fe w1 (w.heap.size) (10) (k1_2_2.val) := y1_2_2
  replace h4_15 : Fe w1 (w.heap.size) (15) (k1_2_3.val) := y1_2_3
  replace h5 : w1.heap[w.heap.size + 1]? = some (.cells (arrC (1)) 5 (0, 0)) := Fr.keepB hC1 (heap_new_at _ _ _ (by simp only [alloc_size, setRow_size])) (by omega)
  have hBw1 : Hid (Below w.heap.size w w1) := Lib.hid ((below_alloc (below_alloc (Below.refl _ w) _) _).trans (hC1.below (by omega) (below_alloc (below_alloc (Below.refl _ w) _) _).size))
  clear hC1
  go_wp2
  go_ret
  exact ⟨_, k1_2_0, k1_2_1, k1_2_2, k1_2_3, rfl, by omega, hBw1.out, hK1_2, h4_0, h4_5, h4_10, h4_15⟩
set_option maxHeartbeats 4000000 in
theorem newIdentity_new (B : Nat) (w : World) (hD0 : Var 1 z5 B w) (hD1 : Var 0 i5 B w) (hD2 : Var 2 o5 B w) :
    Calls Tryd.prog 33 #[] w fun e w' => ∃ b, ∃ r0 r1 r2 r3 : Fp, e = .returned (.pointer (some ⟨b, 0, none⟩)) ∧ w.heap.size ≤ b ∧ Below w.heap.size w w' ∧ Rq CP.zero r0 r1 r2 r3 ∧ Fe w' b 0 r0.val ∧ Fe w' b 5 r1.val ∧ Fe w' b 10 r2.val ∧ Fe w' b 15 r3.val := by
  have hBl := hD0.1
  go_enter Tryd.func33, Tryd.ntmps33
  go_wp2_with fail
  refine (identity_new B _ (hD0.later (below_alloc (Below.refl _ w) _)) (hD1.later (below_alloc (Below.refl _ w) _)) (hD2.later (below_alloc (Below.refl _ w) _))).mono ?_
  rintro e w1 ⟨b1_1, x1_1_0, x1_1_1, x1_1_2, x1_1_3, rfl, hlb1_1, hC1, hq1_1, xhf1_1_0, xhf1_1_1, xhf1_1_2, xhf1_1_3⟩
  have hs1 : w.heap.size + 1 ≤ w1.heap.size := by have := hC1.size; (try simp only [alloc_size, setRow_size] at this); omega
  replace h1_0 : Fe w1 (w.heap.size) (0) (0) := (Fe.below_all (Fe.news_at _ _ _ _ 0 rfl rfl rfl rfl rfl (by first | rfl | simp only [alloc_size, setRow_size])) hC1)
  replace h1_5 : Fe w1 (w.heap.size) (5) (0) := (Fe.below_all (Fe.news_at _ _ _ _ 5 rfl rfl rfl rfl rfl (by first | rfl | simp only [alloc_size, setRow_size])) hC1)
  replace h1_10 : Fe w1 (w.heap.size) (10) (0) := (Fe.below_all (Fe.news_at _ _ _ _ 10 rfl rfl rfl rfl rfl (by first | rfl | simp only [alloc_size, setRow_size])) hC1)
  replace h1_15 : Fe w1 (w.heap.size) (15) (0) := (Fe.below_all (Fe.news_at _ _ _ _ 15 rfl rfl rfl rfl rfl (by first | rfl | simp only [alloc_size, setRow_size])) hC1)
  replace h1 : w1.heap[w.heap.size]? = some (.cells (zP) 62 (0, 0)) := (heap_call hC1 (heap_new_at _ _ _ rfl))
  have hBw1 : Hid (Below w.heap.size w w1) := Lib.hid (below_call (below_alloc (Below.refl _ w) _) hC1)
  clear hC1
  have hlb1_1 : w.heap.size + 1 ≤ b1_1 := by (try simp only [alloc_size, setRow_size] at hlb1_1); omega
  have hub1_1 := xhf1_1_0.lt
  go_wp2_with fail
  refine (pt_set (w.heap.size) (b1_1) (0) x1_1_0 x1_1_1 x1_1_2 x1_1_3 zP rfl _ _ h1 xhf1_1_0 xhf1_1_1 xhf1_1_2 xhf1_1_3).mono ?_
  rintro e w2 ⟨rfl, hC2, y1_2_0, y1_2_1, y1_2_2, y1_2_3⟩
  have hs2 : w1.heap.size ≤ w2.heap.size := by have := hC2.size; (try simp only [alloc_size, setRow_size] at this); omega
  replace h1_0 : Fe w2 (w.heap.size) (0) (x1_1_0.val) := y1_2_0
  replace h1_5 : Fe w2 (w.heap.size) (5) (x1_1_1.val) := y1_2_1
  replace h1_10 : Fe w2 (w.heap.size) (10) (x1_1_2.val) := y1_2_2
  replace h1_15 : Fe w2 (w.heap.size) (15) (x1_1_3.val) := y1_2_3
  replace hf1_1_0 : Fe w2 (b1_1) (0) (x1_1_0.val) := Fr.keepF hC2 xhf1_1_0 (by omega)
  replace hf1_1_1 : Fe w2 (b1_1) (5) (x1_1_1.val) := Fr.keepF hC2 xhf1_1_1 (by omega)
  replace hf1_1_2 : Fe w2 (b1_1) (10) (x1_1_2.val) := Fr.keepF hC2 xhf1_1_2 (by omega)
  replace hf1_1_3 : Fe w2 (b1_1) (15) (x1_1_3.val) := Fr.keepF hC2 xhf1_1_3 (by omega)
  have hBw2 : Hid (Below w.heap.size w w2) := Lib.hid (hBw1.out.trans (hC2.below (by omega) hBw1.out.size))
  clear hC2
  go_wp2
  go_ret
  exact ⟨_, x1_1_0, x1_1_1, x1_1_2, x1_1_3, rfl, by omega, hBw2.out, hq1_1, h1_0, h1_5, h1_10, h1_15⟩
end

end Go.Proofs.YtcenlinpbpbpoaaDoor
