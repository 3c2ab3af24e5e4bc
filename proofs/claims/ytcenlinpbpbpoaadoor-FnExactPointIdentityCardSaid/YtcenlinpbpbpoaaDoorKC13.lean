/- Parts of texts for several laws: The kit of generated walks: blocks known whole, worlds named, regions in whatever order. Points: what projective coordinates stand for, sums by both roads, what a point is told by. Add, Subtract, Negate, Equal. impl's calls on points. The reference's points: negated, same, identity. The reference's calls on points. -/
import Derived.BigRegion
import Derived.ChangeKeysEq
import Derived.Deep.DeepCutAuto
import Derived.Deep.Draws
import Derived.Deep.Fields
import Derived.Deep.MidRow
import Derived.Deep.Quiet
import Derived.Deep.RegionHeld3
import Derived.Deep.WholeRow
import Derived.Great.BuildSlice
import Derived.LaidMore
import Derived.Laws.AppendOwn
import Derived.Laws.Bits64b
import Derived.Laws.CopyOwn
import Derived.Laws.CopyRow
import Derived.Laws.Externs
import Derived.Laws.StructEq
import Derived.Laws.Tables
import Derived.Lib.Hide
import Derived.LoopTactic
import Derived.OpenShut
import Derived.ProofKit
import Derived.StillTailTactics
import Derived.Stop.Joined
import Derived.Test.YtcenlinpbpbpoaaDoorProg
import Derived.WalkKit
import Derived.WalkLawsBesides
import Derived.WalkSpells
import Derived.WideKeyArgs
import Derived.Test.YtcenlinpbpbpoaaDoorKC1
import Derived.Test.YtcenlinpbpbpoaaDoorKC3
import Derived.Test.YtcenlinpbpbpoaaDoorKHF1
import Derived.Test.YtcenlinpbpbpoaaDoorKHF3
import Derived.Test.YtcenlinpbpbpoaaDoorKHGr
import Derived.Test.YtcenlinpbpbpoaaDoorKHPI
import Derived.Test.YtcenlinpbpbpoaaDoorKHPO
import Derived.Test.YtcenlinpbpbpoaaDoorKHPP
import Derived.Test.YtcenlinpbpbpoaaDoorKHPS
import Derived.Test.YtcenlinpbpbpoaaDoorKHS8
import Derived.Test.YtcenlinpbpbpoaaDoorKHSQ
import Derived.Test.YtcenlinpbpbpoaaDoorKHSQB
import Derived.Test.YtcenlinpbpbpoaaDoorKHSQN
import Derived.Test.YtcenlinpbpbpoaaDoorKHSRD
import Derived.Test.YtcenlinpbpbpoaaDoorKHU1
import Derived.Test.YtcenlinpbpbpoaaDoorKHUM
import Derived.Test.YtcenlinpbpbpoaaDoorKHUN
import Derived.Test.YtcenlinpbpbpoaaDoorKHUS
import Derived.Test.YtcenlinpbpbpoaaDoorKHUSR
import Derived.Test.YtcenlinpbpbpoaaDoorKHUSe
import Derived.Test.YtcenlinpbpbpoaaDoorKL0
import Derived.Test.YtcenlinpbpbpoaaDoorKL1
import Derived.Test.YtcenlinpbpbpoaaDoorKL2
import Derived.Test.YtcenlinpbpbpoaaDoorKL3
import Derived.Test.YtcenlinpbpbpoaaDoorKL4
namespace Go.Proofs.YtcenlinpbpbpoaaDoor
set_option maxRecDepth 4000
set_option linter.unusedSimpArgs false
set_option linter.unusedVariables false
section
open Go.RowKit
theorem take_skip {P : Program} {ops : Array Oper} {op : Oper} {a : Act} {S : World → Prop} (hw : Region.wanted op (yielded ops a.tmps) = false) : YieldsIf P ops S op undef a := .inr ⟨hw, rfl⟩
end

section
/-- equal points -/
theorem Rp.same {P Q : CP} {X1 Y1 Z1 X2 Y2 Z2 : Fp} (h1 : Rp P X1 Y1 Z1) (h2 : Rp Q X2 Y2 Z2) : (X1 * Z2 = X2 * Z1 ∧ Y1 * Z2 = Y2 * Z1) ↔ P = Q := by
  obtain ⟨z1, rfl, rfl⟩ := h1
  obtain ⟨z2, rfl, rfl⟩ := h2
  have zz : Z1 * Z2 ≠ 0 := fne_mul z1 z2
  constructor
  · intro ⟨hx, hy⟩
    exact CP.ext' (fp_cancel zz (by grind)) (fp_cancel zz (by grind))
  · rintro rfl
    exact ⟨by grind, by grind⟩
end

section
open Go.RowKit
theorem zand {P Q R : Prop} [Decidable P] [Decidable Q] [Decidable R] (h : P ∧ Q ↔ R) : bits .and .i64 (if P then 1 else 0) (if Q then 1 else 0) = if R then 1 else 0 := by
  by_cases hp : P <;> by_cases hq : Q
  · have hr : R := h.1 ⟨hp, hq⟩
    rw [if_pos hp, if_pos hq, if_pos hr]; rfl
  · have hr : ¬ R := fun r => hq (h.2 r).2
    rw [if_pos hp, if_neg hq, if_neg hr]; rfl
  · have hr : ¬ R := fun r => hp (h.2 r).1
    rw [if_neg hp, if_pos hq, if_neg hr]; rfl
  · have hr : ¬ R := fun r => hp (h.2 r).1
    rw [if_neg hp, if_neg hq, if_neg hr]; rfl
set_option maxHeartbeats 4000000 in
theorem pt_equal (pb po qb qo : Nat) (X Y Z T X2 Y2 Z2 T2 : Fp) (p q : CP) (hP : Rq p X Y Z T) (hQ : Rq q X2 Y2 Z2 T2) (N : Int) (hN : Hid (N = if p = q then 1 else 0)) (w : World) (hp0 : Fe w pb (po) X.val) (hp1 : Fe w pb (po + 5) Y.val) (hp2 : Fe w pb (po + 10) Z.val) (hp3 : Fe w pb (po + 15) T.val) (hq0 : Fe w qb (qo) X2.val) (hq1 : Fe w qb (qo + 5) Y2.val) (hq2 : Fe w qb (qo + 10) Z2.val) (hq3 : Fe w qb (qo + 15) T2.val) :
    Calls Tryd.prog 27 #[.pointer (some ⟨pb, po, none⟩), .pointer (some ⟨qb, qo, none⟩)] w fun e w' => e = .returned (.int .i64 N) ∧ Below w.heap.size w w' := by
  have hlp := hp0.lt; have hlq := hq0.lt
  go_enter Tryd.func27, Tryd.ntmps27
  go_wp2_with fail
  refine (checkInit2 (w.heap.size) (pb) (po) (qb) (qo) _ _ X Y Z X2 Y2 Z2 hP.1 hQ.1 _ _ (heap_new_at _ _ _ rfl) (Fe.alloc hp0 _) (Fe.alloc hp1 _) (Fe.alloc hq0 _) (Fe.alloc hq1 _)).mono ?_
  rintro e w1 ⟨rfl, hC1⟩
  have hs1 : w.heap.size + 1 ≤ w1.heap.size := by have := hC1.size; (try simp only [alloc_size, setRow_size] at this); omega
  replace hp0 : Fe w1 (pb) (po) (X.val) := (Fe.below_all (Fe.alloc hp0 _) hC1)
  replace hp1 : Fe w1 (pb) (po + 5) (Y.val) := (Fe.below_all (Fe.alloc hp1 _) hC1)
  replace hp2 : Fe w1 (pb) (po + 10) (Z.val) := (Fe.below_all (Fe.alloc hp2 _) hC1)
  replace hp3 : Fe w1 (pb) (po + 15) (T.val) := (Fe.below_all (Fe.alloc hp3 _) hC1)
  replace hq0 : Fe w1 (qb) (qo) (X2.val) := (Fe.below_all (Fe.alloc hq0 _) hC1)
  replace hq1 : Fe w1 (qb) (qo + 5) (Y2.val) := (Fe.below_all (Fe.alloc hq1 _) hC1)
  replace hq2 : Fe w1 (qb) (qo + 10) (Z2.val) := (Fe.below_all (Fe.alloc hq2 _) hC1)
  replace hq3 : Fe w1 (qb) (qo + 15) (T2.val) := (Fe.below_all (Fe.alloc hq3 _) hC1)
  replace h11 : w1.heap[w.heap.size]? = some (.cells (#[.pointer (some ⟨pb, po, none⟩), .pointer (some ⟨qb, qo, none⟩)]) 37 (0, 0)) := (heap_call hC1 (heap_new_at _ _ _ rfl))
  have hBw1 : Hid (Below w.heap.size w w1) := Lib.hid (below_call (below_alloc (Below.refl _ w) _) hC1)
  clear hC1
  go_wp2_with fail
  try simp only [Act.put]
  refine wp_named ?_
  intro w2 ew2
  have hs2 : w1.heap.size + 1 + 1 + 1 + 1 ≤ w2.heap.size := by rw [ew2]; (try simp only [alloc_size, setRow_size]); omega
  replace hp0 : Fe w2 (pb) (po) (X.val) := by rw [ew2]; exact (Fe.alloc (Fe.alloc (Fe.alloc (Fe.alloc hp0 _) _) _) _)
  replace hp1 : Fe w2 (pb) (po + 5) (Y.val) := by rw [ew2]; exact (Fe.alloc (Fe.alloc (Fe.alloc (Fe.alloc hp1 _) _) _) _)
  replace hp2 : Fe w2 (pb) (po + 10) (Z.val) := by rw [ew2]; exact (Fe.alloc (Fe.alloc (Fe.alloc (Fe.alloc hp2 _) _) _) _)
  replace hp3 : Fe w2 (pb) (po + 15) (T.val) := by rw [ew2]; exact (Fe.alloc (Fe.alloc (Fe.alloc (Fe.alloc hp3 _) _) _) _)
  replace hq0 : Fe w2 (qb) (qo) (X2.val) := by rw [ew2]; exact (Fe.alloc (Fe.alloc (Fe.alloc (Fe.alloc hq0 _) _) _) _)
  replace hq1 : Fe w2 (qb) (qo + 5) (Y2.val) := by rw [ew2]; exact (Fe.alloc (Fe.alloc (Fe.alloc (Fe.alloc hq1 _) _) _) _)
  replace hq2 : Fe w2 (qb) (qo + 10) (Z2.val) := by rw [ew2]; exact (Fe.alloc (Fe.alloc (Fe.alloc (Fe.alloc hq2 _) _) _) _)
  replace hq3 : Fe w2 (qb) (qo + 15) (T2.val) := by rw [ew2]; exact (Fe.alloc (Fe.alloc (Fe.alloc (Fe.alloc hq3 _) _) _) _)
  replace h5 : Fe w2 (w1.heap.size) (0) (0) := by rw [ew2]; exact (Fe.alloc (Fe.alloc (Fe.alloc (Fe.newz_at _ _ rfl) _) _) _)
  replace h6 : Fe w2 (w1.heap.size + 1) (0) (0) := by rw [ew2]; exact (Fe.alloc (Fe.alloc (Fe.newz_at _ _ (by (try simp only [alloc_size, setRow_size]))) _) _)
  replace h7 : Fe w2 (w1.heap.size + 1 + 1) (0) (0) := by rw [ew2]; exact (Fe.alloc (Fe.newz_at _ _ (by (try simp only [alloc_size, setRow_size]))) _)
  replace h8 : Fe w2 (w1.heap.size + 1 + 1 + 1) (0) (0) := by rw [ew2]; exact (Fe.newz_at _ _ (by (try simp only [alloc_size, setRow_size])))
  have hBw2 : Hid (Below w.heap.size w w2) := Lib.hid (by rw [ew2]; exact (below_alloc (below_alloc (below_alloc (below_alloc hBw1.out _) _) _) _))
  clear ew2
  obtain ⟨R1, qR1⟩ : ∃ uu : Fp, uu = X * Z2 := ⟨_, rfl⟩
  have HR1 := Lib.hid qR1; clear qR1
  refine wp_region_noPanic ?_
  refine wp_region_held_drew (S := Keep (w1.heap.size) w2) (by kernel_rfl) (Keep.start _ _) ?_
  intro hS
  obtain ⟨w3, ed⟩ : ∃ u : World, u = w2.drew := ⟨_, rfl⟩
  rw [← ed] at hS ⊢
  have xhp0 : Fe w3 (pb) (po) (X.val) := by rw [ed]; exact hp0
  have xhp1 : Fe w3 (pb) (po + 5) (Y.val) := by rw [ed]; exact hp1
  have xhp2 : Fe w3 (pb) (po + 10) (Z.val) := by rw [ed]; exact hp2
  have xhp3 : Fe w3 (pb) (po + 15) (T.val) := by rw [ed]; exact hp3
  have xhq0 : Fe w3 (qb) (qo) (X2.val) := by rw [ed]; exact hq0
  have xhq1 : Fe w3 (qb) (qo + 5) (Y2.val) := by rw [ed]; exact hq1
  have xhq2 : Fe w3 (qb) (qo + 10) (Z2.val) := by rw [ed]; exact hq2
  have xhq3 : Fe w3 (qb) (qo + 15) (T2.val) := by rw [ed]; exact hq3
  have xh5 : Fe w3 (w1.heap.size) (0) (0) := by rw [ed]; exact h5
  have xh6 : Fe w3 (w1.heap.size + 1) (0) (0) := by rw [ed]; exact h6
  have xh7 : Fe w3 (w1.heap.size + 1 + 1) (0) (0) := by rw [ed]; exact h7
  have xh8 : Fe w3 (w1.heap.size + 1 + 1 + 1) (0) (0) := by rw [ed]; exact h8
  clear ed
  have hSz := hS.size
  refine takeAtK (i := 0) (v := .pointer (some ⟨pb, po, none⟩)) rfl (some 13) rfl (take_run rfl (fun _ _ => by go_simp)) hS ?_
  simp only [Act.put, sia, sc0, scs]
  refine takeAtK (i := 1) (v := .pointer (some ⟨pb, po, none⟩)) rfl (some 14) rfl (take_run rfl (fun _ _ => by go_simp)) hS ?_
  simp only [Act.put, sia, sc0, scs]
  refine takeAtK (i := 2) (v := .pointer (some ⟨pb, po, none⟩)) rfl (some 15) rfl (take_run rfl (fun _ _ => by go_simp)) hS ?_
  simp only [Act.put, sia, sc0, scs]
  refine takeAtK (i := 3) (v := .pointer (some ⟨qb, qo, none⟩)) rfl (some 16) rfl (take_run rfl (fun _ _ => by go_simp)) hS ?_
  simp only [Act.put, sia, sc0, scs]
  refine takeAtK (i := 4) (v := .pointer (some ⟨qb, qo, none⟩)) rfl (some 17) rfl (take_run rfl (fun _ _ => by go_simp)) hS ?_
  simp only [Act.put, sia, sc0, scs]
  refine takeAtK (i := 5) (v := .pointer (some ⟨qb, qo + 10, none⟩)) rfl (some 18) rfl (take_run rfl (fun _ _ => by go_simp)) hS ?_
  simp only [Act.put, sia, sc0, scs]
  refine wpAnyH_ready (rs := [6]) (by kernel_rfl) (by simp) ?_
  refine (AllReadyH.cons rfl ?_ AllReadyH.nil)
  intro K hK
  refine ready_call rfl (some 19) rfl 42 #[.pointer (some ⟨w1.heap.size, 0, none⟩), .pointer (some ⟨pb, po, none⟩), .pointer (some ⟨qb, qo + 10, none⟩)] (by go_simp) ?_
  refine (mul_ff (w1.heap.size) (0) (pb) (po) (qb) (qo + 10) _ _ _ _ xh5 xhp0 xhq2 R1 HR1).mono ?_
  rintro e w4 ⟨rfl, hC⟩
  refine ⟨_, rfl, ?_⟩
  simp only [Act.put, sia, sc0, scs]
  have hz4 := hC.size
  have xhp0 : Fe w4 (pb) (po) (X.val) := (Sets.others hC xhp0 (by omega))
  have xhp1 : Fe w4 (pb) (po + 5) (Y.val) := (Sets.others hC xhp1 (by omega))
  have xhp2 : Fe w4 (pb) (po + 10) (Z.val) := (Sets.others hC xhp2 (by omega))
  have xhp3 : Fe w4 (pb) (po + 15) (T.val) := (Sets.others hC xhp3 (by omega))
  have xhq0 : Fe w4 (qb) (qo) (X2.val) := (Sets.others hC xhq0 (by omega))
  have xhq1 : Fe w4 (qb) (qo + 5) (Y2.val) := (Sets.others hC xhq1 (by omega))
  have xhq2 : Fe w4 (qb) (qo + 10) (Z2.val) := (Sets.others hC xhq2 (by omega))
  have xhq3 : Fe w4 (qb) (qo + 15) (T2.val) := (Sets.others hC xhq3 (by omega))
  have xh5 : Fe w4 (w1.heap.size) (0) (R1.val) := (Sets.fe' hC xh5)
  have xh6 : Fe w4 (w1.heap.size + 1) (0) (0) := (Sets.others hC xh6 (by omega))
  have xh7 : Fe w4 (w1.heap.size + 1 + 1) (0) (0) := (Sets.others hC xh7 (by omega))
  have xh8 : Fe w4 (w1.heap.size + 1 + 1 + 1) (0) (0) := (Sets.others hC xh8 (by omega))
  have hS := hS.setsR hC
  clear hC
  refine hK.out _ _ hS ?_
  clear hK K
  intro _
  have hSz := hS.size
  refine wpAnyH_done (by kernel_rfl) ?_ _
  refine NoPanic.normal ?_
  have hsz := hS.size
  have hp0 := xhp0
  have hp1 := xhp1
  have hp2 := xhp2
  have hp3 := xhp3
  have hq0 := xhq0
  have hq1 := xhq1
  have hq2 := xhq2
  have hq3 := xhq3
  have h5 := xh5
  have h6 := xh6
  have h7 := xh7
  have h8 := xh8
  have hBw4 : Hid (Below w.heap.size w w4) := Lib.hid (hBw2.out.trans (hS.below (by omega) hBw2.out.size))
  clear hS
  go_wp2_with fail
  try simp only [Act.put]
  refine wp_named ?_
  intro w6 ew6
  have hs6 : w4.heap.size ≤ w6.heap.size := by rw [ew6]; (try simp only [alloc_size, setRow_size]); omega
  replace hp0 : Fe w6 (pb) (po) (X.val) := by rw [ew6]; exact hp0
  replace hp1 : Fe w6 (pb) (po + 5) (Y.val) := by rw [ew6]; exact hp1
  replace hp2 : Fe w6 (pb) (po + 10) (Z.val) := by rw [ew6]; exact hp2
  replace hp3 : Fe w6 (pb) (po + 15) (T.val) := by rw [ew6]; exact hp3
  replace hq0 : Fe w6 (qb) (qo) (X2.val) := by rw [ew6]; exact hq0
  replace hq1 : Fe w6 (qb) (qo + 5) (Y2.val) := by rw [ew6]; exact hq1
  replace hq2 : Fe w6 (qb) (qo + 10) (Z2.val) := by rw [ew6]; exact hq2
  replace hq3 : Fe w6 (qb) (qo + 15) (T2.val) := by rw [ew6]; exact hq3
  replace h5 : Fe w6 (w1.heap.size) (0) (R1.val) := by rw [ew6]; exact h5
  replace h6 : Fe w6 (w1.heap.size + 1) (0) (0) := by rw [ew6]; exact h6
  replace h7 : Fe w6 (w1.heap.size + 1 + 1) (0) (0) := by rw [ew6]; exact h7
  replace h8 : Fe w6 (w1.heap.size + 1 + 1 + 1) (0) (0) := by rw [ew6]; exact h8
  have hBw6 : Hid (Below w.heap.size w w6) := Lib.hid (by rw [ew6]; exact hBw4.out)
  clear ew6
  obtain ⟨R2, qR2⟩ : ∃ uu : Fp, uu = X2 * Z := ⟨_, rfl⟩
  have HR2 := Lib.hid qR2; clear qR2
  refine wp_region_noPanic ?_
  refine wp_region_held_drew (S := Keep (w1.heap.size + 1) w6) (by kernel_rfl) (Keep.start _ _) ?_
  intro hS
  obtain ⟨w7, ed⟩ : ∃ u : World, u = w6.drew := ⟨_, rfl⟩
  rw [← ed] at hS ⊢
  have xhp0 : Fe w7 (pb) (po) (X.val) := by rw [ed]; exact hp0
  have xhp1 : Fe w7 (pb) (po + 5) (Y.val) := by rw [ed]; exact hp1
  have xhp2 : Fe w7 (pb) (po + 10) (Z.val) := by rw [ed]; exact hp2
  have xhp3 : Fe w7 (pb) (po + 15) (T.val) := by rw [ed]; exact hp3
  have xhq0 : Fe w7 (qb) (qo) (X2.val) := by rw [ed]; exact hq0
  have xhq1 : Fe w7 (qb) (qo + 5) (Y2.val) := by rw [ed]; exact hq1
  have xhq2 : Fe w7 (qb) (qo + 10) (Z2.val) := by rw [ed]; exact hq2
  have xhq3 : Fe w7 (qb) (qo + 15) (T2.val) := by rw [ed]; exact hq3
  have xh5 : Fe w7 (w1.heap.size) (0) (R1.val) := by rw [ed]; exact h5
  have xh6 : Fe w7 (w1.heap.size + 1) (0) (0) := by rw [ed]; exact h6
  have xh7 : Fe w7 (w1.heap.size + 1 + 1) (0) (0) := by rw [ed]; exact h7
  have xh8 : Fe w7 (w1.heap.size + 1 + 1 + 1) (0) (0) := by rw [ed]; exact h8
  clear ed
  have hSz := hS.size
  refine takeAtK (i := 0) (v := .pointer (some ⟨qb, qo, none⟩)) rfl (some 20) rfl (take_run rfl (fun _ _ => by go_simp)) hS ?_
  simp only [Act.put, sia, sc0, scs]
  refine takeAtK (i := 1) (v := .pointer (some ⟨qb, qo, none⟩)) rfl (some 21) rfl (take_run rfl (fun _ _ => by go_simp)) hS ?_
  simp only [Act.put, sia, sc0, scs]
  refine takeAtK (i := 2) (v := .pointer (some ⟨qb, qo, none⟩)) rfl (some 22) rfl (take_run rfl (fun _ _ => by go_simp)) hS ?_
  simp only [Act.put, sia, sc0, scs]
  refine takeAtK (i := 3) (v := .pointer (some ⟨pb, po, none⟩)) rfl (some 23) rfl (take_run rfl (fun _ _ => by go_simp)) hS ?_
  simp only [Act.put, sia, sc0, scs]
  refine takeAtK (i := 4) (v := .pointer (some ⟨pb, po, none⟩)) rfl (some 24) rfl (take_run rfl (fun _ _ => by go_simp)) hS ?_
  simp only [Act.put, sia, sc0, scs]
  refine takeAtK (i := 5) (v := .pointer (some ⟨pb, po + 10, none⟩)) rfl (some 25) rfl (take_run rfl (fun _ _ => by go_simp)) hS ?_
  simp only [Act.put, sia, sc0, scs]
  refine wpAnyH_ready (rs := [6]) (by kernel_rfl) (by simp) ?_
  refine (AllReadyH.cons rfl ?_ AllReadyH.nil)
  intro K hK
  refine ready_call rfl (some 26) rfl 42 #[.pointer (some ⟨w1.heap.size + 1, 0, none⟩), .pointer (some ⟨qb, qo, none⟩), .pointer (some ⟨pb, po + 10, none⟩)] (by go_simp) ?_
  refine (mul_ff (w1.heap.size + 1) (0) (qb) (qo) (pb) (po + 10) _ _ _ _ xh6 xhq0 xhp2 R2 HR2).mono ?_
  rintro e w8 ⟨rfl, hC⟩
  refine ⟨_, rfl, ?_⟩
  simp only [Act.put, sia, sc0, scs]
  have hz8 := hC.size
  have xhp0 : Fe w8 (pb) (po) (X.val) := (Sets.others hC xhp0 (by omega))
  have xhp1 : Fe w8 (pb) (po + 5) (Y.val) := (Sets.others hC xhp1 (by omega))
  have xhp2 : Fe w8 (pb) (po + 10) (Z.val) := (Sets.others hC xhp2 (by omega))
  have xhp3 : Fe w8 (pb) (po + 15) (T.val) := (Sets.others hC xhp3 (by omega))
  have xhq0 : Fe w8 (qb) (qo) (X2.val) := (Sets.others hC xhq0 (by omega))
  have xhq1 : Fe w8 (qb) (qo + 5) (Y2.val) := (Sets.others hC xhq1 (by omega))
  have xhq2 : Fe w8 (qb) (qo + 10) (Z2.val) := (Sets.others hC xhq2 (by omega))
  have xhq3 : Fe w8 (qb) (qo + 15) (T2.val) := (Sets.others hC xhq3 (by omega))
  have xh5 : Fe w8 (w1.heap.size) (0) (R1.val) := (Sets.others hC xh5 (by omega))
  have xh6 : Fe w8 (w1.heap.size + 1) (0) (R2.val) := (Sets.fe' hC xh6)
  have xh7 : Fe w8 (w1.heap.size + 1 + 1) (0) (0) := (Sets.others hC xh7 (by omega))
  have xh8 : Fe w8 (w1.heap.size + 1 + 1 + 1) (0) (0) := (Sets.others hC xh8 (by omega))
  have hS := hS.setsR hC
  clear hC
  refine hK.out _ _ hS ?_
  clear hK K
  intro _
  have hSz := hS.size
  refine wpAnyH_done (by kernel_rfl) ?_ _
  refine NoPanic.normal ?_
  have hsz := hS.size
  have hp0 := xhp0
  have hp1 := xhp1
  have hp2 := xhp2
  have hp3 := xhp3
  have hq0 := xhq0
  have hq1 := xhq1
  have hq2 := xhq2
  have hq3 := xhq3
  have h5 := xh5
  have h6 := xh6
  have h7 := xh7
  have h8 := xh8
  have hBw8 : Hid (Below w.heap.size w w8) := Lib.hid (hBw6.out.trans (hS.below (by omega) hBw6.out.size))
  clear hS
  go_wp2_with fail
  try simp only [Act.put]
  refine wp_named ?_
  intro w10 ew10
  have hs10 : w8.heap.size ≤ w10.heap.size := by rw [ew10]; (try simp only [alloc_size, setRow_size]); omega
  replace hp0 : Fe w10 (pb) (po) (X.val) := by rw [ew10]; exact hp0
  replace hp1 : Fe w10 (pb) (po + 5) (Y.val) := by rw [ew10]; exact hp1
  replace hp2 : Fe w10 (pb) (po + 10) (Z.val) := by rw [ew10]; exact hp2
  replace hp3 : Fe w10 (pb) (po + 15) (T.val) := by rw [ew10]; exact hp3
  replace hq0 : Fe w10 (qb) (qo) (X2.val) := by rw [ew10]; exact hq0
  replace hq1 : Fe w10 (qb) (qo + 5) (Y2.val) := by rw [ew10]; exact hq1
  replace hq2 : Fe w10 (qb) (qo + 10) (Z2.val) := by rw [ew10]; exact hq2
  replace hq3 : Fe w10 (qb) (qo + 15) (T2.val) := by rw [ew10]; exact hq3
  replace h5 : Fe w10 (w1.heap.size) (0) (R1.val) := by rw [ew10]; exact h5
  replace h6 : Fe w10 (w1.heap.size + 1) (0) (R2.val) := by rw [ew10]; exact h6
  replace h7 : Fe w10 (w1.heap.size + 1 + 1) (0) (0) := by rw [ew10]; exact h7
  replace h8 : Fe w10 (w1.heap.size + 1 + 1 + 1) (0) (0) := by rw [ew10]; exact h8
  have hBw10 : Hid (Below w.heap.size w w10) := Lib.hid (by rw [ew10]; exact hBw8.out)
  clear ew10
  obtain ⟨R3, qR3⟩ : ∃ uu : Fp, uu = Y * Z2 := ⟨_, rfl⟩
  have HR3 := Lib.hid qR3; clear qR3
  refine wp_region_noPanic ?_
  refine wp_region_held_drew (S := Keep (w1.heap.size + 1 + 1) w10) (by kernel_rfl) (Keep.start _ _) ?_
  intro hS
  obtain ⟨w11, ed⟩ : ∃ u : World, u = w10.drew := ⟨_, rfl⟩
  rw [← ed] at hS ⊢
  have xhp0 : Fe w11 (pb) (po) (X.val) := by rw [ed]; exact hp0
  have xhp1 : Fe w11 (pb) (po + 5) (Y.val) := by rw [ed]; exact hp1
  have xhp2 : Fe w11 (pb) (po + 10) (Z.val) := by rw [ed]; exact hp2
  have xhp3 : Fe w11 (pb) (po + 15) (T.val) := by rw [ed]; exact hp3
  have xhq0 : Fe w11 (qb) (qo) (X2.val) := by rw [ed]; exact hq0
  have xhq1 : Fe w11 (qb) (qo + 5) (Y2.val) := by rw [ed]; exact hq1
  have xhq2 : Fe w11 (qb) (qo + 10) (Z2.val) := by rw [ed]; exact hq2
  have xhq3 : Fe w11 (qb) (qo + 15) (T2.val) := by rw [ed]; exact hq3
  have xh5 : Fe w11 (w1.heap.size) (0) (R1.val) := by rw [ed]; exact h5
  have xh6 : Fe w11 (w1.heap.size + 1) (0) (R2.val) := by rw [ed]; exact h6
  have xh7 : Fe w11 (w1.heap.size + 1 + 1) (0) (0) := by rw [ed]; exact h7
  have xh8 : Fe w11 (w1.heap.size + 1 + 1 + 1) (0) (0) := by rw [ed]; exact h8
  clear ed
  have hSz := hS.size
  refine takeAtK (i := 0) (v := .pointer (some ⟨pb, po, none⟩)) rfl (some 27) rfl (take_run rfl (fun _ _ => by go_simp)) hS ?_
  simp only [Act.put, sia, sc0, scs]
  refine takeAtK (i := 1) (v := .pointer (some ⟨pb, po, none⟩)) rfl (some 28) rfl (take_run rfl (fun _ _ => by go_simp)) hS ?_
  simp only [Act.put, sia, sc0, scs]
  refine takeAtK (i := 2) (v := .pointer (some ⟨pb, po + 5, none⟩)) rfl (some 29) rfl (take_run rfl (fun _ _ => by go_simp)) hS ?_
  simp only [Act.put, sia, sc0, scs]
  refine takeAtK (i := 3) (v := .pointer (some ⟨qb, qo, none⟩)) rfl (some 30) rfl (take_run rfl (fun _ _ => by go_simp)) hS ?_
  simp only [Act.put, sia, sc0, scs]
  refine takeAtK (i := 4) (v := .pointer (some ⟨qb, qo, none⟩)) rfl (some 31) rfl (take_run rfl (fun _ _ => by go_simp)) hS ?_
  simp only [Act.put, sia, sc0, scs]
  refine takeAtK (i := 5) (v := .pointer (some ⟨qb, qo + 10, none⟩)) rfl (some 32) rfl (take_run rfl (fun _ _ => by go_simp)) hS ?_
  simp only [Act.put, sia, sc0, scs]
  refine wpAnyH_ready (rs := [6]) (by kernel_rfl) (by simp) ?_
  refine (AllReadyH.cons rfl ?_ AllReadyH.nil)
  intro K hK
  refine ready_call rfl (some 33) rfl 42 #[.pointer (some ⟨w1.heap.size + 1 + 1, 0, none⟩), .pointer (some ⟨pb, po + 5, none⟩), .pointer (some ⟨qb, qo + 10, none⟩)] (by go_simp) ?_
  refine (mul_ff (w1.heap.size + 1 + 1) (0) (pb) (po + 5) (qb) (qo + 10) _ _ _ _ xh7 xhp1 xhq2 R3 HR3).mono ?_
  rintro e w12 ⟨rfl, hC⟩
  refine ⟨_, rfl, ?_⟩
  simp only [Act.put, sia, sc0, scs]
  have hz12 := hC.size
  have xhp0 : Fe w12 (pb) (po) (X.val) := (Sets.others hC xhp0 (by omega))
  have xhp1 : Fe w12 (pb) (po + 5) (Y.val) := (Sets.others hC xhp1 (by omega))
  have xhp2 : Fe w12 (pb) (po + 10) (Z.val) := (Sets.others hC xhp2 (by omega))
  have xhp3 : Fe w12 (pb) (po + 15) (T.val) := (Sets.others hC xhp3 (by omega))
  have xhq0 : Fe w12 (qb) (qo) (X2.val) := (Sets.others hC xhq0 (by omega))
  have xhq1 : Fe w12 (qb) (qo + 5) (Y2.val) := (Sets.others hC xhq1 (by omega))
  have xhq2 : Fe w12 (qb) (qo + 10) (Z2.val) := (Sets.others hC xhq2 (by omega))
  have xhq3 : Fe w12 (qb) (qo + 15) (T2.val) := (Sets.others hC xhq3 (by omega))
  have xh5 : Fe w12 (w1.heap.size) (0) (R1.val) := (Sets.others hC xh5 (by omega))
  have xh6 : Fe w12 (w1.heap.size + 1) (0) (R2.val) := (Sets.others hC xh6 (by omega))
  have xh7 : Fe w12 (w1.heap.size + 1 + 1) (0) (R3.val) := (Sets.fe' hC xh7)
  have xh8 : Fe w12 (w1.heap.size + 1 + 1 + 1) (0) (0) := (Sets.others hC xh8 (by omega))
  have hS := hS.setsR hC
  clear hC
  refine hK.out _ _ hS ?_
  clear hK K
  intro _
  have hSz := hS.size
  refine wpAnyH_done (by kernel_rfl) ?_ _
  refine NoPanic.normal ?_
  have hsz := hS.size
  have hp0 := xhp0
  have hp1 := xhp1
  have hp2 := xhp2
  have hp3 := xhp3
  have hq0 := xhq0
  have hq1 := xhq1
  have hq2 := xhq2
  have hq3 := xhq3
  have h5 := xh5
  have h6 := xh6
  have h7 := xh7
  have h8 := xh8
  have hBw12 : Hid (Below w.heap.size w w12) := Lib.hid (hBw10.out.trans (hS.below (by omega) hBw10.out.size))
  clear hS
  go_wp2_with fail
  try simp only [Act.put]
  refine wp_named ?_
  intro w14 ew14
  have hs14 : w12.heap.size ≤ w14.heap.size := by rw [ew14]; (try simp only [alloc_size, setRow_size]); omega
  replace hp0 : Fe w14 (pb) (po) (X.val) := by rw [ew14]; exact hp0
  replace hp1 : Fe w14 (pb) (po + 5) (Y.val) := by rw [ew14]; exact hp1
  replace hp2 : Fe w14 (pb) (po + 10) (Z.val) := by rw [ew14]; exact hp2
  replace hp3 : Fe w14 (pb) (po + 15) (T.val) := by rw [ew14]; exact hp3
  replace hq0 : Fe w14 (qb) (qo) (X2.val) := by rw [ew14]; exact hq0
  replace hq1 : Fe w14 (qb) (qo + 5) (Y2.val) := by rw [ew14]; exact hq1
  replace hq2 : Fe w14 (qb) (qo + 10) (Z2.val) := by rw [ew14]; exact hq2
  replace hq3 : Fe w14 (qb) (qo + 15) (T2.val) := by rw [ew14]; exact hq3
  replace h5 : Fe w14 (w1.heap.size) (0) (R1.val) := by rw [ew14]; exact h5
  replace h6 : Fe w14 (w1.heap.size + 1) (0) (R2.val) := by rw [ew14]; exact h6
  replace h7 : Fe w14 (w1.heap.size + 1 + 1) (0) (R3.val) := by rw [ew14]; exact h7
  replace h8 : Fe w14 (w1.heap.size + 1 + 1 + 1) (0) (0) := by rw [ew14]; exact h8
  have hBw14 : Hid (Below w.heap.size w w14) := Lib.hid (by rw [ew14]; exact hBw12.out)
  clear ew14
  obtain ⟨R4, qR4⟩ : ∃ uu : Fp, uu = Y2 * Z := ⟨_, rfl⟩
  have HR4 := Lib.hid qR4; clear qR4
  refine wp_region_noPanic ?_
  refine wp_region_held_drew (S := Keep (w1.heap.size + 1 + 1 + 1) w14) (by kernel_rfl) (Keep.start _ _) ?_
  intro hS
  obtain ⟨w15, ed⟩ : ∃ u : World, u = w14.drew := ⟨_, rfl⟩
  rw [← ed] at hS ⊢
  have xhp0 : Fe w15 (pb) (po) (X.val) := by rw [ed]; exact hp0
  have xhp1 : Fe w15 (pb) (po + 5) (Y.val) := by rw [ed]; exact hp1
  have xhp2 : Fe w15 (pb) (po + 10) (Z.val) := by rw [ed]; exact hp2
  have xhp3 : Fe w15 (pb) (po + 15) (T.val) := by rw [ed]; exact hp3
  have xhq0 : Fe w15 (qb) (qo) (X2.val) := by rw [ed]; exact hq0
  have xhq1 : Fe w15 (qb) (qo + 5) (Y2.val) := by rw [ed]; exact hq1
  have xhq2 : Fe w15 (qb) (qo + 10) (Z2.val) := by rw [ed]; exact hq2
  have xhq3 : Fe w15 (qb) (qo + 15) (T2.val) := by rw [ed]; exact hq3
  have xh5 : Fe w15 (w1.heap.size) (0) (R1.val) := by rw [ed]; exact h5
  have xh6 : Fe w15 (w1.heap.size + 1) (0) (R2.val) := by rw [ed]; exact h6
  have xh7 : Fe w15 (w1.heap.size + 1 + 1) (0) (R3.val) := by rw [ed]; exact h7
  have xh8 : Fe w15 (w1.heap.size + 1 + 1 + 1) (0) (0) := by rw [ed]; exact h8
  clear ed
  have hSz := hS.size
  refine takeAtK (i := 0) (v := .pointer (some ⟨qb, qo, none⟩)) rfl (some 34) rfl (take_run rfl (fun _ _ => by go_simp)) hS ?_
  simp only [Act.put, sia, sc0, scs]
  refine takeAtK (i := 1) (v := .pointer (some ⟨qb, qo, none⟩)) rfl (some 35) rfl (take_run rfl (fun _ _ => by go_simp)) hS ?_
  simp only [Act.put, sia, sc0, scs]
  refine takeAtK (i := 2) (v := .pointer (some ⟨qb, qo + 5, none⟩)) rfl (some 36) rfl (take_run rfl (fun _ _ => by go_simp)) hS ?_
  simp only [Act.put, sia, sc0, scs]
  refine takeAtK (i := 3) (v := .pointer (some ⟨pb, po, none⟩)) rfl (some 37) rfl (take_run rfl (fun _ _ => by go_simp)) hS ?_
  simp only [Act.put, sia, sc0, scs]
  refine takeAtK (i := 4) (v := .pointer (some ⟨pb, po, none⟩)) rfl (some 38) rfl (take_run rfl (fun _ _ => by go_simp)) hS ?_
  simp only [Act.put, sia, sc0, scs]
  refine takeAtK (i := 5) (v := .pointer (some ⟨pb, po + 10, none⟩)) rfl (some 39) rfl (take_run rfl (fun _ _ => by go_simp)) hS ?_
  simp only [Act.put, sia, sc0, scs]
  refine wpAnyH_ready (rs := [6]) (by kernel_rfl) (by simp) ?_
  refine (AllReadyH.cons rfl ?_ AllReadyH.nil)
  intro K hK
  refine ready_call rfl (some 40) rfl 42 #[.pointer (some ⟨w1.heap.size + 1 + 1 + 1, 0, none⟩), .pointer (some ⟨qb, qo + 5, none⟩), .pointer (some ⟨pb, po + 10, none⟩)] (by go_simp) ?_
  refine (mul_ff (w1.heap.size + 1 + 1 + 1) (0) (qb) (qo + 5) (pb) (po + 10) _ _ _ _ xh8 xhq1 xhp2 R4 HR4).mono ?_
  rintro e w16 ⟨rfl, hC⟩
  refine ⟨_, rfl, ?_⟩
  simp only [Act.put, sia, sc0, scs]
  have hz16 := hC.size
  have xhp0 : Fe w16 (pb) (po) (X.val) := (Sets.others hC xhp0 (by omega))
  have xhp1 : Fe w16 (pb) (po + 5) (Y.val) := (Sets.others hC xhp1 (by omega))
  have xhp2 : Fe w16 (pb) (po + 10) (Z.val) := (Sets.others hC xhp2 (by omega))
  have xhp3 : Fe w16 (pb) (po + 15) (T.val) := (Sets.others hC xhp3 (by omega))
  have xhq0 : Fe w16 (qb) (qo) (X2.val) := (Sets.others hC xhq0 (by omega))
  have xhq1 : Fe w16 (qb) (qo + 5) (Y2.val) := (Sets.others hC xhq1 (by omega))
  have xhq2 : Fe w16 (qb) (qo + 10) (Z2.val) := (Sets.others hC xhq2 (by omega))
  have xhq3 : Fe w16 (qb) (qo + 15) (T2.val) := (Sets.others hC xhq3 (by omega))
  have xh5 : Fe w16 (w1.heap.size) (0) (R1.val) := (Sets.others hC xh5 (by omega))
  have xh6 : Fe w16 (w1.heap.size + 1) (0) (R2.val) := (Sets.others hC xh6 (by omega))
  have xh7 : Fe w16 (w1.heap.size + 1 + 1) (0) (R3.val) := (Sets.others hC xh7 (by omega))
  have xh8 : Fe w16 (w1.heap.size + 1 + 1 + 1) (0) (R4.val) := (Sets.fe' hC xh8)
  have hS := hS.setsR hC
  clear hC
  refine hK.out _ _ hS ?_
  clear hK K
  intro _
  have hSz := hS.size
  refine wpAnyH_done (by kernel_rfl) ?_ _
  refine NoPanic.normal ?_
  have hsz := hS.size
  have hp0 := xhp0
  have hp1 := xhp1
  have hp2 := xhp2
  have hp3 := xhp3
  have hq0 := xhq0
  have hq1 := xhq1
  have hq2 := xhq2
  have hq3 := xhq3
  have h5 := xh5
  have h6 := xh6
  have h7 := xh7
  have h8 := xh8
  have hBw16 : Hid (Below w.heap.size w w16) := Lib.hid (hBw14.out.trans (hS.below (by omega) hBw14.out.size))
  clear hS
  obtain ⟨Z1, q1⟩ : ∃ Z : Int, Hid (Z = if R1.val = R2.val then 1 else 0) := ⟨_, rfl⟩
  obtain ⟨Z2', q2⟩ : ∃ Z : Int, Hid (Z = if R3.val = R4.val then 1 else 0) := ⟨_, rfl⟩
  have o1 : bits .and .i64 Z1 Z2' = N := by
    have h := Rp.same hP.1 hQ.1
    rw [q1.out, q2.out, hN.out]
    simp only [← Fin.ext_iff, HR1.out, HR2.out, HR3.out, HR4.out]
    exact zand h
  go_wp2_with fail
  refine (Equal_any (w1.heap.size) 0 (w1.heap.size + 1) 0 _ _ _ h5 h6 Z1 q1).mono ?_
  rintro e w18 ⟨rfl, hC18⟩
  have hs18 : w16.heap.size ≤ w18.heap.size := by have := hC18.size; (try simp only [alloc_size, setRow_size] at this); omega
  replace hp0 : Fe w18 (pb) (po) (X.val) := (Fe.below_all hp0 hC18)
  replace hp1 : Fe w18 (pb) (po + 5) (Y.val) := (Fe.below_all hp1 hC18)
  replace hp2 : Fe w18 (pb) (po + 10) (Z.val) := (Fe.below_all hp2 hC18)
  replace hp3 : Fe w18 (pb) (po + 15) (T.val) := (Fe.below_all hp3 hC18)
  replace hq0 : Fe w18 (qb) (qo) (X2.val) := (Fe.below_all hq0 hC18)
  replace hq1 : Fe w18 (qb) (qo + 5) (Y2.val) := (Fe.below_all hq1 hC18)
  replace hq2 : Fe w18 (qb) (qo + 10) (Z2.val) := (Fe.below_all hq2 hC18)
  replace hq3 : Fe w18 (qb) (qo + 15) (T2.val) := (Fe.below_all hq3 hC18)
  replace h5 : Fe w18 (w1.heap.size) (0) (R1.val) := (Fe.below_all h5 hC18)
  replace h6 : Fe w18 (w1.heap.size + 1) (0) (R2.val) := (Fe.below_all h6 hC18)
  replace h7 : Fe w18 (w1.heap.size + 1 + 1) (0) (R3.val) := (Fe.below_all h7 hC18)
  replace h8 : Fe w18 (w1.heap.size + 1 + 1 + 1) (0) (R4.val) := (Fe.below_all h8 hC18)
  have hBw18 : Hid (Below w.heap.size w w18) := Lib.hid (below_call hBw16.out hC18)
  clear hC18
  go_wp2_with fail
  refine (Equal_any (w1.heap.size + 1 + 1) 0 (w1.heap.size + 1 + 1 + 1) 0 _ _ _ h7 h8 Z2' q2).mono ?_
  rintro e w19 ⟨rfl, hC19⟩
  have hs19 : w18.heap.size ≤ w19.heap.size := by have := hC19.size; (try simp only [alloc_size, setRow_size] at this); omega
  replace hp0 : Fe w19 (pb) (po) (X.val) := (Fe.below_all hp0 hC19)
  replace hp1 : Fe w19 (pb) (po + 5) (Y.val) := (Fe.below_all hp1 hC19)
  replace hp2 : Fe w19 (pb) (po + 10) (Z.val) := (Fe.below_all hp2 hC19)
  replace hp3 : Fe w19 (pb) (po + 15) (T.val) := (Fe.below_all hp3 hC19)
  replace hq0 : Fe w19 (qb) (qo) (X2.val) := (Fe.below_all hq0 hC19)
  replace hq1 : Fe w19 (qb) (qo + 5) (Y2.val) := (Fe.below_all hq1 hC19)
  replace hq2 : Fe w19 (qb) (qo + 10) (Z2.val) := (Fe.below_all hq2 hC19)
  replace hq3 : Fe w19 (qb) (qo + 15) (T2.val) := (Fe.below_all hq3 hC19)
  replace h5 : Fe w19 (w1.heap.size) (0) (R1.val) := (Fe.below_all h5 hC19)
  replace h6 : Fe w19 (w1.heap.size + 1) (0) (R2.val) := (Fe.below_all h6 hC19)
  replace h7 : Fe w19 (w1.heap.size + 1 + 1) (0) (R3.val) := (Fe.below_all h7 hC19)
  replace h8 : Fe w19 (w1.heap.size + 1 + 1 + 1) (0) (R4.val) := (Fe.below_all h8 hC19)
  have hBw19 : Hid (Below w.heap.size w w19) := Lib.hid (below_call hBw18.out hC19)
  clear hC19
  go_wp2
  go_ret
  exact ⟨rfl, hBw19.out⟩
end

section
open Go.RowKit
set_option maxHeartbeats 4000000 in
theorem iEqual_ss (N M : Nat) (P Q : CP) (E : Int) (HZE : Hid (E = if P = Q then 1 else 0)) (lN : N < 256 ^ 32) (hN : Hid (decP N = some P)) (lM : M < 256 ^ 32) (hM : Hid (decP M = some Q)) (B : Nat) (w : World) (hD0 : Var 1 z5 B w) (hD1 : Var 0 i5 B w) (hD2 : Var 2 o5 B w) :
    Calls Tryd.prog 11 #[.agg (arrC N), .agg (arrC M)] w fun e w' => e = .returned (.tuple #[.int .i64 E, .bool true]) ∧ Below w.heap.size w w' := by
  have hBl := hD0.1
  go_enter Tryd.func11, Tryd.ntmps11
  go_wp2_with (first
    | ((with_reducible refine at_dst 11 ?_); refine wpList_load_row rfl 22 _ rfl (w.heap.size) rfl 22 (arrC N) (0, 0) _ (heap_old _ (heap_new_at _ _ _ rfl)) under32 rfl (info32_of (arrC N) (arrC_size _)) ?_))
  refine (pointOf_some N P lN hN B _ (hD0.later (below_alloc (below_alloc (Below.refl _ w) _) _)) (hD1.later (below_alloc (below_alloc (Below.refl _ w) _) _)) (hD2.later (below_alloc (below_alloc (Below.refl _ w) _) _))).mono ?_
  rintro e w1 ⟨b1_1, x1_1_0, x1_1_1, x1_1_2, x1_1_3, rfl, hlb1_1, hC1, hq1_1, xhf1_1_0, xhf1_1_1, xhf1_1_2, xhf1_1_3⟩
  have hs1 : w.heap.size + 1 + 1 ≤ w1.heap.size := by have := hC1.size; (try simp only [alloc_size, setRow_size] at this); omega
  replace h2 : w1.heap[w.heap.size]? = some (.cells (arrC N) 22 (0, 0)) := (heap_call hC1 (heap_old _ (heap_new_at _ _ _ rfl)))
  replace h3 : w1.heap[w.heap.size + 1]? = some (.cells (arrC M) 22 (0, 0)) := (heap_call hC1 (heap_new_at _ _ _ (by simp only [alloc_size, setRow_size])))
  have hBw1 : Hid (Below w.heap.size w w1) := Lib.hid (below_call (below_alloc (below_alloc (Below.refl _ w) _) _) hC1)
  clear hC1
  have hlb1_1 : w.heap.size + 1 + 1 ≤ b1_1 := by (try simp only [alloc_size, setRow_size] at hlb1_1); omega
  have hub1_1 := xhf1_1_0.lt
  go_wp2_with (first
    | ((with_reducible refine at_dst 16 ?_); refine wpList_load_row rfl 22 _ rfl (w.heap.size + 1) rfl 22 (arrC M) (0, 0) _ h3 under32 rfl (info32_of (arrC M) (arrC_size _)) ?_))
  refine (pointOf_some M Q lM hM B _ (hD0.later hBw1.out) (hD1.later hBw1.out) (hD2.later hBw1.out)).mono ?_
  rintro e w2 ⟨b2_1, x2_1_0, x2_1_1, x2_1_2, x2_1_3, rfl, hlb2_1, hC2, hq2_1, xhf2_1_0, xhf2_1_1, xhf2_1_2, xhf2_1_3⟩
  have hs2 : w1.heap.size ≤ w2.heap.size := by have := hC2.size; (try simp only [alloc_size, setRow_size] at this); omega
  replace h2 : w2.heap[w.heap.size]? = some (.cells (arrC N) 22 (0, 0)) := (heap_call hC2 h2)
  replace h3 : w2.heap[w.heap.size + 1]? = some (.cells (arrC M) 22 (0, 0)) := (heap_call hC2 h3)
  replace hf1_1_0 : Fe w2 (b1_1) (0) (x1_1_0.val) := (Fe.below_all xhf1_1_0 hC2)
  replace hf1_1_1 : Fe w2 (b1_1) (5) (x1_1_1.val) := (Fe.below_all xhf1_1_1 hC2)
  replace hf1_1_2 : Fe w2 (b1_1) (10) (x1_1_2.val) := (Fe.below_all xhf1_1_2 hC2)
  replace hf1_1_3 : Fe w2 (b1_1) (15) (x1_1_3.val) := (Fe.below_all xhf1_1_3 hC2)
  have hBw2 : Hid (Below w.heap.size w w2) := Lib.hid (below_call hBw1.out hC2)
  clear hC2
  have hlb2_1 : w1.heap.size ≤ b2_1 := by (try simp only [alloc_size, setRow_size] at hlb2_1); omega
  have hub2_1 := xhf2_1_0.lt
  go_wp2_with fail
  refine (pt_equal (b1_1) (0) (b2_1) (0) x1_1_0 x1_1_1 x1_1_2 x1_1_3 x2_1_0 x2_1_1 x2_1_2 x2_1_3 P Q hq1_1 hq2_1 E HZE _ hf1_1_0 hf1_1_1 hf1_1_2 hf1_1_3 xhf2_1_0 xhf2_1_1 xhf2_1_2 xhf2_1_3).mono ?_
  rintro e w3 ⟨rfl, hC3⟩
  have hs3 : w2.heap.size ≤ w3.heap.size := by have := hC3.size; (try simp only [alloc_size, setRow_size] at this); omega
  replace h2 : w3.heap[w.heap.size]? = some (.cells (arrC N) 22 (0, 0)) := (heap_call hC3 h2)
  replace h3 : w3.heap[w.heap.size + 1]? = some (.cells (arrC M) 22 (0, 0)) := (heap_call hC3 h3)
  replace hf1_1_0 : Fe w3 (b1_1) (0) (x1_1_0.val) := (Fe.below_all hf1_1_0 hC3)
  replace hf1_1_1 : Fe w3 (b1_1) (5) (x1_1_1.val) := (Fe.below_all hf1_1_1 hC3)
  replace hf1_1_2 : Fe w3 (b1_1) (10) (x1_1_2.val) := (Fe.below_all hf1_1_2 hC3)
  replace hf1_1_3 : Fe w3 (b1_1) (15) (x1_1_3.val) := (Fe.below_all hf1_1_3 hC3)
  replace hf2_1_0 : Fe w3 (b2_1) (0) (x2_1_0.val) := (Fe.below_all xhf2_1_0 hC3)
  replace hf2_1_1 : Fe w3 (b2_1) (5) (x2_1_1.val) := (Fe.below_all xhf2_1_1 hC3)
  replace hf2_1_2 : Fe w3 (b2_1) (10) (x2_1_2.val) := (Fe.below_all xhf2_1_2 hC3)
  replace hf2_1_3 : Fe w3 (b2_1) (15) (x2_1_3.val) := (Fe.below_all xhf2_1_3 hC3)
  have hBw3 : Hid (Below w.heap.size w w3) := Lib.hid (below_call hBw2.out hC3)
  clear hC3
  go_wp2
  go_ret2
  exact ⟨rfl, hBw3.out⟩
set_option maxHeartbeats 4000000 in
theorem iEqual_sn (N M : Nat) (P : CP) (lN : N < 256 ^ 32) (hN : Hid (decP N = some P)) (lM : M < 256 ^ 32) (hM : Hid (decP M = none)) (B : Nat) (w : World) (hD0 : Var 1 z5 B w) (hD1 : Var 0 i5 B w) (hD2 : Var 2 o5 B w) :
    Calls Tryd.prog 11 #[.agg (arrC N), .agg (arrC M)] w fun e w' => e = .returned (.tuple #[.int .i64 0, .bool false]) ∧ Below w.heap.size w w' := by
  have hBl := hD0.1
  go_enter Tryd.func11, Tryd.ntmps11
  go_wp2_with (first
    | ((with_reducible refine at_dst 11 ?_); refine wpList_load_row rfl 22 _ rfl (w.heap.size) rfl 22 (arrC N) (0, 0) _ (heap_old _ (heap_new_at _ _ _ rfl)) under32 rfl (info32_of (arrC N) (arrC_size _)) ?_))
  refine (pointOf_some N P lN hN B _ (hD0.later (below_alloc (below_alloc (Below.refl _ w) _) _)) (hD1.later (below_alloc (below_alloc (Below.refl _ w) _) _)) (hD2.later (below_alloc (below_alloc (Below.refl _ w) _) _))).mono ?_
  rintro e w1 ⟨b1_1, x1_1_0, x1_1_1, x1_1_2, x1_1_3, rfl, hlb1_1, hC1, hq1_1, xhf1_1_0, xhf1_1_1, xhf1_1_2, xhf1_1_3⟩
  have hs1 : w.heap.size + 1 + 1 ≤ w1.heap.size := by have := hC1.size; (try simp only [alloc_size, setRow_size] at this); omega
  replace h2 : w1.heap[w.heap.size]? = some (.cells (arrC N) 22 (0, 0)) := (heap_call hC1 (heap_old _ (heap_new_at _ _ _ rfl)))
  replace h3 : w1.heap[w.heap.size + 1]? = some (.cells (arrC M) 22 (0, 0)) := (heap_call hC1 (heap_new_at _ _ _ (by simp only [alloc_size, setRow_size])))
  have hBw1 : Hid (Below w.heap.size w w1) := Lib.hid (below_call (below_alloc (below_alloc (Below.refl _ w) _) _) hC1)
  clear hC1
  have hlb1_1 : w.heap.size + 1 + 1 ≤ b1_1 := by (try simp only [alloc_size, setRow_size] at hlb1_1); omega
  have hub1_1 := xhf1_1_0.lt
  go_wp2_with (first
    | ((with_reducible refine at_dst 16 ?_); refine wpList_load_row rfl 22 _ rfl (w.heap.size + 1) rfl 22 (arrC M) (0, 0) _ h3 under32 rfl (info32_of (arrC M) (arrC_size _)) ?_))
  refine (pointOf_none M hM B _ (hD0.later hBw1.out) (hD1.later hBw1.out) (hD2.later hBw1.out)).mono ?_
  rintro e w2 ⟨rfl, hC2⟩
  have hs2 : w1.heap.size ≤ w2.heap.size := by have := hC2.size; (try simp only [alloc_size, setRow_size] at this); omega
  replace h2 : w2.heap[w.heap.size]? = some (.cells (arrC N) 22 (0, 0)) := (heap_call hC2 h2)
  replace h3 : w2.heap[w.heap.size + 1]? = some (.cells (arrC M) 22 (0, 0)) := (heap_call hC2 h3)
  replace hf1_1_0 : Fe w2 (b1_1) (0) (x1_1_0.val) := (Fe.below_all xhf1_1_0 hC2)
  replace hf1_1_1 : Fe w2 (b1_1) (5) (x1_1_1.val) := (Fe.below_all xhf1_1_1 hC2)
  replace hf1_1_2 : Fe w2 (b1_1) (10) (x1_1_2.val) := (Fe.below_all xhf1_1_2 hC2)
  replace hf1_1_3 : Fe w2 (b1_1) (15) (x1_1_3.val) := (Fe.below_all xhf1_1_3 hC2)
  have hBw2 : Hid (Below w.heap.size w w2) := Lib.hid (below_call hBw1.out hC2)
  clear hC2
  go_wp2
  go_ret2
  exact ⟨rfl, hBw2.out⟩
end

section
open Go.RowKit
set_option maxHeartbeats 4000000 in
theorem ssame_true (P Q : CP) (X Y Z X2 Y2 Z2 : Fp) (rA : Rp P X Y Z) (rB : Rp Q X2 Y2 Z2) (heq : P = Q) (w : World) :
    Calls Tryd.prog 29 #[.agg (ptC X.val Y.val Z.val), .agg (ptC X2.val Y2.val Z2.val)] w fun e w' => e = .returned (.bool true) ∧ Below w.heap.size w w' := by
  go_enter Tryd.func29, Tryd.ntmps29
  obtain ⟨R1, qR1⟩ : ∃ uu : Fp, uu = X * Z2 := ⟨_, rfl⟩
  have HR1 := Lib.hid qR1; clear qR1
  obtain ⟨R2, qR2⟩ : ∃ uu : Fp, uu = X2 * Z := ⟨_, rfl⟩
  have HR2 := Lib.hid qR2; clear qR2
  obtain ⟨R3, qR3⟩ : ∃ uu : Fp, uu = Y * Z2 := ⟨_, rfl⟩
  have HR3 := Lib.hid qR3; clear qR3
  obtain ⟨R4, qR4⟩ : ∃ uu : Fp, uu = Y2 * Z := ⟨_, rfl⟩
  have HR4 := Lib.hid qR4; clear qR4
  have ex : Hid (R1.val = R2.val) := Lib.hid (congrArg Fin.val (by rw [HR1.out, HR2.out]; exact ((Rp.same rA rB).2 heq).1))
  have ey : Hid (R3.val = R4.val) := Lib.hid (congrArg Fin.val (by rw [HR3.out, HR4.out]; exact ((Rp.same rA rB).2 heq).2))
  go_wp2_with fail
  try simp only [Act.put]
  refine wp_named ?_
  intro w1 ew1
  have hs1 : w.heap.size + 1 + 1 ≤ w1.heap.size := by rw [ew1]; (try simp only [alloc_size, setRow_size]); omega
  replace h2 : w1.heap[w.heap.size]? = some (.cells (ptC (X.val) (Y.val) (Z.val)) 45 (0, 0)) := by rw [ew1]; exact (heap_old _ (heap_new_at _ _ _ rfl))
  replace h3 : w1.heap[w.heap.size + 1]? = some (.cells (ptC (X2.val) (Y2.val) (Z2.val)) 45 (0, 0)) := by rw [ew1]; exact (heap_new_at _ _ _ (by simp only [alloc_size, setRow_size]))
  have hBw1 : Hid (Below w.heap.size w w1) := Lib.hid (by rw [ew1]; exact (below_alloc (below_alloc (Below.refl _ w) _) _))
  clear ew1
  refine wp_region_noPanic ?_
  refine wp_region_held_drew (S := Keep (w1.heap.size) w1) (by kernel_rfl) (Keep.start _ _) ?_
  intro hS
  obtain ⟨w2, ed⟩ : ∃ u : World, u = w1.drew := ⟨_, rfl⟩
  rw [← ed] at hS ⊢
  have xh2 : w2.heap[w.heap.size]? = some (.cells (ptC (X.val) (Y.val) (Z.val)) 45 (0, 0)) := by rw [ed]; exact h2
  have xh3 : w2.heap[w.heap.size + 1]? = some (.cells (ptC (X2.val) (Y2.val) (Z2.val)) 45 (0, 0)) := by rw [ed]; exact h3
  clear ed
  have hSz := hS.size
  clear xh2
  clear xh3
  refine takeAtK (i := 0) (v := .pointer (some ⟨w.heap.size, 0, none⟩)) rfl (some 5) rfl (take_run rfl (fun _ _ => by go_simp)) hS ?_
  simp only [Act.put, sia, sc0, scs]
  refine takeAtK (i := 1) (v := .agg (numC X.val)) rfl (some 6) rfl (take_part rfl _ _ rfl (w.heap.size) 0 rfl _ _ _ h2 (Nat.ne_of_lt (heap_lt h2)) (numC (X.val)) (part_x _ _ _) underNum rfl (infoNum_of _ (numC_size _))) hS ?_
  simp only [Act.put, sia, sc0, scs]
  refine takeAtK (i := 2) (v := .pointer (some ⟨w.heap.size + 1, 8, none⟩)) rfl (some 7) rfl (take_run rfl (fun _ _ => by go_simp)) hS ?_
  simp only [Act.put, sia, sc0, scs]
  refine takeAtK (i := 3) (v := .agg (numC Z2.val)) rfl (some 8) rfl (take_part rfl _ _ rfl (w.heap.size + 1) 8 rfl _ _ _ h3 (Nat.ne_of_lt (heap_lt h3)) (numC (Z2.val)) (part_z _ _ _) underNum rfl (infoNum_of _ (numC_size _))) hS ?_
  simp only [Act.put, sia, sc0, scs]
  refine takeAtK (i := 6) (v := .pointer (some ⟨w.heap.size + 1, 0, none⟩)) rfl (some 11) rfl (take_run rfl (fun _ _ => by go_simp)) hS ?_
  simp only [Act.put, sia, sc0, scs]
  refine takeAtK (i := 7) (v := .agg (numC X2.val)) rfl (some 12) rfl (take_part rfl _ _ rfl (w.heap.size + 1) 0 rfl _ _ _ h3 (Nat.ne_of_lt (heap_lt h3)) (numC (X2.val)) (part_x _ _ _) underNum rfl (infoNum_of _ (numC_size _))) hS ?_
  simp only [Act.put, sia, sc0, scs]
  refine takeAtK (i := 8) (v := .pointer (some ⟨w.heap.size, 8, none⟩)) rfl (some 13) rfl (take_run rfl (fun _ _ => by go_simp)) hS ?_
  simp only [Act.put, sia, sc0, scs]
  refine takeAtK (i := 9) (v := .agg (numC Z.val)) rfl (some 14) rfl (take_part rfl _ _ rfl (w.heap.size) 8 rfl _ _ _ h2 (Nat.ne_of_lt (heap_lt h2)) (numC (Z.val)) (part_z _ _ _) underNum rfl (infoNum_of _ (numC_size _))) hS ?_
  simp only [Act.put, sia, sc0, scs]
  refine wpAnyH_ready (rs := [4]) (by kernel_rfl) (by simp) ?_
  refine (AllReadyH.cons rfl ?_ AllReadyH.nil)
  intro K hK
  refine ready_call rfl (some 9) rfl 46 #[] (by go_simp) ?_
  refine (prime_any _).mono ?_
  rintro e w3 ⟨rfl, hC⟩
  refine ⟨_, rfl, ?_⟩
  simp only [Act.put, sia, sc0, scs]
  have hS := hS.call hC
  have hz3 := hC.size
  clear hC
  refine hK.out _ _ hS ?_
  clear hK K
  intro _
  have hSz := hS.size
  refine wpAnyH_ready (rs := [5]) (by kernel_rfl) (by simp) ?_
  refine (AllReadyH.cons rfl ?_ AllReadyH.nil)
  intro K hK
  refine ready_call rfl (some 10) rfl 45 #[.agg (numC X.val), .agg (numC Z2.val), .agg (numC pF)] (by go_simp) ?_
  refine (stimes_ff X Z2 R1 HR1 _).mono ?_
  rintro e w4 ⟨rfl, hC⟩
  refine ⟨_, rfl, ?_⟩
  simp only [Act.put, sia, sc0, scs]
  have hS := hS.call hC
  have hz4 := hC.size
  clear hC
  refine hK.out _ _ hS ?_
  clear hK K
  intro _
  have hSz := hS.size
  refine wpAnyH_ready (rs := [10]) (by kernel_rfl) (by simp) ?_
  refine (AllReadyH.cons rfl ?_ AllReadyH.nil)
  intro K hK
  refine ready_call rfl (some 15) rfl 46 #[] (by go_simp) ?_
  refine (prime_any _).mono ?_
  rintro e w5 ⟨rfl, hC⟩
  refine ⟨_, rfl, ?_⟩
  simp only [Act.put, sia, sc0, scs]
  have hS := hS.call hC
  have hz5 := hC.size
  clear hC
  refine hK.out _ _ hS ?_
  clear hK K
  intro _
  have hSz := hS.size
  refine wpAnyH_ready (rs := [11]) (by kernel_rfl) (by simp) ?_
  refine (AllReadyH.cons rfl ?_ AllReadyH.nil)
  intro K hK
  refine ready_call rfl (some 16) rfl 45 #[.agg (numC X2.val), .agg (numC Z.val), .agg (numC pF)] (by go_simp) ?_
  refine (stimes_ff X2 Z R2 HR2 _).mono ?_
  rintro e w6 ⟨rfl, hC⟩
  refine ⟨_, rfl, ?_⟩
  simp only [Act.put, sia, sc0, scs]
  have hS := hS.call hC
  have hz6 := hC.size
  clear hC
  refine hK.out _ _ hS ?_
  clear hK K
  intro _
  have hSz := hS.size
  refine takeAtK (i := 12) (v := .bool true) rfl (some 17) rfl (take_run rfl (fun _ _ => by go_simp; rw [run_eq_num _ _ (Nat.lt_trans R1.isLt (by unfold pF; omega)) (Nat.lt_trans R2.isLt (by unfold pF; omega))]; simp [ex.out])) hS ?_
  simp only [Act.put, sia, sc0, scs]
  refine takeAtK (i := 13) (v := .bool true) rfl (some 18) rfl (take_run rfl (fun _ _ => by go_simp)) hS ?_
  simp only [Act.put, sia, sc0, scs]
  refine takeAtK (i := 14) (v := .pointer (some ⟨w.heap.size, 4, none⟩)) rfl (some 19) rfl (take_run rfl (fun _ _ => by go_simp)) hS ?_
  simp only [Act.put, sia, sc0, scs]
  refine takeAtK (i := 15) (v := .agg (numC Y.val)) rfl (some 20) rfl (take_part rfl _ _ rfl (w.heap.size) 4 rfl _ _ _ h2 (Nat.ne_of_lt (heap_lt h2)) (numC (Y.val)) (part_y _ _ _) underNum rfl (infoNum_of _ (numC_size _))) hS ?_
  simp only [Act.put, sia, sc0, scs]
  refine takeAtK (i := 16) (v := .pointer (some ⟨w.heap.size + 1, 8, none⟩)) rfl (some 21) rfl (take_run rfl (fun _ _ => by go_simp)) hS ?_
  simp only [Act.put, sia, sc0, scs]
  refine takeAtK (i := 17) (v := .agg (numC Z2.val)) rfl (some 22) rfl (take_part rfl _ _ rfl (w.heap.size + 1) 8 rfl _ _ _ h3 (Nat.ne_of_lt (heap_lt h3)) (numC (Z2.val)) (part_z _ _ _) underNum rfl (infoNum_of _ (numC_size _))) hS ?_
  simp only [Act.put, sia, sc0, scs]
  refine takeAtK (i := 20) (v := .pointer (some ⟨w.heap.size + 1, 4, none⟩)) rfl (some 25) rfl (take_run rfl (fun _ _ => by go_simp)) hS ?_
  simp only [Act.put, sia, sc0, scs]
  refine takeAtK (i := 21) (v := .agg (numC Y2.val)) rfl (some 26) rfl (take_part rfl _ _ rfl (w.heap.size + 1) 4 rfl _ _ _ h3 (Nat.ne_of_lt (heap_lt h3)) (numC (Y2.val)) (part_y _ _ _) underNum rfl (infoNum_of _ (numC_size _))) hS ?_
  simp only [Act.put, sia, sc0, scs]
  refine takeAtK (i := 22) (v := .pointer (some ⟨w.heap.size, 8, none⟩)) rfl (some 27) rfl (take_run rfl (fun _ _ => by go_simp)) hS ?_
  simp only [Act.put, sia, sc0, scs]
  refine takeAtK (i := 23) (v := .agg (numC Z.val)) rfl (some 28) rfl (take_part rfl _ _ rfl (w.heap.size) 8 rfl _ _ _ h2 (Nat.ne_of_lt (heap_lt h2)) (numC (Z.val)) (part_z _ _ _) underNum rfl (infoNum_of _ (numC_size _))) hS ?_
  simp only [Act.put, sia, sc0, scs]
  refine wpAnyH_ready (rs := [18]) (by kernel_rfl) (by simp) ?_
  refine (AllReadyH.cons rfl ?_ AllReadyH.nil)
  intro K hK
  refine ready_call rfl (some 23) rfl 46 #[] (by go_simp) ?_
  refine (prime_any _).mono ?_
  rintro e w7 ⟨rfl, hC⟩
  refine ⟨_, rfl, ?_⟩
  simp only [Act.put, sia, sc0, scs]
  have hS := hS.call hC
  have hz7 := hC.size
  clear hC
  refine hK.out _ _ hS ?_
  clear hK K
  intro _
  have hSz := hS.size
  refine wpAnyH_ready (rs := [19]) (by kernel_rfl) (by simp) ?_
  refine (AllReadyH.cons rfl ?_ AllReadyH.nil)
  intro K hK
  refine ready_call rfl (some 24) rfl 45 #[.agg (numC Y.val), .agg (numC Z2.val), .agg (numC pF)] (by go_simp) ?_
  refine (stimes_ff Y Z2 R3 HR3 _).mono ?_
  rintro e w8 ⟨rfl, hC⟩
  refine ⟨_, rfl, ?_⟩
  simp only [Act.put, sia, sc0, scs]
  have hS := hS.call hC
  have hz8 := hC.size
  clear hC
  refine hK.out _ _ hS ?_
  clear hK K
  intro _
  have hSz := hS.size
  refine wpAnyH_ready (rs := [24]) (by kernel_rfl) (by simp) ?_
  refine (AllReadyH.cons rfl ?_ AllReadyH.nil)
  intro K hK
  refine ready_call rfl (some 29) rfl 46 #[] (by go_simp) ?_
  refine (prime_any _).mono ?_
  rintro e w9 ⟨rfl, hC⟩
  refine ⟨_, rfl, ?_⟩
  simp only [Act.put, sia, sc0, scs]
  have hS := hS.call hC
  have hz9 := hC.size
  clear hC
  refine hK.out _ _ hS ?_
  clear hK K
  intro _
  have hSz := hS.size
  refine wpAnyH_ready (rs := [25]) (by kernel_rfl) (by simp) ?_
  refine (AllReadyH.cons rfl ?_ AllReadyH.nil)
  intro K hK
  refine ready_call rfl (some 30) rfl 45 #[.agg (numC Y2.val), .agg (numC Z.val), .agg (numC pF)] (by go_simp) ?_
  refine (stimes_ff Y2 Z R4 HR4 _).mono ?_
  rintro e w10 ⟨rfl, hC⟩
  refine ⟨_, rfl, ?_⟩
  simp only [Act.put, sia, sc0, scs]
  have hS := hS.call hC
  have hz10 := hC.size
  clear hC
  refine hK.out _ _ hS ?_
  clear hK K
  intro _
  have hSz := hS.size
  refine takeAtK (i := 26) (v := .bool true) rfl (some 31) rfl (take_run rfl (fun _ _ => by go_simp; rw [run_eq_num _ _ (Nat.lt_trans R3.isLt (by unfold pF; omega)) (Nat.lt_trans R4.isLt (by unfold pF; omega))]; simp [ey.out])) hS ?_
  simp only [Act.put, sia, sc0, scs]
  refine takeAtK (i := 27) (v := .bool true) rfl (some 32) rfl (take_run rfl (fun _ _ => by go_simp)) hS ?_
  simp only [Act.put, sia, sc0, scs]
  refine takeAtK (i := 28) (v := .bool true) rfl (some 4) rfl (take_run rfl (fun _ _ => by go_simp)) hS ?_
  simp only [Act.put, sia, sc0, scs]
  refine wpAnyH_done (by kernel_rfl) ?_ _
  refine NoPanic.normal ?_
  have hsz := hS.size
  have h2 : w10.heap[w.heap.size]? = some (.cells (ptC (X.val) (Y.val) (Z.val)) 45 (0, 0)) := hS.old h2 (Nat.ne_of_lt (heap_lt h2))
  have h3 : w10.heap[w.heap.size + 1]? = some (.cells (ptC (X2.val) (Y2.val) (Z2.val)) 45 (0, 0)) := hS.old h3 (Nat.ne_of_lt (heap_lt h3))
  have hBw10 : Hid (Below w.heap.size w w10) := Lib.hid (hBw1.out.trans (hS.below (by omega) hBw1.out.size))
  clear hS
  go_wp2
  go_ret
  exact ⟨rfl, hBw10.out⟩
set_option maxHeartbeats 4000000 in
theorem ssame_fx (P Q : CP) (X Y Z X2 Y2 Z2 : Fp) (rA : Rp P X Y Z) (rB : Rp Q X2 Y2 Z2) (hx : Hid (¬ X * Z2 = X2 * Z)) (w : World) :
    Calls Tryd.prog 29 #[.agg (ptC X.val Y.val Z.val), .agg (ptC X2.val Y2.val Z2.val)] w fun e w' => e = .returned (.bool false) ∧ Below w.heap.size w w' := by
  go_enter Tryd.func29, Tryd.ntmps29
  obtain ⟨R1, qR1⟩ : ∃ uu : Fp, uu = X * Z2 := ⟨_, rfl⟩
  have HR1 := Lib.hid qR1; clear qR1
  obtain ⟨R2, qR2⟩ : ∃ uu : Fp, uu = X2 * Z := ⟨_, rfl⟩
  have HR2 := Lib.hid qR2; clear qR2
  have ex : Hid (¬ R1.val = R2.val) := Lib.hid (fun h => hx.out (by have := Fin.ext h; rwa [HR1.out, HR2.out] at this))
  go_wp2_with fail
  try simp only [Act.put]
  refine wp_named ?_
  intro w1 ew1
  have hs1 : w.heap.size + 1 + 1 ≤ w1.heap.size := by rw [ew1]; (try simp only [alloc_size, setRow_size]); omega
  replace h2 : w1.heap[w.heap.size]? = some (.cells (ptC (X.val) (Y.val) (Z.val)) 45 (0, 0)) := by rw [ew1]; exact (heap_old _ (heap_new_at _ _ _ rfl))
  replace h3 : w1.heap[w.heap.size + 1]? = some (.cells (ptC (X2.val) (Y2.val) (Z2.val)) 45 (0, 0)) := by rw [ew1]; exact (heap_new_at _ _ _ (by simp only [alloc_size, setRow_size]))
  have hBw1 : Hid (Below w.heap.size w w1) := Lib.hid (by rw [ew1]; exact (below_alloc (below_alloc (Below.refl _ w) _) _))
  clear ew1
  refine wp_region_noPanic ?_
  refine wp_region_held_drew (S := Keep (w1.heap.size) w1) (by kernel_rfl) (Keep.start _ _) ?_
  intro hS
  obtain ⟨w2, ed⟩ : ∃ u : World, u = w1.drew := ⟨_, rfl⟩
  rw [← ed] at hS ⊢
  have xh2 : w2.heap[w.heap.size]? = some (.cells (ptC (X.val) (Y.val) (Z.val)) 45 (0, 0)) := by rw [ed]; exact h2
  have xh3 : w2.heap[w.heap.size + 1]? = some (.cells (ptC (X2.val) (Y2.val) (Z2.val)) 45 (0, 0)) := by rw [ed]; exact h3
  clear ed
  have hSz := hS.size
  clear xh2
  clear xh3
  refine takeAtK (i := 0) (v := .pointer (some ⟨w.heap.size, 0, none⟩)) rfl (some 5) rfl (take_run rfl (fun _ _ => by go_simp)) hS ?_
  simp only [Act.put, sia, sc0, scs]
  refine takeAtK (i := 1) (v := .agg (numC X.val)) rfl (some 6) rfl (take_part rfl _ _ rfl (w.heap.size) 0 rfl _ _ _ h2 (Nat.ne_of_lt (heap_lt h2)) (numC (X.val)) (part_x _ _ _) underNum rfl (infoNum_of _ (numC_size _))) hS ?_
  simp only [Act.put, sia, sc0, scs]
  refine takeAtK (i := 2) (v := .pointer (some ⟨w.heap.size + 1, 8, none⟩)) rfl (some 7) rfl (take_run rfl (fun _ _ => by go_simp)) hS ?_
  simp only [Act.put, sia, sc0, scs]
  refine takeAtK (i := 3) (v := .agg (numC Z2.val)) rfl (some 8) rfl (take_part rfl _ _ rfl (w.heap.size + 1) 8 rfl _ _ _ h3 (Nat.ne_of_lt (heap_lt h3)) (numC (Z2.val)) (part_z _ _ _) underNum rfl (infoNum_of _ (numC_size _))) hS ?_
  simp only [Act.put, sia, sc0, scs]
  refine takeAtK (i := 6) (v := .pointer (some ⟨w.heap.size + 1, 0, none⟩)) rfl (some 11) rfl (take_run rfl (fun _ _ => by go_simp)) hS ?_
  simp only [Act.put, sia, sc0, scs]
  refine takeAtK (i := 7) (v := .agg (numC X2.val)) rfl (some 12) rfl (take_part rfl _ _ rfl (w.heap.size + 1) 0 rfl _ _ _ h3 (Nat.ne_of_lt (heap_lt h3)) (numC (X2.val)) (part_x _ _ _) underNum rfl (infoNum_of _ (numC_size _))) hS ?_
  simp only [Act.put, sia, sc0, scs]
  refine takeAtK (i := 8) (v := .pointer (some ⟨w.heap.size, 8, none⟩)) rfl (some 13) rfl (take_run rfl (fun _ _ => by go_simp)) hS ?_
  simp only [Act.put, sia, sc0, scs]
  refine takeAtK (i := 9) (v := .agg (numC Z.val)) rfl (some 14) rfl (take_part rfl _ _ rfl (w.heap.size) 8 rfl _ _ _ h2 (Nat.ne_of_lt (heap_lt h2)) (numC (Z.val)) (part_z _ _ _) underNum rfl (infoNum_of _ (numC_size _))) hS ?_
  simp only [Act.put, sia, sc0, scs]
  refine wpAnyH_ready (rs := [4]) (by kernel_rfl) (by simp) ?_
  refine (AllReadyH.cons rfl ?_ AllReadyH.nil)
  intro K hK
  refine ready_call rfl (some 9) rfl 46 #[] (by go_simp) ?_
  refine (prime_any _).mono ?_
  rintro e w3 ⟨rfl, hC⟩
  refine ⟨_, rfl, ?_⟩
  simp only [Act.put, sia, sc0, scs]
  have hS := hS.call hC
  have hz3 := hC.size
  clear hC
  refine hK.out _ _ hS ?_
  clear hK K
  intro _
  have hSz := hS.size
  refine wpAnyH_ready (rs := [5]) (by kernel_rfl) (by simp) ?_
  refine (AllReadyH.cons rfl ?_ AllReadyH.nil)
  intro K hK
  refine ready_call rfl (some 10) rfl 45 #[.agg (numC X.val), .agg (numC Z2.val), .agg (numC pF)] (by go_simp) ?_
  refine (stimes_ff X Z2 R1 HR1 _).mono ?_
  rintro e w4 ⟨rfl, hC⟩
  refine ⟨_, rfl, ?_⟩
  simp only [Act.put, sia, sc0, scs]
  have hS := hS.call hC
  have hz4 := hC.size
  clear hC
  refine hK.out _ _ hS ?_
  clear hK K
  intro _
  have hSz := hS.size
  refine wpAnyH_ready (rs := [10]) (by kernel_rfl) (by simp) ?_
  refine (AllReadyH.cons rfl ?_ AllReadyH.nil)
  intro K hK
  refine ready_call rfl (some 15) rfl 46 #[] (by go_simp) ?_
  refine (prime_any _).mono ?_
  rintro e w5 ⟨rfl, hC⟩
  refine ⟨_, rfl, ?_⟩
  simp only [Act.put, sia, sc0, scs]
  have hS := hS.call hC
  have hz5 := hC.size
  clear hC
  refine hK.out _ _ hS ?_
  clear hK K
  intro _
  have hSz := hS.size
  refine wpAnyH_ready (rs := [11]) (by kernel_rfl) (by simp) ?_
  refine (AllReadyH.cons rfl ?_ AllReadyH.nil)
  intro K hK
  refine ready_call rfl (some 16) rfl 45 #[.agg (numC X2.val), .agg (numC Z.val), .agg (numC pF)] (by go_simp) ?_
  refine (stimes_ff X2 Z R2 HR2 _).mono ?_
  rintro e w6 ⟨rfl, hC⟩
  refine ⟨_, rfl, ?_⟩
  simp only [Act.put, sia, sc0, scs]
  have hS := hS.call hC
  have hz6 := hC.size
  clear hC
  refine hK.out _ _ hS ?_
  clear hK K
  intro _
  have hSz := hS.size
  refine takeAtK (i := 12) (v := .bool false) rfl (some 17) rfl (take_run rfl (fun _ _ => by go_simp; rw [run_eq_num _ _ (Nat.lt_trans R1.isLt (by unfold pF; omega)) (Nat.lt_trans R2.isLt (by unfold pF; omega))]; simp [ex.out])) hS ?_
  simp only [Act.put, sia, sc0, scs]
  refine takeAtK (i := 13) (v := .bool false) rfl (some 18) rfl (take_run rfl (fun _ _ => by go_simp)) hS ?_
  simp only [Act.put, sia, sc0, scs]
  refine takeAtK (i := 14) (v := undef) rfl (some 19) rfl (take_skip (by first | decide | rfl)) hS ?_
  simp only [Act.put, sia, sc0, scs]
  refine takeAtK (i := 15) (v := undef) rfl (some 20) rfl (take_skip (by first | decide | rfl)) hS ?_
  simp only [Act.put, sia, sc0, scs]
  refine takeAtK (i := 16) (v := undef) rfl (some 21) rfl (take_skip (by first | decide | rfl)) hS ?_
  simp only [Act.put, sia, sc0, scs]
  refine takeAtK (i := 17) (v := undef) rfl (some 22) rfl (take_skip (by first | decide | rfl)) hS ?_
  simp only [Act.put, sia, sc0, scs]
  refine takeAtK (i := 18) (v := undef) rfl (some 23) rfl (take_skip (by first | decide | rfl)) hS ?_
  simp only [Act.put, sia, sc0, scs]
  refine takeAtK (i := 19) (v := undef) rfl (some 24) rfl (take_skip (by first | decide | rfl)) hS ?_
  simp only [Act.put, sia, sc0, scs]
  refine takeAtK (i := 20) (v := undef) rfl (some 25) rfl (take_skip (by first | decide | rfl)) hS ?_
  simp only [Act.put, sia, sc0, scs]
  refine takeAtK (i := 21) (v := undef) rfl (some 26) rfl (take_skip (by first | decide | rfl)) hS ?_
  simp only [Act.put, sia, sc0, scs]
  refine takeAtK (i := 22) (v := undef) rfl (some 27) rfl (take_skip (by first | decide | rfl)) hS ?_
  simp only [Act.put, sia, sc0, scs]
  refine takeAtK (i := 23) (v := undef) rfl (some 28) rfl (take_skip (by first | decide | rfl)) hS ?_
  simp only [Act.put, sia, sc0, scs]
  refine takeAtK (i := 24) (v := undef) rfl (some 29) rfl (take_skip (by first | decide | rfl)) hS ?_
  simp only [Act.put, sia, sc0, scs]
  refine takeAtK (i := 25) (v := undef) rfl (some 30) rfl (take_skip (by first | decide | rfl)) hS ?_
  simp only [Act.put, sia, sc0, scs]
  refine takeAtK (i := 26) (v := undef) rfl (some 31) rfl (take_skip (by first | decide | rfl)) hS ?_
  simp only [Act.put, sia, sc0, scs]
  refine takeAtK (i := 27) (v := .bool false) rfl (some 32) rfl (take_run rfl (fun _ _ => by go_simp)) hS ?_
  simp only [Act.put, sia, sc0, scs]
  refine takeAtK (i := 28) (v := .bool false) rfl (some 4) rfl (take_run rfl (fun _ _ => by go_simp)) hS ?_
  simp only [Act.put, sia, sc0, scs]
  refine wpAnyH_done (by kernel_rfl) ?_ _
  refine NoPanic.normal ?_
  have hsz := hS.size
  have h2 : w6.heap[w.heap.size]? = some (.cells (ptC (X.val) (Y.val) (Z.val)) 45 (0, 0)) := hS.old h2 (Nat.ne_of_lt (heap_lt h2))
  have h3 : w6.heap[w.heap.size + 1]? = some (.cells (ptC (X2.val) (Y2.val) (Z2.val)) 45 (0, 0)) := hS.old h3 (Nat.ne_of_lt (heap_lt h3))
  have hBw6 : Hid (Below w.heap.size w w6) := Lib.hid (hBw1.out.trans (hS.below (by omega) hBw1.out.size))
  clear hS
  go_wp2
  go_ret
  exact ⟨rfl, hBw6.out⟩
set_option maxHeartbeats 4000000 in
theorem ssame_fy (P Q : CP) (X Y Z X2 Y2 Z2 : Fp) (rA : Rp P X Y Z) (rB : Rp Q X2 Y2 Z2) (hx : Hid (X * Z2 = X2 * Z)) (hy : Hid (¬ Y * Z2 = Y2 * Z)) (w : World) :
    Calls Tryd.prog 29 #[.agg (ptC X.val Y.val Z.val), .agg (ptC X2.val Y2.val Z2.val)] w fun e w' => e = .returned (.bool false) ∧ Below w.heap.size w w' := by
  go_enter Tryd.func29, Tryd.ntmps29
  obtain ⟨R1, qR1⟩ : ∃ uu : Fp, uu = X * Z2 := ⟨_, rfl⟩
  have HR1 := Lib.hid qR1; clear qR1
  obtain ⟨R2, qR2⟩ : ∃ uu : Fp, uu = X2 * Z := ⟨_, rfl⟩
  have HR2 := Lib.hid qR2; clear qR2
  obtain ⟨R3, qR3⟩ : ∃ uu : Fp, uu = Y * Z2 := ⟨_, rfl⟩
  have HR3 := Lib.hid qR3; clear qR3
  obtain ⟨R4, qR4⟩ : ∃ uu : Fp, uu = Y2 * Z := ⟨_, rfl⟩
  have HR4 := Lib.hid qR4; clear qR4
  have ex : Hid (R1.val = R2.val) := Lib.hid (congrArg Fin.val (by rw [HR1.out, HR2.out]; exact hx.out))
  have ey : Hid (¬ R3.val = R4.val) := Lib.hid (fun h => hy.out (by have := Fin.ext h; rwa [HR3.out, HR4.out] at this))
  go_wp2_with fail
  try simp only [Act.put]
  refine wp_named ?_
  intro w1 ew1
  have hs1 : w.heap.size + 1 + 1 ≤ w1.heap.size := by rw [ew1]; (try simp only [alloc_size, setRow_size]); omega
  replace h2 : w1.heap[w.heap.size]? = some (.cells (ptC (X.val) (Y.val) (Z.val)) 45 (0, 0)) := by rw [ew1]; exact (heap_old _ (heap_new_at _ _ _ rfl))
  replace h3 : w1.heap[w.heap.size + 1]? = some (.cells (ptC (X2.val) (Y2.val) (Z2.val)) 45 (0, 0)) := by rw [ew1]; exact (heap_new_at _ _ _ (by simp only [alloc_size, setRow_size]))
  have hBw1 : Hid (Below w.heap.size w w1) := Lib.hid (by rw [ew1]; exact (below_alloc (below_alloc (Below.refl _ w) _) _))
  clear ew1
  refine wp_region_noPanic ?_
  refine wp_region_held_drew (S := Keep (w1.heap.size) w1) (by kernel_rfl) (Keep.start _ _) ?_
  intro hS
  obtain ⟨w2, ed⟩ : ∃ u : World, u = w1.drew := ⟨_, rfl⟩
  rw [← ed] at hS ⊢
  have xh2 : w2.heap[w.heap.size]? = some (.cells (ptC (X.val) (Y.val) (Z.val)) 45 (0, 0)) := by rw [ed]; exact h2
  have xh3 : w2.heap[w.heap.size + 1]? = some (.cells (ptC (X2.val) (Y2.val) (Z2.val)) 45 (0, 0)) := by rw [ed]; exact h3
  clear ed
  have hSz := hS.size
  clear xh2
  clear xh3
  refine takeAtK (i := 0) (v := .pointer (some ⟨w.heap.size, 0, none⟩)) rfl (some 5) rfl (take_run rfl (fun _ _ => by go_simp)) hS ?_
  simp only [Act.put, sia, sc0, scs]
  refine takeAtK (i := 1) (v := .agg (numC X.val)) rfl (some 6) rfl (take_part rfl _ _ rfl (w.heap.size) 0 rfl _ _ _ h2 (Nat.ne_of_lt (heap_lt h2)) (numC (X.val)) (part_x _ _ _) underNum rfl (infoNum_of _ (numC_size _))) hS ?_
  simp only [Act.put, sia, sc0, scs]
  refine takeAtK (i := 2) (v := .pointer (some ⟨w.heap.size + 1, 8, none⟩)) rfl (some 7) rfl (take_run rfl (fun _ _ => by go_simp)) hS ?_
  simp only [Act.put, sia, sc0, scs]
  refine takeAtK (i := 3) (v := .agg (numC Z2.val)) rfl (some 8) rfl (take_part rfl _ _ rfl (w.heap.size + 1) 8 rfl _ _ _ h3 (Nat.ne_of_lt (heap_lt h3)) (numC (Z2.val)) (part_z _ _ _) underNum rfl (infoNum_of _ (numC_size _))) hS ?_
  simp only [Act.put, sia, sc0, scs]
  refine takeAtK (i := 6) (v := .pointer (some ⟨w.heap.size + 1, 0, none⟩)) rfl (some 11) rfl (take_run rfl (fun _ _ => by go_simp)) hS ?_
  simp only [Act.put, sia, sc0, scs]
  refine takeAtK (i := 7) (v := .agg (numC X2.val)) rfl (some 12) rfl (take_part rfl _ _ rfl (w.heap.size + 1) 0 rfl _ _ _ h3 (Nat.ne_of_lt (heap_lt h3)) (numC (X2.val)) (part_x _ _ _) underNum rfl (infoNum_of _ (numC_size _))) hS ?_
  simp only [Act.put, sia, sc0, scs]
  refine takeAtK (i := 8) (v := .pointer (some ⟨w.heap.size, 8, none⟩)) rfl (some 13) rfl (take_run rfl (fun _ _ => by go_simp)) hS ?_
  simp only [Act.put, sia, sc0, scs]
  refine takeAtK (i := 9) (v := .agg (numC Z.val)) rfl (some 14) rfl (take_part rfl _ _ rfl (w.heap.size) 8 rfl _ _ _ h2 (Nat.ne_of_lt (heap_lt h2)) (numC (Z.val)) (part_z _ _ _) underNum rfl (infoNum_of _ (numC_size _))) hS ?_
  simp only [Act.put, sia, sc0, scs]
  refine wpAnyH_ready (rs := [4]) (by kernel_rfl) (by simp) ?_
  refine (AllReadyH.cons rfl ?_ AllReadyH.nil)
  intro K hK
  refine ready_call rfl (some 9) rfl 46 #[] (by go_simp) ?_
  refine (prime_any _).mono ?_
  rintro e w3 ⟨rfl, hC⟩
  refine ⟨_, rfl, ?_⟩
  simp only [Act.put, sia, sc0, scs]
  have hS := hS.call hC
  have hz3 := hC.size
  clear hC
  refine hK.out _ _ hS ?_
  clear hK K
  intro _
  have hSz := hS.size
  refine wpAnyH_ready (rs := [5]) (by kernel_rfl) (by simp) ?_
  refine (AllReadyH.cons rfl ?_ AllReadyH.nil)
  intro K hK
  refine ready_call rfl (some 10) rfl 45 #[.agg (numC X.val), .agg (numC Z2.val), .agg (numC pF)] (by go_simp) ?_
  refine (stimes_ff X Z2 R1 HR1 _).mono ?_
  rintro e w4 ⟨rfl, hC⟩
  refine ⟨_, rfl, ?_⟩
  simp only [Act.put, sia, sc0, scs]
  have hS := hS.call hC
  have hz4 := hC.size
  clear hC
  refine hK.out _ _ hS ?_
  clear hK K
  intro _
  have hSz := hS.size
  refine wpAnyH_ready (rs := [10]) (by kernel_rfl) (by simp) ?_
  refine (AllReadyH.cons rfl ?_ AllReadyH.nil)
  intro K hK
  refine ready_call rfl (some 15) rfl 46 #[] (by go_simp) ?_
  refine (prime_any _).mono ?_
  rintro e w5 ⟨rfl, hC⟩
  refine ⟨_, rfl, ?_⟩
  simp only [Act.put, sia, sc0, scs]
  have hS := hS.call hC
  have hz5 := hC.size
  clear hC
  refine hK.out _ _ hS ?_
  clear hK K
  intro _
  have hSz := hS.size
  refine wpAnyH_ready (rs := [11]) (by kernel_rfl) (by simp) ?_
  refine (AllReadyH.cons rfl ?_ AllReadyH.nil)
  intro K hK
  refine ready_call rfl (some 16) rfl 45 #[.agg (numC X2.val), .agg (numC Z.val), .agg (numC pF)] (by go_simp) ?_
  refine (stimes_ff X2 Z R2 HR2 _).mono ?_
  rintro e w6 ⟨rfl, hC⟩
  refine ⟨_, rfl, ?_⟩
  simp only [Act.put, sia, sc0, scs]
  have hS := hS.call hC
  have hz6 := hC.size
  clear hC
  refine hK.out _ _ hS ?_
  clear hK K
  intro _
  have hSz := hS.size
  refine takeAtK (i := 12) (v := .bool true) rfl (some 17) rfl (take_run rfl (fun _ _ => by go_simp; rw [run_eq_num _ _ (Nat.lt_trans R1.isLt (by unfold pF; omega)) (Nat.lt_trans R2.isLt (by unfold pF; omega))]; simp [ex.out])) hS ?_
  simp only [Act.put, sia, sc0, scs]
  refine takeAtK (i := 13) (v := .bool true) rfl (some 18) rfl (take_run rfl (fun _ _ => by go_simp)) hS ?_
  simp only [Act.put, sia, sc0, scs]
  refine takeAtK (i := 14) (v := .pointer (some ⟨w.heap.size, 4, none⟩)) rfl (some 19) rfl (take_run rfl (fun _ _ => by go_simp)) hS ?_
  simp only [Act.put, sia, sc0, scs]
  refine takeAtK (i := 15) (v := .agg (numC Y.val)) rfl (some 20) rfl (take_part rfl _ _ rfl (w.heap.size) 4 rfl _ _ _ h2 (Nat.ne_of_lt (heap_lt h2)) (numC (Y.val)) (part_y _ _ _) underNum rfl (infoNum_of _ (numC_size _))) hS ?_
  simp only [Act.put, sia, sc0, scs]
  refine takeAtK (i := 16) (v := .pointer (some ⟨w.heap.size + 1, 8, none⟩)) rfl (some 21) rfl (take_run rfl (fun _ _ => by go_simp)) hS ?_
  simp only [Act.put, sia, sc0, scs]
  refine takeAtK (i := 17) (v := .agg (numC Z2.val)) rfl (some 22) rfl (take_part rfl _ _ rfl (w.heap.size + 1) 8 rfl _ _ _ h3 (Nat.ne_of_lt (heap_lt h3)) (numC (Z2.val)) (part_z _ _ _) underNum rfl (infoNum_of _ (numC_size _))) hS ?_
  simp only [Act.put, sia, sc0, scs]
  refine takeAtK (i := 20) (v := .pointer (some ⟨w.heap.size + 1, 4, none⟩)) rfl (some 25) rfl (take_run rfl (fun _ _ => by go_simp)) hS ?_
  simp only [Act.put, sia, sc0, scs]
  refine takeAtK (i := 21) (v := .agg (numC Y2.val)) rfl (some 26) rfl (take_part rfl _ _ rfl (w.heap.size + 1) 4 rfl _ _ _ h3 (Nat.ne_of_lt (heap_lt h3)) (numC (Y2.val)) (part_y _ _ _) underNum rfl (infoNum_of _ (numC_size _))) hS ?_
  simp only [Act.put, sia, sc0, scs]
  refine takeAtK (i := 22) (v := .pointer (some ⟨w.heap.size, 8, none⟩)) rfl (some 27) rfl (take_run rfl (fun _ _ => by go_simp)) hS ?_
  simp only [Act.put, sia, sc0, scs]
  refine takeAtK (i := 23) (v := .agg (numC Z.val)) rfl (some 28) rfl (take_part rfl _ _ rfl (w.heap.size) 8 rfl _ _ _ h2 (Nat.ne_of_lt (heap_lt h2)) (numC (Z.val)) (part_z _ _ _) underNum rfl (infoNum_of _ (numC_size _))) hS ?_
  simp only [Act.put, sia, sc0, scs]
  refine wpAnyH_ready (rs := [18]) (by kernel_rfl) (by simp) ?_
  refine (AllReadyH.cons rfl ?_ AllReadyH.nil)
  intro K hK
  refine ready_call rfl (some 23) rfl 46 #[] (by go_simp) ?_
  refine (prime_any _).mono ?_
  rintro e w7 ⟨rfl, hC⟩
  refine ⟨_, rfl, ?_⟩
  simp only [Act.put, sia, sc0, scs]
  have hS := hS.call hC
  have hz7 := hC.size
  clear hC
  refine hK.out _ _ hS ?_
  clear hK K
  intro _
  have hSz := hS.size
  refine wpAnyH_ready (rs := [19]) (by kernel_rfl) (by simp) ?_
  refine (AllReadyH.cons rfl ?_ AllReadyH.nil)
  intro K hK
  refine ready_call rfl (some 24) rfl 45 #[.agg (numC Y.val), .agg (numC Z2.val), .agg (numC pF)] (by go_simp) ?_
  refine (stimes_ff Y Z2 R3 HR3 _).mono ?_
  rintro e w8 ⟨rfl, hC⟩
  refine ⟨_, rfl, ?_⟩
  simp only [Act.put, sia, sc0, scs]
  have hS := hS.call hC
  have hz8 := hC.size
  clear hC
  refine hK.out _ _ hS ?_
  clear hK K
  intro _
  have hSz := hS.size
  refine wpAnyH_ready (rs := [24]) (by kernel_rfl) (by simp) ?_
  refine (AllReadyH.cons rfl ?_ AllReadyH.nil)
  intro K hK
  refine ready_call rfl (some 29) rfl 46 #[] (by go_simp) ?_
  refine (prime_any _).mono ?_
  rintro e w9 ⟨rfl, hC⟩
  refine ⟨_, rfl, ?_⟩
  simp only [Act.put, sia, sc0, scs]
  have hS := hS.call hC
  have hz9 := hC.size
  clear hC
  refine hK.out _ _ hS ?_
  clear hK K
  intro _
  have hSz := hS.size
  refine wpAnyH_ready (rs := [25]) (by kernel_rfl) (by simp) ?_
  refine (AllReadyH.cons rfl ?_ AllReadyH.nil)
  intro K hK
  refine ready_call rfl (some 30) rfl 45 #[.agg (numC Y2.val), .agg (numC Z.val), .agg (numC pF)] (by go_simp) ?_
  refine (stimes_ff Y2 Z R4 HR4 _).mono ?_
  rintro e w10 ⟨rfl, hC⟩
  refine ⟨_, rfl, ?_⟩
  simp only [Act.put, sia, sc0, scs]
  have hS := hS.call hC
  have hz10 := hC.size
  clear hC
  refine hK.out _ _ hS ?_
  clear hK K
  intro _
  have hSz := hS.size
  refine takeAtK (i := 26) (v := .bool false) rfl (some 31) rfl (take_run rfl (fun _ _ => by go_simp; rw [run_eq_num _ _ (Nat.lt_trans R3.isLt (by unfold pF; omega)) (Nat.lt_trans R4.isLt (by unfold pF; omega))]; simp [ey.out])) hS ?_
  simp only [Act.put, sia, sc0, scs]
  refine takeAtK (i := 27) (v := .bool false) rfl (some 32) rfl (take_run rfl (fun _ _ => by go_simp)) hS ?_
  simp only [Act.put, sia, sc0, scs]
  refine takeAtK (i := 28) (v := .bool false) rfl (some 4) rfl (take_run rfl (fun _ _ => by go_simp)) hS ?_
  simp only [Act.put, sia, sc0, scs]
  refine wpAnyH_done (by kernel_rfl) ?_ _
  refine NoPanic.normal ?_
  have hsz := hS.size
  have h2 : w10.heap[w.heap.size]? = some (.cells (ptC (X.val) (Y.val) (Z.val)) 45 (0, 0)) := hS.old h2 (Nat.ne_of_lt (heap_lt h2))
  have h3 : w10.heap[w.heap.size + 1]? = some (.cells (ptC (X2.val) (Y2.val) (Z2.val)) 45 (0, 0)) := hS.old h3 (Nat.ne_of_lt (heap_lt h3))
  have hBw10 : Hid (Below w.heap.size w w10) := Lib.hid (hBw1.out.trans (hS.below (by omega) hBw1.out.size))
  clear hS
  go_wp2
  go_ret
  exact ⟨rfl, hBw10.out⟩
theorem ssame_false (P Q : CP) (X Y Z X2 Y2 Z2 : Fp) (rA : Rp P X Y Z) (rB : Rp Q X2 Y2 Z2) (heq : ¬ P = Q) (w : World) : Calls Tryd.prog 29 #[.agg (ptC X.val Y.val Z.val), .agg (ptC X2.val Y2.val Z2.val)] w fun e w' => e = .returned (.bool false) ∧ Below w.heap.size w w' := by
  by_cases hx : X * Z2 = X2 * Z
  · exact ssame_fy P Q X Y Z X2 Y2 Z2 rA rB (Lib.hid hx) (Lib.hid fun hy => heq ((Rp.same rA rB).1 ⟨hx, hy⟩)) w
  · exact ssame_fx P Q X Y Z X2 Y2 Z2 rA rB (Lib.hid hx) w
end

section
open Go.RowKit
set_option maxHeartbeats 4000000 in
theorem sEqual_sstrue (N M : Nat) (P Q : CP) (heq : Hid (P = Q)) (lN : N < 256 ^ 32) (hN : Hid (decP N = some P)) (lM : M < 256 ^ 32) (hM : Hid (decP M = some Q)) (w : World) :
    Calls Tryd.prog 12 #[.agg (arrC N), .agg (arrC M)] w fun e w' => e = .returned (.tuple #[.int .i64 1, .bool true]) ∧ Below w.heap.size w w' := by
  go_enter Tryd.func12, Tryd.ntmps12
  go_wp2_with (first
    | ((with_reducible refine at_dst 11 ?_); refine wpList_load_row rfl 22 _ rfl (w.heap.size) rfl 22 (arrC N) (0, 0) _ (heap_old _ (heap_new_at _ _ _ rfl)) under32 rfl (info32_of (arrC N) (arrC_size _)) ?_))
  refine (sdecoded_some N P lN hN.out _).mono ?_
  rintro e w1 ⟨rfl, hC1⟩
  have hs1 : w.heap.size + 1 + 1 ≤ w1.heap.size := by have := hC1.size; (try simp only [alloc_size, setRow_size] at this); omega
  replace h2 : w1.heap[w.heap.size]? = some (.cells (arrC N) 22 (0, 0)) := (heap_call hC1 (heap_old _ (heap_new_at _ _ _ rfl)))
  replace h3 : w1.heap[w.heap.size + 1]? = some (.cells (arrC M) 22 (0, 0)) := (heap_call hC1 (heap_new_at _ _ _ (by simp only [alloc_size, setRow_size])))
  have hBw1 : Hid (Below w.heap.size w w1) := Lib.hid (below_call (below_alloc (below_alloc (Below.refl _ w) _) _) hC1)
  clear hC1
  go_wp2_with (first
    | ((with_reducible refine at_store 6 ?_); refine wpList_store_row rfl 45 _ _ rfl (w1.heap.size) (ptC (P.x.val) (P.y.val) ((1 : Fp).val)) rfl rfl 45 (z12) (heap_new_at _ _ _ rfl) (infoPt_of (ptC (P.x.val) (P.y.val) ((1 : Fp).val)) (ptC_size _ _ _)) (z12_size.trans (ptC_size _ _ _).symm) (ptC_one _ _ _) ?_)
    | ((with_reducible refine at_dst 16 ?_); refine wpList_load_row rfl 22 _ rfl (w.heap.size + 1) rfl 22 (arrC M) (0, 0) _ (heap_row _ (by omega) (heap_old _ h3)) under32 rfl (info32_of (arrC M) (arrC_size _)) ?_))
  refine (sdecoded_some M Q lM hM.out _).mono ?_
  rintro e w2 ⟨rfl, hC2⟩
  have hs2 : w1.heap.size + 1 ≤ w2.heap.size := by have := hC2.size; (try simp only [alloc_size, setRow_size] at this); omega
  replace h2 : w2.heap[w.heap.size]? = some (.cells (arrC N) 22 (0, 0)) := (heap_call hC2 (heap_row _ (by omega) (heap_old _ h2)))
  replace h3 : w2.heap[w.heap.size + 1]? = some (.cells (arrC M) 22 (0, 0)) := (heap_call hC2 (heap_row _ (by omega) (heap_old _ h3)))
  replace h6 : w2.heap[w1.heap.size]? = some (.cells (ptC (P.x.val) (P.y.val) ((1 : Fp).val)) 45 (0, 0)) := (heap_call hC2 (setRow_heap _ _ _ _ _ _ (heap_new_at _ _ _ rfl)))
  have hBw2 : Hid (Below w.heap.size w w2) := Lib.hid (below_call (below_setRow (below_alloc hBw1.out _) (by omega) _) hC2)
  clear hC2
  go_wp2_with (first
    | ((with_reducible refine at_store 8 ?_); refine wpList_store_row rfl 45 _ _ rfl (w2.heap.size) (ptC (Q.x.val) (Q.y.val) ((1 : Fp).val)) rfl rfl 45 (z12) (heap_new_at _ _ _ rfl) (infoPt_of (ptC (Q.x.val) (Q.y.val) ((1 : Fp).val)) (ptC_size _ _ _)) (z12_size.trans (ptC_size _ _ _).symm) (ptC_one _ _ _) ?_)
    | ((with_reducible refine at_dst 26 ?_); refine wpList_load_row rfl 45 _ rfl (w1.heap.size) rfl 45 (ptC (P.x.val) (P.y.val) ((1 : Fp).val)) (0, 0) _ (heap_row _ (by omega) (heap_old _ h6)) underPt rfl (infoPt_of (ptC (P.x.val) (P.y.val) ((1 : Fp).val)) (ptC_size _ _ _)) ?_)
    | ((with_reducible refine at_dst 27 ?_); refine wpList_load_row rfl 45 _ rfl (w2.heap.size) rfl 45 (ptC (Q.x.val) (Q.y.val) ((1 : Fp).val)) (0, 0) _ (setRow_heap _ _ _ _ _ _ (heap_new_at _ _ _ rfl)) underPt rfl (infoPt_of (ptC (Q.x.val) (Q.y.val) ((1 : Fp).val)) (ptC_size _ _ _)) ?_))
  refine (ssame_true P Q _ _ _ _ _ _ (Rp.one P) (Rp.one Q) heq.out _).mono ?_
  rintro e w3 ⟨rfl, hC3⟩
  have hs3 : w2.heap.size + 1 ≤ w3.heap.size := by have := hC3.size; (try simp only [alloc_size, setRow_size] at this); omega
  replace h2 : w3.heap[w.heap.size]? = some (.cells (arrC N) 22 (0, 0)) := (heap_call hC3 (heap_row _ (by omega) (heap_old _ h2)))
  replace h3 : w3.heap[w.heap.size + 1]? = some (.cells (arrC M) 22 (0, 0)) := (heap_call hC3 (heap_row _ (by omega) (heap_old _ h3)))
  replace h6 : w3.heap[w1.heap.size]? = some (.cells (ptC (P.x.val) (P.y.val) ((1 : Fp).val)) 45 (0, 0)) := (heap_call hC3 (heap_row _ (by omega) (heap_old _ h6)))
  replace h8 : w3.heap[w2.heap.size]? = some (.cells (ptC (Q.x.val) (Q.y.val) ((1 : Fp).val)) 45 (0, 0)) := (heap_call hC3 (setRow_heap _ _ _ _ _ _ (heap_new_at _ _ _ rfl)))
  have hBw3 : Hid (Below w.heap.size w w3) := Lib.hid (below_call (below_setRow (below_alloc hBw2.out _) (by omega) _) hC3)
  clear hC3
  go_wp2
  go_ret2
  exact ⟨rfl, hBw3.out⟩
set_option maxHeartbeats 4000000 in
theorem sEqual_ssfalse (N M : Nat) (P Q : CP) (heq : Hid (¬ P = Q)) (lN : N < 256 ^ 32) (hN : Hid (decP N = some P)) (lM : M < 256 ^ 32) (hM : Hid (decP M = some Q)) (w : World) :
    Calls Tryd.prog 12 #[.agg (arrC N), .agg (arrC M)] w fun e w' => e = .returned (.tuple #[.int .i64 0, .bool true]) ∧ Below w.heap.size w w' := by
  go_enter Tryd.func12, Tryd.ntmps12
  go_wp2_with (first
    | ((with_reducible refine at_dst 11 ?_); refine wpList_load_row rfl 22 _ rfl (w.heap.size) rfl 22 (arrC N) (0, 0) _ (heap_old _ (heap_new_at _ _ _ rfl)) under32 rfl (info32_of (arrC N) (arrC_size _)) ?_))
  refine (sdecoded_some N P lN hN.out _).mono ?_
  rintro e w1 ⟨rfl, hC1⟩
  have hs1 : w.heap.size + 1 + 1 ≤ w1.heap.size := by have := hC1.size; (try simp only [alloc_size, setRow_size] at this); omega
  replace h2 : w1.heap[w.heap.size]? = some (.cells (arrC N) 22 (0, 0)) := (heap_call hC1 (heap_old _ (heap_new_at _ _ _ rfl)))
  replace h3 : w1.heap[w.heap.size + 1]? = some (.cells (arrC M) 22 (0, 0)) := (heap_call hC1 (heap_new_at _ _ _ (by simp only [alloc_size, setRow_size])))
  have hBw1 : Hid (Below w.heap.size w w1) := Lib.hid (below_call (below_alloc (below_alloc (Below.refl _ w) _) _) hC1)
  clear hC1
  go_wp2_with (first
    | ((with_reducible refine at_store 6 ?_); refine wpList_store_row rfl 45 _ _ rfl (w1.heap.size) (ptC (P.x.val) (P.y.val) ((1 : Fp).val)) rfl rfl 45 (z12) (heap_new_at _ _ _ rfl) (infoPt_of (ptC (P.x.val) (P.y.val) ((1 : Fp).val)) (ptC_size _ _ _)) (z12_size.trans (ptC_size _ _ _).symm) (ptC_one _ _ _) ?_)
    | ((with_reducible refine at_dst 16 ?_); refine wpList_load_row rfl 22 _ rfl (w.heap.size + 1) rfl 22 (arrC M) (0, 0) _ (heap_row _ (by omega) (heap_old _ h3)) under32 rfl (info32_of (arrC M) (arrC_size _)) ?_))
  refine (sdecoded_some M Q lM hM.out _).mono ?_
  rintro e w2 ⟨rfl, hC2⟩
  have hs2 : w1.heap.size + 1 ≤ w2.heap.size := by have := hC2.size; (try simp only [alloc_size, setRow_size] at this); omega
  replace h2 : w2.heap[w.heap.size]? = some (.cells (arrC N) 22 (0, 0)) := (heap_call hC2 (heap_row _ (by omega) (heap_old _ h2)))
  replace h3 : w2.heap[w.heap.size + 1]? = some (.cells (arrC M) 22 (0, 0)) := (heap_call hC2 (heap_row _ (by omega) (heap_old _ h3)))
  replace h6 : w2.heap[w1.heap.size]? = some (.cells (ptC (P.x.val) (P.y.val) ((1 : Fp).val)) 45 (0, 0)) := (heap_call hC2 (setRow_heap _ _ _ _ _ _ (heap_new_at _ _ _ rfl)))
  have hBw2 : Hid (Below w.heap.size w w2) := Lib.hid (below_call (below_setRow (below_alloc hBw1.out _) (by omega) _) hC2)
  clear hC2
  go_wp2_with (first
    | ((with_reducible refine at_store 8 ?_); refine wpList_store_row rfl 45 _ _ rfl (w2.heap.size) (ptC (Q.x.val) (Q.y.val) ((1 : Fp).val)) rfl rfl 45 (z12) (heap_new_at _ _ _ rfl) (infoPt_of (ptC (Q.x.val) (Q.y.val) ((1 : Fp).val)) (ptC_size _ _ _)) (z12_size.trans (ptC_size _ _ _).symm) (ptC_one _ _ _) ?_)
    | ((with_reducible refine at_dst 26 ?_); refine wpList_load_row rfl 45 _ rfl (w1.heap.size) rfl 45 (ptC (P.x.val) (P.y.val) ((1 : Fp).val)) (0, 0) _ (heap_row _ (by omega) (heap_old _ h6)) underPt rfl (infoPt_of (ptC (P.x.val) (P.y.val) ((1 : Fp).val)) (ptC_size _ _ _)) ?_)
    | ((with_reducible refine at_dst 27 ?_); refine wpList_load_row rfl 45 _ rfl (w2.heap.size) rfl 45 (ptC (Q.x.val) (Q.y.val) ((1 : Fp).val)) (0, 0) _ (setRow_heap _ _ _ _ _ _ (heap_new_at _ _ _ rfl)) underPt rfl (infoPt_of (ptC (Q.x.val) (Q.y.val) ((1 : Fp).val)) (ptC_size _ _ _)) ?_))
  refine (ssame_false P Q _ _ _ _ _ _ (Rp.one P) (Rp.one Q) heq.out _).mono ?_
  rintro e w3 ⟨rfl, hC3⟩
  have hs3 : w2.heap.size + 1 ≤ w3.heap.size := by have := hC3.size; (try simp only [alloc_size, setRow_size] at this); omega
  replace h2 : w3.heap[w.heap.size]? = some (.cells (arrC N) 22 (0, 0)) := (heap_call hC3 (heap_row _ (by omega) (heap_old _ h2)))
  replace h3 : w3.heap[w.heap.size + 1]? = some (.cells (arrC M) 22 (0, 0)) := (heap_call hC3 (heap_row _ (by omega) (heap_old _ h3)))
  replace h6 : w3.heap[w1.heap.size]? = some (.cells (ptC (P.x.val) (P.y.val) ((1 : Fp).val)) 45 (0, 0)) := (heap_call hC3 (heap_row _ (by omega) (heap_old _ h6)))
  replace h8 : w3.heap[w2.heap.size]? = some (.cells (ptC (Q.x.val) (Q.y.val) ((1 : Fp).val)) 45 (0, 0)) := (heap_call hC3 (setRow_heap _ _ _ _ _ _ (heap_new_at _ _ _ rfl)))
  have hBw3 : Hid (Below w.heap.size w w3) := Lib.hid (below_call (below_setRow (below_alloc hBw2.out _) (by omega) _) hC3)
  clear hC3
  go_wp2
  go_ret2
  exact ⟨rfl, hBw3.out⟩
set_option maxHeartbeats 4000000 in
theorem sEqual_sn (N M : Nat) (P : CP) (lN : N < 256 ^ 32) (hN : Hid (decP N = some P)) (lM : M < 256 ^ 32) (hM : Hid (decP M = none)) (w : World) :
    Calls Tryd.prog 12 #[.agg (arrC N), .agg (arrC M)] w fun e w' => e = .returned (.tuple #[.int .i64 0, .bool false]) ∧ Below w.heap.size w w' := by
  go_enter Tryd.func12, Tryd.ntmps12
  go_wp2_with (first
    | ((with_reducible refine at_dst 11 ?_); refine wpList_load_row rfl 22 _ rfl (w.heap.size) rfl 22 (arrC N) (0, 0) _ (heap_old _ (heap_new_at _ _ _ rfl)) under32 rfl (info32_of (arrC N) (arrC_size _)) ?_))
  refine (sdecoded_some N P lN hN.out _).mono ?_
  rintro e w1 ⟨rfl, hC1⟩
  have hs1 : w.heap.size + 1 + 1 ≤ w1.heap.size := by have := hC1.size; (try simp only [alloc_size, setRow_size] at this); omega
  replace h2 : w1.heap[w.heap.size]? = some (.cells (arrC N) 22 (0, 0)) := (heap_call hC1 (heap_old _ (heap_new_at _ _ _ rfl)))
  replace h3 : w1.heap[w.heap.size + 1]? = some (.cells (arrC M) 22 (0, 0)) := (heap_call hC1 (heap_new_at _ _ _ (by simp only [alloc_size, setRow_size])))
  have hBw1 : Hid (Below w.heap.size w w1) := Lib.hid (below_call (below_alloc (below_alloc (Below.refl _ w) _) _) hC1)
  clear hC1
  go_wp2_with (first
    | ((with_reducible refine at_store 6 ?_); refine wpList_store_row rfl 45 _ _ rfl (w1.heap.size) (ptC (P.x.val) (P.y.val) ((1 : Fp).val)) rfl rfl 45 (z12) (heap_new_at _ _ _ rfl) (infoPt_of (ptC (P.x.val) (P.y.val) ((1 : Fp).val)) (ptC_size _ _ _)) (z12_size.trans (ptC_size _ _ _).symm) (ptC_one _ _ _) ?_)
    | ((with_reducible refine at_dst 16 ?_); refine wpList_load_row rfl 22 _ rfl (w.heap.size + 1) rfl 22 (arrC M) (0, 0) _ (heap_row _ (by omega) (heap_old _ h3)) under32 rfl (info32_of (arrC M) (arrC_size _)) ?_))
  refine (sdecoded_none M lM hM.out _).mono ?_
  rintro e w2 ⟨rfl, hC2⟩
  have hs2 : w1.heap.size + 1 ≤ w2.heap.size := by have := hC2.size; (try simp only [alloc_size, setRow_size] at this); omega
  replace h2 : w2.heap[w.heap.size]? = some (.cells (arrC N) 22 (0, 0)) := (heap_call hC2 (heap_row _ (by omega) (heap_old _ h2)))
  replace h3 : w2.heap[w.heap.size + 1]? = some (.cells (arrC M) 22 (0, 0)) := (heap_call hC2 (heap_row _ (by omega) (heap_old _ h3)))
  replace h6 : w2.heap[w1.heap.size]? = some (.cells (ptC (P.x.val) (P.y.val) ((1 : Fp).val)) 45 (0, 0)) := (heap_call hC2 (setRow_heap _ _ _ _ _ _ (heap_new_at _ _ _ rfl)))
  have hBw2 : Hid (Below w.heap.size w w2) := Lib.hid (below_call (below_setRow (below_alloc hBw1.out _) (by omega) _) hC2)
  clear hC2
  go_wp2_with (first
    | ((with_reducible refine at_store 8 ?_); refine wpList_store_row rfl 45 _ _ rfl (w2.heap.size) (z12) rfl rfl 45 (z12) (heap_new_at _ _ _ rfl) (infoPt_of (z12) z12_size) (z12_size.trans z12_size.symm) z12_one ?_))
  go_ret2
  exact ⟨rfl, (below_setRow (below_alloc hBw2.out _) (by omega) _)⟩
end

end Go.Proofs.YtcenlinpbpbpoaaDoor
