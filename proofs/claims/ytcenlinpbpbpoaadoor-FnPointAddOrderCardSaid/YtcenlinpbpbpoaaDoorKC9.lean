/- Parts of texts for several laws: Structs of points: sums. Add, Subtract, Negate, Equal. impl's calls on points. The reference's calls on points. -/
import Derived.BigRegion
import Derived.ChangeKeysEq
import Derived.Deep.DeepCutAuto
import Derived.Deep.Draws
import Derived.Deep.Fields
import Derived.Deep.MidRow
import Derived.Deep.Quiet
import Derived.Deep.RegionHeld3
import Derived.Deep.WholeRow
import Derived.Great.BuildSlice
import Derived.LaidMore
import Derived.Laws.AppendOwn
import Derived.Laws.Bits64b
import Derived.Laws.CopyOwn
import Derived.Laws.CopyRow
import Derived.Laws.Externs
import Derived.Laws.StructEq
import Derived.Laws.Tables
import Derived.Lib.Hide
import Derived.LoopTactic
import Derived.OpenShut
import Derived.ProofKit
import Derived.StillTailTactics
import Derived.Stop.Joined
import Derived.Test.YtcenlinpbpbpoaaDoorProg
import Derived.WalkKit
import Derived.WalkLawsBesides
import Derived.WalkSpells
import Derived.WideKeyArgs
import Derived.Test.YtcenlinpbpbpoaaDoorKC0
import Derived.Test.YtcenlinpbpbpoaaDoorKC1
import Derived.Test.YtcenlinpbpbpoaaDoorKC2
import Derived.Test.YtcenlinpbpbpoaaDoorKC3
import Derived.Test.YtcenlinpbpbpoaaDoorKC4
import Derived.Test.YtcenlinpbpbpoaaDoorKC5
import Derived.Test.YtcenlinpbpbpoaaDoorKC8
import Derived.Test.YtcenlinpbpbpoaaDoorKHF1
import Derived.Test.YtcenlinpbpbpoaaDoorKHF3
import Derived.Test.YtcenlinpbpbpoaaDoorKHGr
import Derived.Test.YtcenlinpbpbpoaaDoorKHPI
import Derived.Test.YtcenlinpbpbpoaaDoorKHPO
import Derived.Test.YtcenlinpbpbpoaaDoorKHPP
import Derived.Test.YtcenlinpbpbpoaaDoorKHPS
import Derived.Test.YtcenlinpbpbpoaaDoorKHS8
import Derived.Test.YtcenlinpbpbpoaaDoorKHSQ
import Derived.Test.YtcenlinpbpbpoaaDoorKHSQB
import Derived.Test.YtcenlinpbpbpoaaDoorKHSQN
import Derived.Test.YtcenlinpbpbpoaaDoorKHSRD
import Derived.Test.YtcenlinpbpbpoaaDoorKHU1
import Derived.Test.YtcenlinpbpbpoaaDoorKHUM
import Derived.Test.YtcenlinpbpbpoaaDoorKHUN
import Derived.Test.YtcenlinpbpbpoaaDoorKHUS
import Derived.Test.YtcenlinpbpbpoaaDoorKHUSR
import Derived.Test.YtcenlinpbpbpoaaDoorKHUSe
import Derived.Test.YtcenlinpbpbpoaaDoorKL0
import Derived.Test.YtcenlinpbpbpoaaDoorKL1
import Derived.Test.YtcenlinpbpbpoaaDoorKL2
import Derived.Test.YtcenlinpbpbpoaaDoorKL3
import Derived.Test.YtcenlinpbpbpoaaDoorKL4
namespace Go.Proofs.YtcenlinpbpbpoaaDoor
set_option maxRecDepth 4000
set_option linter.unusedSimpArgs false
set_option linter.unusedVariables false
section
open Go.RowKit
set_option maxHeartbeats 4000000 in
theorem p1p1_add (vb vo pb po kb ko v0 v1 v2 v3 : Nat) (X Y Z T A C Z2 D : Fp) (p q : CP) (hP : Rq p X Y Z T) (hK : Rk q A C Z2 D) (dpb : pb ≠ vb) (dkb : kb ≠ vb) (w : World) (hv0 : Fe w vb (vo) v0) (hv1 : Fe w vb (vo + 5) v1) (hv2 : Fe w vb (vo + 10) v2) (hv3 : Fe w vb (vo + 15) v3) (hp0 : Fe w pb (po) X.val) (hp1 : Fe w pb (po + 5) Y.val) (hp2 : Fe w pb (po + 10) Z.val) (hp3 : Fe w pb (po + 15) T.val) (hk0 : Fe w kb (ko) A.val) (hk1 : Fe w kb (ko + 5) C.val) (hk2 : Fe w kb (ko + 10) Z2.val) (hk3 : Fe w kb (ko + 15) D.val) :
    Calls Tryd.prog 74 #[.pointer (some ⟨vb, vo, none⟩), .pointer (some ⟨pb, po, none⟩), .pointer (some ⟨kb, ko, none⟩)] w fun e w' => e = .returned (.pointer (some ⟨vb, vo, none⟩)) ∧ Fr vb w w' ∧ ∃ r0 r1 r2 r3 : Fp, Rc (p.add q) r0 r1 r2 r3 ∧ Fe w' vb (vo) r0.val ∧ Fe w' vb (vo + 5) r1.val ∧ Fe w' vb (vo + 10) r2.val ∧ Fe w' vb (vo + 15) r3.val := by
  have hvl := hv0.lt
  have hlhp := hp0.lt
  have hlhk := hk0.lt
  go_enter Tryd.func74, Tryd.ntmps74
  go_wp2_with fail
  try simp only [Act.put]
  refine wp_named ?_
  intro w1 ew1
  have hs1 : w.heap.size + 1 + 1 + 1 + 1 + 1 + 1 ≤ w1.heap.size := by rw [ew1]; (try simp only [alloc_size, setRow_size]); omega
  replace hp0 : Fe w1 (pb) (po) (X.val) := by rw [ew1]; exact (Fe.alloc (Fe.alloc (Fe.alloc (Fe.alloc (Fe.alloc (Fe.alloc hp0 _) _) _) _) _) _)
  replace hp1 : Fe w1 (pb) (po + 5) (Y.val) := by rw [ew1]; exact (Fe.alloc (Fe.alloc (Fe.alloc (Fe.alloc (Fe.alloc (Fe.alloc hp1 _) _) _) _) _) _)
  replace hp2 : Fe w1 (pb) (po + 10) (Z.val) := by rw [ew1]; exact (Fe.alloc (Fe.alloc (Fe.alloc (Fe.alloc (Fe.alloc (Fe.alloc hp2 _) _) _) _) _) _)
  replace hp3 : Fe w1 (pb) (po + 15) (T.val) := by rw [ew1]; exact (Fe.alloc (Fe.alloc (Fe.alloc (Fe.alloc (Fe.alloc (Fe.alloc hp3 _) _) _) _) _) _)
  replace hk0 : Fe w1 (kb) (ko) (A.val) := by rw [ew1]; exact (Fe.alloc (Fe.alloc (Fe.alloc (Fe.alloc (Fe.alloc (Fe.alloc hk0 _) _) _) _) _) _)
  replace hk1 : Fe w1 (kb) (ko + 5) (C.val) := by rw [ew1]; exact (Fe.alloc (Fe.alloc (Fe.alloc (Fe.alloc (Fe.alloc (Fe.alloc hk1 _) _) _) _) _) _)
  replace hk2 : Fe w1 (kb) (ko + 10) (Z2.val) := by rw [ew1]; exact (Fe.alloc (Fe.alloc (Fe.alloc (Fe.alloc (Fe.alloc (Fe.alloc hk2 _) _) _) _) _) _)
  replace hk3 : Fe w1 (kb) (ko + 15) (D.val) := by rw [ew1]; exact (Fe.alloc (Fe.alloc (Fe.alloc (Fe.alloc (Fe.alloc (Fe.alloc hk3 _) _) _) _) _) _)
  replace hv0 : Fe w1 (vb) (vo) (v0) := by rw [ew1]; exact (Fe.alloc (Fe.alloc (Fe.alloc (Fe.alloc (Fe.alloc (Fe.alloc hv0 _) _) _) _) _) _)
  replace hv1 : Fe w1 (vb) (vo + 5) (v1) := by rw [ew1]; exact (Fe.alloc (Fe.alloc (Fe.alloc (Fe.alloc (Fe.alloc (Fe.alloc hv1 _) _) _) _) _) _)
  replace hv2 : Fe w1 (vb) (vo + 10) (v2) := by rw [ew1]; exact (Fe.alloc (Fe.alloc (Fe.alloc (Fe.alloc (Fe.alloc (Fe.alloc hv2 _) _) _) _) _) _)
  replace hv3 : Fe w1 (vb) (vo + 15) (v3) := by rw [ew1]; exact (Fe.alloc (Fe.alloc (Fe.alloc (Fe.alloc (Fe.alloc (Fe.alloc hv3 _) _) _) _) _) _)
  replace h7 : Fe w1 (w.heap.size) (0) (0) := by rw [ew1]; exact (Fe.alloc (Fe.alloc (Fe.alloc (Fe.alloc (Fe.alloc (Fe.newz_at _ _ rfl) _) _) _) _) _)
  replace h8 : Fe w1 (w.heap.size + 1) (0) (0) := by rw [ew1]; exact (Fe.alloc (Fe.alloc (Fe.alloc (Fe.alloc (Fe.newz_at _ _ (by (try simp only [alloc_size, setRow_size]))) _) _) _) _)
  replace h9 : Fe w1 (w.heap.size + 1 + 1) (0) (0) := by rw [ew1]; exact (Fe.alloc (Fe.alloc (Fe.alloc (Fe.newz_at _ _ (by (try simp only [alloc_size, setRow_size]))) _) _) _)
  replace h10 : Fe w1 (w.heap.size + 1 + 1 + 1) (0) (0) := by rw [ew1]; exact (Fe.alloc (Fe.alloc (Fe.newz_at _ _ (by (try simp only [alloc_size, setRow_size]))) _) _)
  replace h11 : Fe w1 (w.heap.size + 1 + 1 + 1 + 1) (0) (0) := by rw [ew1]; exact (Fe.alloc (Fe.newz_at _ _ (by (try simp only [alloc_size, setRow_size]))) _)
  replace h12 : Fe w1 (w.heap.size + 1 + 1 + 1 + 1 + 1) (0) (0) := by rw [ew1]; exact (Fe.newz_at _ _ (by (try simp only [alloc_size, setRow_size])))
  have hBw1 : Hid (Fr (vb) w w1) := Lib.hid (by rw [ew1]; exact (Fr.alloc (Fr.alloc (Fr.alloc (Fr.alloc (Fr.alloc (Fr.alloc (Fr.refl _ w) _) _) _) _) _) _))
  clear ew1
  obtain ⟨R1, qR1⟩ : ∃ uu : Fp, uu = Y + X := ⟨_, rfl⟩
  have HR1 := Lib.hid qR1; clear qR1
  refine wp_region_noPanic ?_
  refine wp_region_held_drew (S := Keep (w.heap.size) w1) (by kernel_rfl) (Keep.start _ _) ?_
  intro hS
  obtain ⟨w2, ed⟩ : ∃ u : World, u = w1.drew := ⟨_, rfl⟩
  rw [← ed] at hS ⊢
  have xhp0 : Fe w2 (pb) (po) (X.val) := by rw [ed]; exact hp0
  have xhp1 : Fe w2 (pb) (po + 5) (Y.val) := by rw [ed]; exact hp1
  have xhp2 : Fe w2 (pb) (po + 10) (Z.val) := by rw [ed]; exact hp2
  have xhp3 : Fe w2 (pb) (po + 15) (T.val) := by rw [ed]; exact hp3
  have xhk0 : Fe w2 (kb) (ko) (A.val) := by rw [ed]; exact hk0
  have xhk1 : Fe w2 (kb) (ko + 5) (C.val) := by rw [ed]; exact hk1
  have xhk2 : Fe w2 (kb) (ko + 10) (Z2.val) := by rw [ed]; exact hk2
  have xhk3 : Fe w2 (kb) (ko + 15) (D.val) := by rw [ed]; exact hk3
  have xhv0 : Fe w2 (vb) (vo) (v0) := by rw [ed]; exact hv0
  have xhv1 : Fe w2 (vb) (vo + 5) (v1) := by rw [ed]; exact hv1
  have xhv2 : Fe w2 (vb) (vo + 10) (v2) := by rw [ed]; exact hv2
  have xhv3 : Fe w2 (vb) (vo + 15) (v3) := by rw [ed]; exact hv3
  have xh7 : Fe w2 (w.heap.size) (0) (0) := by rw [ed]; exact h7
  have xh8 : Fe w2 (w.heap.size + 1) (0) (0) := by rw [ed]; exact h8
  have xh9 : Fe w2 (w.heap.size + 1 + 1) (0) (0) := by rw [ed]; exact h9
  have xh10 : Fe w2 (w.heap.size + 1 + 1 + 1) (0) (0) := by rw [ed]; exact h10
  have xh11 : Fe w2 (w.heap.size + 1 + 1 + 1 + 1) (0) (0) := by rw [ed]; exact h11
  have xh12 : Fe w2 (w.heap.size + 1 + 1 + 1 + 1 + 1) (0) (0) := by rw [ed]; exact h12
  clear ed
  have hSz := hS.size
  refine takeAtK (i := 0) (v := .pointer (some ⟨pb, po, none⟩)) rfl (some 13) rfl (take_run rfl (fun _ _ => by go_simp)) hS ?_
  simp only [Act.put, sia, sc0, scs]
  refine takeAtK (i := 1) (v := .pointer (some ⟨pb, po, none⟩)) rfl (some 14) rfl (take_run rfl (fun _ _ => by go_simp)) hS ?_
  simp only [Act.put, sia, sc0, scs]
  refine takeAtK (i := 2) (v := .pointer (some ⟨pb, po + 5, none⟩)) rfl (some 15) rfl (take_run rfl (fun _ _ => by go_simp)) hS ?_
  simp only [Act.put, sia, sc0, scs]
  refine takeAtK (i := 3) (v := .pointer (some ⟨pb, po, none⟩)) rfl (some 16) rfl (take_run rfl (fun _ _ => by go_simp)) hS ?_
  simp only [Act.put, sia, sc0, scs]
  refine takeAtK (i := 4) (v := .pointer (some ⟨pb, po, none⟩)) rfl (some 17) rfl (take_run rfl (fun _ _ => by go_simp)) hS ?_
  simp only [Act.put, sia, sc0, scs]
  refine takeAtK (i := 5) (v := .pointer (some ⟨pb, po, none⟩)) rfl (some 18) rfl (take_run rfl (fun _ _ => by go_simp)) hS ?_
  simp only [Act.put, sia, sc0, scs]
  refine wpAnyH_ready (rs := [6]) (by kernel_rfl) (by simp) ?_
  refine (AllReadyH.cons rfl ?_ AllReadyH.nil)
  intro K hK
  refine ready_call rfl (some 19) rfl 60 #[.pointer (some ⟨w.heap.size, 0, none⟩), .pointer (some ⟨pb, po + 5, none⟩), .pointer (some ⟨pb, po, none⟩)] (by go_simp) ?_
  refine (add_ff (w.heap.size) (0) (pb) (po + 5) (pb) (po) _ _ _ _ xh7 xhp1 xhp0 (apart_blk _ _ _ _ (by omega)) (apart_blk _ _ _ _ (by omega)) R1 HR1).mono ?_
  rintro e w3 ⟨rfl, hC⟩
  refine ⟨_, rfl, ?_⟩
  simp only [Act.put, sia, sc0, scs]
  have hz3 := hC.size
  have xhp0 : Fe w3 (pb) (po) (X.val) := (Sets.others hC xhp0 (by omega))
  have xhp1 : Fe w3 (pb) (po + 5) (Y.val) := (Sets.others hC xhp1 (by omega))
  have xhp2 : Fe w3 (pb) (po + 10) (Z.val) := (Sets.others hC xhp2 (by omega))
  have xhp3 : Fe w3 (pb) (po + 15) (T.val) := (Sets.others hC xhp3 (by omega))
  have xhk0 : Fe w3 (kb) (ko) (A.val) := (Sets.others hC xhk0 (by omega))
  have xhk1 : Fe w3 (kb) (ko + 5) (C.val) := (Sets.others hC xhk1 (by omega))
  have xhk2 : Fe w3 (kb) (ko + 10) (Z2.val) := (Sets.others hC xhk2 (by omega))
  have xhk3 : Fe w3 (kb) (ko + 15) (D.val) := (Sets.others hC xhk3 (by omega))
  have xhv0 : Fe w3 (vb) (vo) (v0) := (Sets.others hC xhv0 (by omega))
  have xhv1 : Fe w3 (vb) (vo + 5) (v1) := (Sets.others hC xhv1 (by omega))
  have xhv2 : Fe w3 (vb) (vo + 10) (v2) := (Sets.others hC xhv2 (by omega))
  have xhv3 : Fe w3 (vb) (vo + 15) (v3) := (Sets.others hC xhv3 (by omega))
  have xh7 : Fe w3 (w.heap.size) (0) (R1.val) := (Sets.fe' hC xh7)
  have xh8 : Fe w3 (w.heap.size + 1) (0) (0) := (Sets.others hC xh8 (by omega))
  have xh9 : Fe w3 (w.heap.size + 1 + 1) (0) (0) := (Sets.others hC xh9 (by omega))
  have xh10 : Fe w3 (w.heap.size + 1 + 1 + 1) (0) (0) := (Sets.others hC xh10 (by omega))
  have xh11 : Fe w3 (w.heap.size + 1 + 1 + 1 + 1) (0) (0) := (Sets.others hC xh11 (by omega))
  have xh12 : Fe w3 (w.heap.size + 1 + 1 + 1 + 1 + 1) (0) (0) := (Sets.others hC xh12 (by omega))
  have hS := hS.setsR hC
  clear hC
  refine hK.out _ _ hS ?_
  clear hK K
  intro _
  have hSz := hS.size
  refine wpAnyH_done (by kernel_rfl) ?_ _
  refine NoPanic.normal ?_
  have hsz := hS.size
  have hp0 := xhp0
  have hp1 := xhp1
  have hp2 := xhp2
  have hp3 := xhp3
  have hk0 := xhk0
  have hk1 := xhk1
  have hk2 := xhk2
  have hk3 := xhk3
  have hv0 := xhv0
  have hv1 := xhv1
  have hv2 := xhv2
  have hv3 := xhv3
  have h7 := xh7
  have h8 := xh8
  have h9 := xh9
  have h10 := xh10
  have h11 := xh11
  have h12 := xh12
  have hBw3 : Hid (Fr (vb) w w3) := Lib.hid (Fr.keep hBw1.out hS (by first | exact Or.inl rfl | exact Or.inr (by omega)))
  clear hS
  go_wp2_with fail
  try simp only [Act.put]
  refine wp_named ?_
  intro w5 ew5
  have hs5 : w3.heap.size ≤ w5.heap.size := by rw [ew5]; (try simp only [alloc_size, setRow_size]); omega
  replace hp0 : Fe w5 (pb) (po) (X.val) := by rw [ew5]; exact hp0
  replace hp1 : Fe w5 (pb) (po + 5) (Y.val) := by rw [ew5]; exact hp1
  replace hp2 : Fe w5 (pb) (po + 10) (Z.val) := by rw [ew5]; exact hp2
  replace hp3 : Fe w5 (pb) (po + 15) (T.val) := by rw [ew5]; exact hp3
  replace hk0 : Fe w5 (kb) (ko) (A.val) := by rw [ew5]; exact hk0
  replace hk1 : Fe w5 (kb) (ko + 5) (C.val) := by rw [ew5]; exact hk1
  replace hk2 : Fe w5 (kb) (ko + 10) (Z2.val) := by rw [ew5]; exact hk2
  replace hk3 : Fe w5 (kb) (ko + 15) (D.val) := by rw [ew5]; exact hk3
  replace hv0 : Fe w5 (vb) (vo) (v0) := by rw [ew5]; exact hv0
  replace hv1 : Fe w5 (vb) (vo + 5) (v1) := by rw [ew5]; exact hv1
  replace hv2 : Fe w5 (vb) (vo + 10) (v2) := by rw [ew5]; exact hv2
  replace hv3 : Fe w5 (vb) (vo + 15) (v3) := by rw [ew5]; exact hv3
  replace h7 : Fe w5 (w.heap.size) (0) (R1.val) := by rw [ew5]; exact h7
  replace h8 : Fe w5 (w.heap.size + 1) (0) (0) := by rw [ew5]; exact h8
  replace h9 : Fe w5 (w.heap.size + 1 + 1) (0) (0) := by rw [ew5]; exact h9
  replace h10 : Fe w5 (w.heap.size + 1 + 1 + 1) (0) (0) := by rw [ew5]; exact h10
  replace h11 : Fe w5 (w.heap.size + 1 + 1 + 1 + 1) (0) (0) := by rw [ew5]; exact h11
  replace h12 : Fe w5 (w.heap.size + 1 + 1 + 1 + 1 + 1) (0) (0) := by rw [ew5]; exact h12
  have hBw5 : Hid (Fr (vb) w w5) := Lib.hid (by rw [ew5]; exact hBw3.out)
  clear ew5
  obtain ⟨R2, qR2⟩ : ∃ uu : Fp, uu = Y - X := ⟨_, rfl⟩
  have HR2 := Lib.hid qR2; clear qR2
  refine wp_region_noPanic ?_
  refine wp_region_held_drew (S := Keep (w.heap.size + 1) w5) (by kernel_rfl) (Keep.start _ _) ?_
  intro hS
  obtain ⟨w6, ed⟩ : ∃ u : World, u = w5.drew := ⟨_, rfl⟩
  rw [← ed] at hS ⊢
  have xhp0 : Fe w6 (pb) (po) (X.val) := by rw [ed]; exact hp0
  have xhp1 : Fe w6 (pb) (po + 5) (Y.val) := by rw [ed]; exact hp1
  have xhp2 : Fe w6 (pb) (po + 10) (Z.val) := by rw [ed]; exact hp2
  have xhp3 : Fe w6 (pb) (po + 15) (T.val) := by rw [ed]; exact hp3
  have xhk0 : Fe w6 (kb) (ko) (A.val) := by rw [ed]; exact hk0
  have xhk1 : Fe w6 (kb) (ko + 5) (C.val) := by rw [ed]; exact hk1
  have xhk2 : Fe w6 (kb) (ko + 10) (Z2.val) := by rw [ed]; exact hk2
  have xhk3 : Fe w6 (kb) (ko + 15) (D.val) := by rw [ed]; exact hk3
  have xhv0 : Fe w6 (vb) (vo) (v0) := by rw [ed]; exact hv0
  have xhv1 : Fe w6 (vb) (vo + 5) (v1) := by rw [ed]; exact hv1
  have xhv2 : Fe w6 (vb) (vo + 10) (v2) := by rw [ed]; exact hv2
  have xhv3 : Fe w6 (vb) (vo + 15) (v3) := by rw [ed]; exact hv3
  have xh7 : Fe w6 (w.heap.size) (0) (R1.val) := by rw [ed]; exact h7
  have xh8 : Fe w6 (w.heap.size + 1) (0) (0) := by rw [ed]; exact h8
  have xh9 : Fe w6 (w.heap.size + 1 + 1) (0) (0) := by rw [ed]; exact h9
  have xh10 : Fe w6 (w.heap.size + 1 + 1 + 1) (0) (0) := by rw [ed]; exact h10
  have xh11 : Fe w6 (w.heap.size + 1 + 1 + 1 + 1) (0) (0) := by rw [ed]; exact h11
  have xh12 : Fe w6 (w.heap.size + 1 + 1 + 1 + 1 + 1) (0) (0) := by rw [ed]; exact h12
  clear ed
  have hSz := hS.size
  refine takeAtK (i := 0) (v := .pointer (some ⟨pb, po, none⟩)) rfl (some 20) rfl (take_run rfl (fun _ _ => by go_simp)) hS ?_
  simp only [Act.put, sia, sc0, scs]
  refine takeAtK (i := 1) (v := .pointer (some ⟨pb, po, none⟩)) rfl (some 21) rfl (take_run rfl (fun _ _ => by go_simp)) hS ?_
  simp only [Act.put, sia, sc0, scs]
  refine takeAtK (i := 2) (v := .pointer (some ⟨pb, po + 5, none⟩)) rfl (some 22) rfl (take_run rfl (fun _ _ => by go_simp)) hS ?_
  simp only [Act.put, sia, sc0, scs]
  refine takeAtK (i := 3) (v := .pointer (some ⟨pb, po, none⟩)) rfl (some 23) rfl (take_run rfl (fun _ _ => by go_simp)) hS ?_
  simp only [Act.put, sia, sc0, scs]
  refine takeAtK (i := 4) (v := .pointer (some ⟨pb, po, none⟩)) rfl (some 24) rfl (take_run rfl (fun _ _ => by go_simp)) hS ?_
  simp only [Act.put, sia, sc0, scs]
  refine takeAtK (i := 5) (v := .pointer (some ⟨pb, po, none⟩)) rfl (some 25) rfl (take_run rfl (fun _ _ => by go_simp)) hS ?_
  simp only [Act.put, sia, sc0, scs]
  refine wpAnyH_ready (rs := [6]) (by kernel_rfl) (by simp) ?_
  refine (AllReadyH.cons rfl ?_ AllReadyH.nil)
  intro K hK
  refine ready_call rfl (some 26) rfl 57 #[.pointer (some ⟨w.heap.size + 1, 0, none⟩), .pointer (some ⟨pb, po + 5, none⟩), .pointer (some ⟨pb, po, none⟩)] (by go_simp) ?_
  refine (sub_ff (w.heap.size + 1) (0) (pb) (po + 5) (pb) (po) _ _ _ _ xh8 xhp1 xhp0 (apart_blk _ _ _ _ (by omega)) (apart_blk _ _ _ _ (by omega)) R2 HR2).mono ?_
  rintro e w7 ⟨rfl, hC⟩
  refine ⟨_, rfl, ?_⟩
  simp only [Act.put, sia, sc0, scs]
  have hz7 := hC.size
  have xhp0 : Fe w7 (pb) (po) (X.val) := (Sets.others hC xhp0 (by omega))
  have xhp1 : Fe w7 (pb) (po + 5) (Y.val) := (Sets.others hC xhp1 (by omega))
  have xhp2 : Fe w7 (pb) (po + 10) (Z.val) := (Sets.others hC xhp2 (by omega))
  have xhp3 : Fe w7 (pb) (po + 15) (T.val) := (Sets.others hC xhp3 (by omega))
  have xhk0 : Fe w7 (kb) (ko) (A.val) := (Sets.others hC xhk0 (by omega))
  have xhk1 : Fe w7 (kb) (ko + 5) (C.val) := (Sets.others hC xhk1 (by omega))
  have xhk2 : Fe w7 (kb) (ko + 10) (Z2.val) := (Sets.others hC xhk2 (by omega))
  have xhk3 : Fe w7 (kb) (ko + 15) (D.val) := (Sets.others hC xhk3 (by omega))
  have xhv0 : Fe w7 (vb) (vo) (v0) := (Sets.others hC xhv0 (by omega))
  have xhv1 : Fe w7 (vb) (vo + 5) (v1) := (Sets.others hC xhv1 (by omega))
  have xhv2 : Fe w7 (vb) (vo + 10) (v2) := (Sets.others hC xhv2 (by omega))
  have xhv3 : Fe w7 (vb) (vo + 15) (v3) := (Sets.others hC xhv3 (by omega))
  have xh7 : Fe w7 (w.heap.size) (0) (R1.val) := (Sets.others hC xh7 (by omega))
  have xh8 : Fe w7 (w.heap.size + 1) (0) (R2.val) := (Sets.fe' hC xh8)
  have xh9 : Fe w7 (w.heap.size + 1 + 1) (0) (0) := (Sets.others hC xh9 (by omega))
  have xh10 : Fe w7 (w.heap.size + 1 + 1 + 1) (0) (0) := (Sets.others hC xh10 (by omega))
  have xh11 : Fe w7 (w.heap.size + 1 + 1 + 1 + 1) (0) (0) := (Sets.others hC xh11 (by omega))
  have xh12 : Fe w7 (w.heap.size + 1 + 1 + 1 + 1 + 1) (0) (0) := (Sets.others hC xh12 (by omega))
  have hS := hS.setsR hC
  clear hC
  refine hK.out _ _ hS ?_
  clear hK K
  intro _
  have hSz := hS.size
  refine wpAnyH_done (by kernel_rfl) ?_ _
  refine NoPanic.normal ?_
  have hsz := hS.size
  have hp0 := xhp0
  have hp1 := xhp1
  have hp2 := xhp2
  have hp3 := xhp3
  have hk0 := xhk0
  have hk1 := xhk1
  have hk2 := xhk2
  have hk3 := xhk3
  have hv0 := xhv0
  have hv1 := xhv1
  have hv2 := xhv2
  have hv3 := xhv3
  have h7 := xh7
  have h8 := xh8
  have h9 := xh9
  have h10 := xh10
  have h11 := xh11
  have h12 := xh12
  have hBw7 : Hid (Fr (vb) w w7) := Lib.hid (Fr.keep hBw5.out hS (by first | exact Or.inl rfl | exact Or.inr (by omega)))
  clear hS
  go_wp2_with fail
  obtain ⟨R3, qR3⟩ : ∃ uu : Fp, uu = R1 * A := ⟨_, rfl⟩
  have HR3 := Lib.hid qR3; clear qR3
  refine (mul_ff (w.heap.size + 1 + 1) (0) (w.heap.size) (0) (kb) (ko) _ _ _ _ h9 h7 hk0 R3 HR3).mono ?_
  rintro e w9 ⟨rfl, hC9⟩
  have hs9 : w7.heap.size ≤ w9.heap.size := by have := hC9.size; (try simp only [alloc_size, setRow_size] at this); omega
  replace hp0 : Fe w9 (pb) (po) (X.val) := (Sets.others hC9 hp0 (by omega))
  replace hp1 : Fe w9 (pb) (po + 5) (Y.val) := (Sets.others hC9 hp1 (by omega))
  replace hp2 : Fe w9 (pb) (po + 10) (Z.val) := (Sets.others hC9 hp2 (by omega))
  replace hp3 : Fe w9 (pb) (po + 15) (T.val) := (Sets.others hC9 hp3 (by omega))
  replace hk0 : Fe w9 (kb) (ko) (A.val) := (Sets.others hC9 hk0 (by omega))
  replace hk1 : Fe w9 (kb) (ko + 5) (C.val) := (Sets.others hC9 hk1 (by omega))
  replace hk2 : Fe w9 (kb) (ko + 10) (Z2.val) := (Sets.others hC9 hk2 (by omega))
  replace hk3 : Fe w9 (kb) (ko + 15) (D.val) := (Sets.others hC9 hk3 (by omega))
  replace hv0 : Fe w9 (vb) (vo) (v0) := (Sets.others hC9 hv0 (by omega))
  replace hv1 : Fe w9 (vb) (vo + 5) (v1) := (Sets.others hC9 hv1 (by omega))
  replace hv2 : Fe w9 (vb) (vo + 10) (v2) := (Sets.others hC9 hv2 (by omega))
  replace hv3 : Fe w9 (vb) (vo + 15) (v3) := (Sets.others hC9 hv3 (by omega))
  replace h7 : Fe w9 (w.heap.size) (0) (R1.val) := (Sets.others hC9 h7 (by omega))
  replace h8 : Fe w9 (w.heap.size + 1) (0) (R2.val) := (Sets.others hC9 h8 (by omega))
  replace h10 : Fe w9 (w.heap.size + 1 + 1 + 1) (0) (0) := (Sets.others hC9 h10 (by omega))
  replace h11 : Fe w9 (w.heap.size + 1 + 1 + 1 + 1) (0) (0) := (Sets.others hC9 h11 (by omega))
  replace h12 : Fe w9 (w.heap.size + 1 + 1 + 1 + 1 + 1) (0) (0) := (Sets.others hC9 h12 (by omega))
  replace h9 : Fe w9 (w.heap.size + 1 + 1) (0) (R3.val) := (Sets.fe' hC9 h9)
  have hBw9 : Hid (Fr (vb) w w9) := Lib.hid (Fr.sets hBw7.out hC9 (by omega))
  clear hC9
  go_wp2_with fail
  obtain ⟨R4, qR4⟩ : ∃ uu : Fp, uu = R2 * C := ⟨_, rfl⟩
  have HR4 := Lib.hid qR4; clear qR4
  refine (mul_ff (w.heap.size + 1 + 1 + 1) (0) (w.heap.size + 1) (0) (kb) (ko + 5) _ _ _ _ h10 h8 hk1 R4 HR4).mono ?_
  rintro e w10 ⟨rfl, hC10⟩
  have hs10 : w9.heap.size ≤ w10.heap.size := by have := hC10.size; (try simp only [alloc_size, setRow_size] at this); omega
  replace hp0 : Fe w10 (pb) (po) (X.val) := (Sets.others hC10 hp0 (by omega))
  replace hp1 : Fe w10 (pb) (po + 5) (Y.val) := (Sets.others hC10 hp1 (by omega))
  replace hp2 : Fe w10 (pb) (po + 10) (Z.val) := (Sets.others hC10 hp2 (by omega))
  replace hp3 : Fe w10 (pb) (po + 15) (T.val) := (Sets.others hC10 hp3 (by omega))
  replace hk0 : Fe w10 (kb) (ko) (A.val) := (Sets.others hC10 hk0 (by omega))
  replace hk1 : Fe w10 (kb) (ko + 5) (C.val) := (Sets.others hC10 hk1 (by omega))
  replace hk2 : Fe w10 (kb) (ko + 10) (Z2.val) := (Sets.others hC10 hk2 (by omega))
  replace hk3 : Fe w10 (kb) (ko + 15) (D.val) := (Sets.others hC10 hk3 (by omega))
  replace hv0 : Fe w10 (vb) (vo) (v0) := (Sets.others hC10 hv0 (by omega))
  replace hv1 : Fe w10 (vb) (vo + 5) (v1) := (Sets.others hC10 hv1 (by omega))
  replace hv2 : Fe w10 (vb) (vo + 10) (v2) := (Sets.others hC10 hv2 (by omega))
  replace hv3 : Fe w10 (vb) (vo + 15) (v3) := (Sets.others hC10 hv3 (by omega))
  replace h7 : Fe w10 (w.heap.size) (0) (R1.val) := (Sets.others hC10 h7 (by omega))
  replace h8 : Fe w10 (w.heap.size + 1) (0) (R2.val) := (Sets.others hC10 h8 (by omega))
  replace h11 : Fe w10 (w.heap.size + 1 + 1 + 1 + 1) (0) (0) := (Sets.others hC10 h11 (by omega))
  replace h12 : Fe w10 (w.heap.size + 1 + 1 + 1 + 1 + 1) (0) (0) := (Sets.others hC10 h12 (by omega))
  replace h9 : Fe w10 (w.heap.size + 1 + 1) (0) (R3.val) := (Sets.others hC10 h9 (by omega))
  replace h10 : Fe w10 (w.heap.size + 1 + 1 + 1) (0) (R4.val) := (Sets.fe' hC10 h10)
  have hBw10 : Hid (Fr (vb) w w10) := Lib.hid (Fr.sets hBw9.out hC10 (by omega))
  clear hC10
  go_wp2_with fail
  try simp only [Act.put]
  refine wp_named ?_
  intro w11 ew11
  have hs11 : w10.heap.size ≤ w11.heap.size := by rw [ew11]; (try simp only [alloc_size, setRow_size]); omega
  replace hp0 : Fe w11 (pb) (po) (X.val) := by rw [ew11]; exact hp0
  replace hp1 : Fe w11 (pb) (po + 5) (Y.val) := by rw [ew11]; exact hp1
  replace hp2 : Fe w11 (pb) (po + 10) (Z.val) := by rw [ew11]; exact hp2
  replace hp3 : Fe w11 (pb) (po + 15) (T.val) := by rw [ew11]; exact hp3
  replace hk0 : Fe w11 (kb) (ko) (A.val) := by rw [ew11]; exact hk0
  replace hk1 : Fe w11 (kb) (ko + 5) (C.val) := by rw [ew11]; exact hk1
  replace hk2 : Fe w11 (kb) (ko + 10) (Z2.val) := by rw [ew11]; exact hk2
  replace hk3 : Fe w11 (kb) (ko + 15) (D.val) := by rw [ew11]; exact hk3
  replace hv0 : Fe w11 (vb) (vo) (v0) := by rw [ew11]; exact hv0
  replace hv1 : Fe w11 (vb) (vo + 5) (v1) := by rw [ew11]; exact hv1
  replace hv2 : Fe w11 (vb) (vo + 10) (v2) := by rw [ew11]; exact hv2
  replace hv3 : Fe w11 (vb) (vo + 15) (v3) := by rw [ew11]; exact hv3
  replace h7 : Fe w11 (w.heap.size) (0) (R1.val) := by rw [ew11]; exact h7
  replace h8 : Fe w11 (w.heap.size + 1) (0) (R2.val) := by rw [ew11]; exact h8
  replace h11 : Fe w11 (w.heap.size + 1 + 1 + 1 + 1) (0) (0) := by rw [ew11]; exact h11
  replace h12 : Fe w11 (w.heap.size + 1 + 1 + 1 + 1 + 1) (0) (0) := by rw [ew11]; exact h12
  replace h9 : Fe w11 (w.heap.size + 1 + 1) (0) (R3.val) := by rw [ew11]; exact h9
  replace h10 : Fe w11 (w.heap.size + 1 + 1 + 1) (0) (R4.val) := by rw [ew11]; exact h10
  have hBw11 : Hid (Fr (vb) w w11) := Lib.hid (by rw [ew11]; exact hBw10.out)
  clear ew11
  obtain ⟨R5, qR5⟩ : ∃ uu : Fp, uu = T * D := ⟨_, rfl⟩
  have HR5 := Lib.hid qR5; clear qR5
  refine wp_region_noPanic ?_
  refine wp_region_held_drew (S := Keep (w.heap.size + 1 + 1 + 1 + 1) w11) (by kernel_rfl) (Keep.start _ _) ?_
  intro hS
  obtain ⟨w12, ed⟩ : ∃ u : World, u = w11.drew := ⟨_, rfl⟩
  rw [← ed] at hS ⊢
  have xhp0 : Fe w12 (pb) (po) (X.val) := by rw [ed]; exact hp0
  have xhp1 : Fe w12 (pb) (po + 5) (Y.val) := by rw [ed]; exact hp1
  have xhp2 : Fe w12 (pb) (po + 10) (Z.val) := by rw [ed]; exact hp2
  have xhp3 : Fe w12 (pb) (po + 15) (T.val) := by rw [ed]; exact hp3
  have xhk0 : Fe w12 (kb) (ko) (A.val) := by rw [ed]; exact hk0
  have xhk1 : Fe w12 (kb) (ko + 5) (C.val) := by rw [ed]; exact hk1
  have xhk2 : Fe w12 (kb) (ko + 10) (Z2.val) := by rw [ed]; exact hk2
  have xhk3 : Fe w12 (kb) (ko + 15) (D.val) := by rw [ed]; exact hk3
  have xhv0 : Fe w12 (vb) (vo) (v0) := by rw [ed]; exact hv0
  have xhv1 : Fe w12 (vb) (vo + 5) (v1) := by rw [ed]; exact hv1
  have xhv2 : Fe w12 (vb) (vo + 10) (v2) := by rw [ed]; exact hv2
  have xhv3 : Fe w12 (vb) (vo + 15) (v3) := by rw [ed]; exact hv3
  have xh7 : Fe w12 (w.heap.size) (0) (R1.val) := by rw [ed]; exact h7
  have xh8 : Fe w12 (w.heap.size + 1) (0) (R2.val) := by rw [ed]; exact h8
  have xh11 : Fe w12 (w.heap.size + 1 + 1 + 1 + 1) (0) (0) := by rw [ed]; exact h11
  have xh12 : Fe w12 (w.heap.size + 1 + 1 + 1 + 1 + 1) (0) (0) := by rw [ed]; exact h12
  have xh9 : Fe w12 (w.heap.size + 1 + 1) (0) (R3.val) := by rw [ed]; exact h9
  have xh10 : Fe w12 (w.heap.size + 1 + 1 + 1) (0) (R4.val) := by rw [ed]; exact h10
  clear ed
  have hSz := hS.size
  refine takeAtK (i := 0) (v := .pointer (some ⟨pb, po, none⟩)) rfl (some 35) rfl (take_run rfl (fun _ _ => by go_simp)) hS ?_
  simp only [Act.put, sia, sc0, scs]
  refine takeAtK (i := 1) (v := .pointer (some ⟨pb, po, none⟩)) rfl (some 36) rfl (take_run rfl (fun _ _ => by go_simp)) hS ?_
  simp only [Act.put, sia, sc0, scs]
  refine takeAtK (i := 2) (v := .pointer (some ⟨pb, po + 15, none⟩)) rfl (some 37) rfl (take_run rfl (fun _ _ => by go_simp)) hS ?_
  simp only [Act.put, sia, sc0, scs]
  refine takeAtK (i := 3) (v := .pointer (some ⟨kb, ko, none⟩)) rfl (some 38) rfl (take_run rfl (fun _ _ => by go_simp)) hS ?_
  simp only [Act.put, sia, sc0, scs]
  refine takeAtK (i := 4) (v := .pointer (some ⟨kb, ko, none⟩)) rfl (some 39) rfl (take_run rfl (fun _ _ => by go_simp)) hS ?_
  simp only [Act.put, sia, sc0, scs]
  refine takeAtK (i := 5) (v := .pointer (some ⟨kb, ko + 15, none⟩)) rfl (some 40) rfl (take_run rfl (fun _ _ => by go_simp)) hS ?_
  simp only [Act.put, sia, sc0, scs]
  refine wpAnyH_ready (rs := [6]) (by kernel_rfl) (by simp) ?_
  refine (AllReadyH.cons rfl ?_ AllReadyH.nil)
  intro K hK
  refine ready_call rfl (some 41) rfl 42 #[.pointer (some ⟨w.heap.size + 1 + 1 + 1 + 1, 0, none⟩), .pointer (some ⟨pb, po + 15, none⟩), .pointer (some ⟨kb, ko + 15, none⟩)] (by go_simp) ?_
  refine (mul_ff (w.heap.size + 1 + 1 + 1 + 1) (0) (pb) (po + 15) (kb) (ko + 15) _ _ _ _ xh11 xhp3 xhk3 R5 HR5).mono ?_
  rintro e w13 ⟨rfl, hC⟩
  refine ⟨_, rfl, ?_⟩
  simp only [Act.put, sia, sc0, scs]
  have hz13 := hC.size
  have xhp0 : Fe w13 (pb) (po) (X.val) := (Sets.others hC xhp0 (by omega))
  have xhp1 : Fe w13 (pb) (po + 5) (Y.val) := (Sets.others hC xhp1 (by omega))
  have xhp2 : Fe w13 (pb) (po + 10) (Z.val) := (Sets.others hC xhp2 (by omega))
  have xhp3 : Fe w13 (pb) (po + 15) (T.val) := (Sets.others hC xhp3 (by omega))
  have xhk0 : Fe w13 (kb) (ko) (A.val) := (Sets.others hC xhk0 (by omega))
  have xhk1 : Fe w13 (kb) (ko + 5) (C.val) := (Sets.others hC xhk1 (by omega))
  have xhk2 : Fe w13 (kb) (ko + 10) (Z2.val) := (Sets.others hC xhk2 (by omega))
  have xhk3 : Fe w13 (kb) (ko + 15) (D.val) := (Sets.others hC xhk3 (by omega))
  have xhv0 : Fe w13 (vb) (vo) (v0) := (Sets.others hC xhv0 (by omega))
  have xhv1 : Fe w13 (vb) (vo + 5) (v1) := (Sets.others hC xhv1 (by omega))
  have xhv2 : Fe w13 (vb) (vo + 10) (v2) := (Sets.others hC xhv2 (by omega))
  have xhv3 : Fe w13 (vb) (vo + 15) (v3) := (Sets.others hC xhv3 (by omega))
  have xh7 : Fe w13 (w.heap.size) (0) (R1.val) := (Sets.others hC xh7 (by omega))
  have xh8 : Fe w13 (w.heap.size + 1) (0) (R2.val) := (Sets.others hC xh8 (by omega))
  have xh11 : Fe w13 (w.heap.size + 1 + 1 + 1 + 1) (0) (R5.val) := (Sets.fe' hC xh11)
  have xh12 : Fe w13 (w.heap.size + 1 + 1 + 1 + 1 + 1) (0) (0) := (Sets.others hC xh12 (by omega))
  have xh9 : Fe w13 (w.heap.size + 1 + 1) (0) (R3.val) := (Sets.others hC xh9 (by omega))
  have xh10 : Fe w13 (w.heap.size + 1 + 1 + 1) (0) (R4.val) := (Sets.others hC xh10 (by omega))
  have hS := hS.setsR hC
  clear hC
  refine hK.out _ _ hS ?_
  clear hK K
  intro _
  have hSz := hS.size
  refine wpAnyH_done (by kernel_rfl) ?_ _
  refine NoPanic.normal ?_
  have hsz := hS.size
  have hp0 := xhp0
  have hp1 := xhp1
  have hp2 := xhp2
  have hp3 := xhp3
  have hk0 := xhk0
  have hk1 := xhk1
  have hk2 := xhk2
  have hk3 := xhk3
  have hv0 := xhv0
  have hv1 := xhv1
  have hv2 := xhv2
  have hv3 := xhv3
  have h7 := xh7
  have h8 := xh8
  have h11 := xh11
  have h12 := xh12
  have h9 := xh9
  have h10 := xh10
  have hBw13 : Hid (Fr (vb) w w13) := Lib.hid (Fr.keep hBw11.out hS (by first | exact Or.inl rfl | exact Or.inr (by omega)))
  clear hS
  go_wp2_with fail
  try simp only [Act.put]
  refine wp_named ?_
  intro w15 ew15
  have hs15 : w13.heap.size ≤ w15.heap.size := by rw [ew15]; (try simp only [alloc_size, setRow_size]); omega
  replace hp0 : Fe w15 (pb) (po) (X.val) := by rw [ew15]; exact hp0
  replace hp1 : Fe w15 (pb) (po + 5) (Y.val) := by rw [ew15]; exact hp1
  replace hp2 : Fe w15 (pb) (po + 10) (Z.val) := by rw [ew15]; exact hp2
  replace hp3 : Fe w15 (pb) (po + 15) (T.val) := by rw [ew15]; exact hp3
  replace hk0 : Fe w15 (kb) (ko) (A.val) := by rw [ew15]; exact hk0
  replace hk1 : Fe w15 (kb) (ko + 5) (C.val) := by rw [ew15]; exact hk1
  replace hk2 : Fe w15 (kb) (ko + 10) (Z2.val) := by rw [ew15]; exact hk2
  replace hk3 : Fe w15 (kb) (ko + 15) (D.val) := by rw [ew15]; exact hk3
  replace hv0 : Fe w15 (vb) (vo) (v0) := by rw [ew15]; exact hv0
  replace hv1 : Fe w15 (vb) (vo + 5) (v1) := by rw [ew15]; exact hv1
  replace hv2 : Fe w15 (vb) (vo + 10) (v2) := by rw [ew15]; exact hv2
  replace hv3 : Fe w15 (vb) (vo + 15) (v3) := by rw [ew15]; exact hv3
  replace h7 : Fe w15 (w.heap.size) (0) (R1.val) := by rw [ew15]; exact h7
  replace h8 : Fe w15 (w.heap.size + 1) (0) (R2.val) := by rw [ew15]; exact h8
  replace h11 : Fe w15 (w.heap.size + 1 + 1 + 1 + 1) (0) (R5.val) := by rw [ew15]; exact h11
  replace h12 : Fe w15 (w.heap.size + 1 + 1 + 1 + 1 + 1) (0) (0) := by rw [ew15]; exact h12
  replace h9 : Fe w15 (w.heap.size + 1 + 1) (0) (R3.val) := by rw [ew15]; exact h9
  replace h10 : Fe w15 (w.heap.size + 1 + 1 + 1) (0) (R4.val) := by rw [ew15]; exact h10
  have hBw15 : Hid (Fr (vb) w w15) := Lib.hid (by rw [ew15]; exact hBw13.out)
  clear ew15
  obtain ⟨R6, qR6⟩ : ∃ uu : Fp, uu = Z * Z2 := ⟨_, rfl⟩
  have HR6 := Lib.hid qR6; clear qR6
  refine wp_region_noPanic ?_
  refine wp_region_held_drew (S := Keep (w.heap.size + 1 + 1 + 1 + 1 + 1) w15) (by kernel_rfl) (Keep.start _ _) ?_
  intro hS
  obtain ⟨w16, ed⟩ : ∃ u : World, u = w15.drew := ⟨_, rfl⟩
  rw [← ed] at hS ⊢
  have xhp0 : Fe w16 (pb) (po) (X.val) := by rw [ed]; exact hp0
  have xhp1 : Fe w16 (pb) (po + 5) (Y.val) := by rw [ed]; exact hp1
  have xhp2 : Fe w16 (pb) (po + 10) (Z.val) := by rw [ed]; exact hp2
  have xhp3 : Fe w16 (pb) (po + 15) (T.val) := by rw [ed]; exact hp3
  have xhk0 : Fe w16 (kb) (ko) (A.val) := by rw [ed]; exact hk0
  have xhk1 : Fe w16 (kb) (ko + 5) (C.val) := by rw [ed]; exact hk1
  have xhk2 : Fe w16 (kb) (ko + 10) (Z2.val) := by rw [ed]; exact hk2
  have xhk3 : Fe w16 (kb) (ko + 15) (D.val) := by rw [ed]; exact hk3
  have xhv0 : Fe w16 (vb) (vo) (v0) := by rw [ed]; exact hv0
  have xhv1 : Fe w16 (vb) (vo + 5) (v1) := by rw [ed]; exact hv1
  have xhv2 : Fe w16 (vb) (vo + 10) (v2) := by rw [ed]; exact hv2
  have xhv3 : Fe w16 (vb) (vo + 15) (v3) := by rw [ed]; exact hv3
  have xh7 : Fe w16 (w.heap.size) (0) (R1.val) := by rw [ed]; exact h7
  have xh8 : Fe w16 (w.heap.size + 1) (0) (R2.val) := by rw [ed]; exact h8
  have xh11 : Fe w16 (w.heap.size + 1 + 1 + 1 + 1) (0) (R5.val) := by rw [ed]; exact h11
  have xh12 : Fe w16 (w.heap.size + 1 + 1 + 1 + 1 + 1) (0) (0) := by rw [ed]; exact h12
  have xh9 : Fe w16 (w.heap.size + 1 + 1) (0) (R3.val) := by rw [ed]; exact h9
  have xh10 : Fe w16 (w.heap.size + 1 + 1 + 1) (0) (R4.val) := by rw [ed]; exact h10
  clear ed
  have hSz := hS.size
  refine takeAtK (i := 0) (v := .pointer (some ⟨pb, po, none⟩)) rfl (some 42) rfl (take_run rfl (fun _ _ => by go_simp)) hS ?_
  simp only [Act.put, sia, sc0, scs]
  refine takeAtK (i := 1) (v := .pointer (some ⟨pb, po, none⟩)) rfl (some 43) rfl (take_run rfl (fun _ _ => by go_simp)) hS ?_
  simp only [Act.put, sia, sc0, scs]
  refine takeAtK (i := 2) (v := .pointer (some ⟨pb, po + 10, none⟩)) rfl (some 44) rfl (take_run rfl (fun _ _ => by go_simp)) hS ?_
  simp only [Act.put, sia, sc0, scs]
  refine takeAtK (i := 3) (v := .pointer (some ⟨kb, ko, none⟩)) rfl (some 45) rfl (take_run rfl (fun _ _ => by go_simp)) hS ?_
  simp only [Act.put, sia, sc0, scs]
  refine takeAtK (i := 4) (v := .pointer (some ⟨kb, ko, none⟩)) rfl (some 46) rfl (take_run rfl (fun _ _ => by go_simp)) hS ?_
  simp only [Act.put, sia, sc0, scs]
  refine takeAtK (i := 5) (v := .pointer (some ⟨kb, ko + 10, none⟩)) rfl (some 47) rfl (take_run rfl (fun _ _ => by go_simp)) hS ?_
  simp only [Act.put, sia, sc0, scs]
  refine wpAnyH_ready (rs := [6]) (by kernel_rfl) (by simp) ?_
  refine (AllReadyH.cons rfl ?_ AllReadyH.nil)
  intro K hK
  refine ready_call rfl (some 48) rfl 42 #[.pointer (some ⟨w.heap.size + 1 + 1 + 1 + 1 + 1, 0, none⟩), .pointer (some ⟨pb, po + 10, none⟩), .pointer (some ⟨kb, ko + 10, none⟩)] (by go_simp) ?_
  refine (mul_ff (w.heap.size + 1 + 1 + 1 + 1 + 1) (0) (pb) (po + 10) (kb) (ko + 10) _ _ _ _ xh12 xhp2 xhk2 R6 HR6).mono ?_
  rintro e w17 ⟨rfl, hC⟩
  refine ⟨_, rfl, ?_⟩
  simp only [Act.put, sia, sc0, scs]
  have hz17 := hC.size
  have xhp0 : Fe w17 (pb) (po) (X.val) := (Sets.others hC xhp0 (by omega))
  have xhp1 : Fe w17 (pb) (po + 5) (Y.val) := (Sets.others hC xhp1 (by omega))
  have xhp2 : Fe w17 (pb) (po + 10) (Z.val) := (Sets.others hC xhp2 (by omega))
  have xhp3 : Fe w17 (pb) (po + 15) (T.val) := (Sets.others hC xhp3 (by omega))
  have xhk0 : Fe w17 (kb) (ko) (A.val) := (Sets.others hC xhk0 (by omega))
  have xhk1 : Fe w17 (kb) (ko + 5) (C.val) := (Sets.others hC xhk1 (by omega))
  have xhk2 : Fe w17 (kb) (ko + 10) (Z2.val) := (Sets.others hC xhk2 (by omega))
  have xhk3 : Fe w17 (kb) (ko + 15) (D.val) := (Sets.others hC xhk3 (by omega))
  have xhv0 : Fe w17 (vb) (vo) (v0) := (Sets.others hC xhv0 (by omega))
  have xhv1 : Fe w17 (vb) (vo + 5) (v1) := (Sets.others hC xhv1 (by omega))
  have xhv2 : Fe w17 (vb) (vo + 10) (v2) := (Sets.others hC xhv2 (by omega))
  have xhv3 : Fe w17 (vb) (vo + 15) (v3) := (Sets.others hC xhv3 (by omega))
  have xh7 : Fe w17 (w.heap.size) (0) (R1.val) := (Sets.others hC xh7 (by omega))
  have xh8 : Fe w17 (w.heap.size + 1) (0) (R2.val) := (Sets.others hC xh8 (by omega))
  have xh11 : Fe w17 (w.heap.size + 1 + 1 + 1 + 1) (0) (R5.val) := (Sets.others hC xh11 (by omega))
  have xh12 : Fe w17 (w.heap.size + 1 + 1 + 1 + 1 + 1) (0) (R6.val) := (Sets.fe' hC xh12)
  have xh9 : Fe w17 (w.heap.size + 1 + 1) (0) (R3.val) := (Sets.others hC xh9 (by omega))
  have xh10 : Fe w17 (w.heap.size + 1 + 1 + 1) (0) (R4.val) := (Sets.others hC xh10 (by omega))
  have hS := hS.setsR hC
  clear hC
  refine hK.out _ _ hS ?_
  clear hK K
  intro _
  have hSz := hS.size
  refine wpAnyH_done (by kernel_rfl) ?_ _
  refine NoPanic.normal ?_
  have hsz := hS.size
  have hp0 := xhp0
  have hp1 := xhp1
  have hp2 := xhp2
  have hp3 := xhp3
  have hk0 := xhk0
  have hk1 := xhk1
  have hk2 := xhk2
  have hk3 := xhk3
  have hv0 := xhv0
  have hv1 := xhv1
  have hv2 := xhv2
  have hv3 := xhv3
  have h7 := xh7
  have h8 := xh8
  have h11 := xh11
  have h12 := xh12
  have h9 := xh9
  have h10 := xh10
  have hBw17 : Hid (Fr (vb) w w17) := Lib.hid (Fr.keep hBw15.out hS (by first | exact Or.inl rfl | exact Or.inr (by omega)))
  clear hS
  go_wp2_with fail
  obtain ⟨R7, qR7⟩ : ∃ uu : Fp, uu = R6 + R6 := ⟨_, rfl⟩
  have HR7 := Lib.hid qR7; clear qR7
  refine (add_ff (w.heap.size + 1 + 1 + 1 + 1 + 1) (0) (w.heap.size + 1 + 1 + 1 + 1 + 1) (0) (w.heap.size + 1 + 1 + 1 + 1 + 1) (0) _ _ _ _ h12 h12 h12 (Or.inl ⟨rfl, rfl⟩) (Or.inl ⟨rfl, rfl⟩) R7 HR7).mono ?_
  rintro e w19 ⟨rfl, hC19⟩
  have hs19 : w17.heap.size ≤ w19.heap.size := by have := hC19.size; (try simp only [alloc_size, setRow_size] at this); omega
  replace hp0 : Fe w19 (pb) (po) (X.val) := (Sets.others hC19 hp0 (by omega))
  replace hp1 : Fe w19 (pb) (po + 5) (Y.val) := (Sets.others hC19 hp1 (by omega))
  replace hp2 : Fe w19 (pb) (po + 10) (Z.val) := (Sets.others hC19 hp2 (by omega))
  replace hp3 : Fe w19 (pb) (po + 15) (T.val) := (Sets.others hC19 hp3 (by omega))
  replace hk0 : Fe w19 (kb) (ko) (A.val) := (Sets.others hC19 hk0 (by omega))
  replace hk1 : Fe w19 (kb) (ko + 5) (C.val) := (Sets.others hC19 hk1 (by omega))
  replace hk2 : Fe w19 (kb) (ko + 10) (Z2.val) := (Sets.others hC19 hk2 (by omega))
  replace hk3 : Fe w19 (kb) (ko + 15) (D.val) := (Sets.others hC19 hk3 (by omega))
  replace hv0 : Fe w19 (vb) (vo) (v0) := (Sets.others hC19 hv0 (by omega))
  replace hv1 : Fe w19 (vb) (vo + 5) (v1) := (Sets.others hC19 hv1 (by omega))
  replace hv2 : Fe w19 (vb) (vo + 10) (v2) := (Sets.others hC19 hv2 (by omega))
  replace hv3 : Fe w19 (vb) (vo + 15) (v3) := (Sets.others hC19 hv3 (by omega))
  replace h7 : Fe w19 (w.heap.size) (0) (R1.val) := (Sets.others hC19 h7 (by omega))
  replace h8 : Fe w19 (w.heap.size + 1) (0) (R2.val) := (Sets.others hC19 h8 (by omega))
  replace h11 : Fe w19 (w.heap.size + 1 + 1 + 1 + 1) (0) (R5.val) := (Sets.others hC19 h11 (by omega))
  replace h9 : Fe w19 (w.heap.size + 1 + 1) (0) (R3.val) := (Sets.others hC19 h9 (by omega))
  replace h10 : Fe w19 (w.heap.size + 1 + 1 + 1) (0) (R4.val) := (Sets.others hC19 h10 (by omega))
  replace h12 : Fe w19 (w.heap.size + 1 + 1 + 1 + 1 + 1) (0) (R7.val) := (Sets.fe' hC19 h12)
  have hBw19 : Hid (Fr (vb) w w19) := Lib.hid (Fr.sets hBw17.out hC19 (by omega))
  clear hC19
  go_wp2_with fail
  obtain ⟨R8, qR8⟩ : ∃ uu : Fp, uu = R3 - R4 := ⟨_, rfl⟩
  have HR8 := Lib.hid qR8; clear qR8
  refine (sub_ff (vb) (vo) (w.heap.size + 1 + 1) (0) (w.heap.size + 1 + 1 + 1) (0) _ _ _ _ hv0 h9 h10 (apart_blk _ _ _ _ (by omega)) (apart_blk _ _ _ _ (by omega)) R8 HR8).mono ?_
  rintro e w20 ⟨rfl, hC20⟩
  have hs20 : w19.heap.size ≤ w20.heap.size := by have := hC20.size; (try simp only [alloc_size, setRow_size] at this); omega
  replace hp0 : Fe w20 (pb) (po) (X.val) := (Sets.others hC20 hp0 (by omega))
  replace hp1 : Fe w20 (pb) (po + 5) (Y.val) := (Sets.others hC20 hp1 (by omega))
  replace hp2 : Fe w20 (pb) (po + 10) (Z.val) := (Sets.others hC20 hp2 (by omega))
  replace hp3 : Fe w20 (pb) (po + 15) (T.val) := (Sets.others hC20 hp3 (by omega))
  replace hk0 : Fe w20 (kb) (ko) (A.val) := (Sets.others hC20 hk0 (by omega))
  replace hk1 : Fe w20 (kb) (ko + 5) (C.val) := (Sets.others hC20 hk1 (by omega))
  replace hk2 : Fe w20 (kb) (ko + 10) (Z2.val) := (Sets.others hC20 hk2 (by omega))
  replace hk3 : Fe w20 (kb) (ko + 15) (D.val) := (Sets.others hC20 hk3 (by omega))
  replace hv1 : Fe w20 (vb) (vo + 5) (v1) := (Sets.others hC20 hv1 (by omega))
  replace hv2 : Fe w20 (vb) (vo + 10) (v2) := (Sets.others hC20 hv2 (by omega))
  replace hv3 : Fe w20 (vb) (vo + 15) (v3) := (Sets.others hC20 hv3 (by omega))
  replace h7 : Fe w20 (w.heap.size) (0) (R1.val) := (Sets.others hC20 h7 (by omega))
  replace h8 : Fe w20 (w.heap.size + 1) (0) (R2.val) := (Sets.others hC20 h8 (by omega))
  replace h11 : Fe w20 (w.heap.size + 1 + 1 + 1 + 1) (0) (R5.val) := (Sets.others hC20 h11 (by omega))
  replace h9 : Fe w20 (w.heap.size + 1 + 1) (0) (R3.val) := (Sets.others hC20 h9 (by omega))
  replace h10 : Fe w20 (w.heap.size + 1 + 1 + 1) (0) (R4.val) := (Sets.others hC20 h10 (by omega))
  replace h12 : Fe w20 (w.heap.size + 1 + 1 + 1 + 1 + 1) (0) (R7.val) := (Sets.others hC20 h12 (by omega))
  replace hv0 : Fe w20 (vb) (vo) (R8.val) := (Sets.fe' hC20 hv0)
  have hBw20 : Hid (Fr (vb) w w20) := Lib.hid (Fr.sets hBw19.out hC20 (by omega))
  clear hC20
  go_wp2_with fail
  obtain ⟨R9, qR9⟩ : ∃ uu : Fp, uu = R3 + R4 := ⟨_, rfl⟩
  have HR9 := Lib.hid qR9; clear qR9
  refine (add_ff (vb) (vo + 5) (w.heap.size + 1 + 1) (0) (w.heap.size + 1 + 1 + 1) (0) _ _ _ _ hv1 h9 h10 (apart_blk _ _ _ _ (by omega)) (apart_blk _ _ _ _ (by omega)) R9 HR9).mono ?_
  rintro e w21 ⟨rfl, hC21⟩
  have hs21 : w20.heap.size ≤ w21.heap.size := by have := hC21.size; (try simp only [alloc_size, setRow_size] at this); omega
  replace hp0 : Fe w21 (pb) (po) (X.val) := (Sets.others hC21 hp0 (by omega))
  replace hp1 : Fe w21 (pb) (po + 5) (Y.val) := (Sets.others hC21 hp1 (by omega))
  replace hp2 : Fe w21 (pb) (po + 10) (Z.val) := (Sets.others hC21 hp2 (by omega))
  replace hp3 : Fe w21 (pb) (po + 15) (T.val) := (Sets.others hC21 hp3 (by omega))
  replace hk0 : Fe w21 (kb) (ko) (A.val) := (Sets.others hC21 hk0 (by omega))
  replace hk1 : Fe w21 (kb) (ko + 5) (C.val) := (Sets.others hC21 hk1 (by omega))
  replace hk2 : Fe w21 (kb) (ko + 10) (Z2.val) := (Sets.others hC21 hk2 (by omega))
  replace hk3 : Fe w21 (kb) (ko + 15) (D.val) := (Sets.others hC21 hk3 (by omega))
  replace hv2 : Fe w21 (vb) (vo + 10) (v2) := (Sets.others hC21 hv2 (by omega))
  replace hv3 : Fe w21 (vb) (vo + 15) (v3) := (Sets.others hC21 hv3 (by omega))
  replace h7 : Fe w21 (w.heap.size) (0) (R1.val) := (Sets.others hC21 h7 (by omega))
  replace h8 : Fe w21 (w.heap.size + 1) (0) (R2.val) := (Sets.others hC21 h8 (by omega))
  replace h11 : Fe w21 (w.heap.size + 1 + 1 + 1 + 1) (0) (R5.val) := (Sets.others hC21 h11 (by omega))
  replace h9 : Fe w21 (w.heap.size + 1 + 1) (0) (R3.val) := (Sets.others hC21 h9 (by omega))
  replace h10 : Fe w21 (w.heap.size + 1 + 1 + 1) (0) (R4.val) := (Sets.others hC21 h10 (by omega))
  replace h12 : Fe w21 (w.heap.size + 1 + 1 + 1 + 1 + 1) (0) (R7.val) := (Sets.others hC21 h12 (by omega))
  replace hv0 : Fe w21 (vb) (vo) (R8.val) := (Sets.others hC21 hv0 (by omega))
  replace hv1 : Fe w21 (vb) (vo + 5) (R9.val) := (Sets.fe' hC21 hv1)
  have hBw21 : Hid (Fr (vb) w w21) := Lib.hid (Fr.sets hBw20.out hC21 (by omega))
  clear hC21
  go_wp2_with fail
  obtain ⟨R10, qR10⟩ : ∃ uu : Fp, uu = R7 + R5 := ⟨_, rfl⟩
  have HR10 := Lib.hid qR10; clear qR10
  refine (add_ff (vb) (vo + 10) (w.heap.size + 1 + 1 + 1 + 1 + 1) (0) (w.heap.size + 1 + 1 + 1 + 1) (0) _ _ _ _ hv2 h12 h11 (apart_blk _ _ _ _ (by omega)) (apart_blk _ _ _ _ (by omega)) R10 HR10).mono ?_
  rintro e w22 ⟨rfl, hC22⟩
  have hs22 : w21.heap.size ≤ w22.heap.size := by have := hC22.size; (try simp only [alloc_size, setRow_size] at this); omega
  replace hp0 : Fe w22 (pb) (po) (X.val) := (Sets.others hC22 hp0 (by omega))
  replace hp1 : Fe w22 (pb) (po + 5) (Y.val) := (Sets.others hC22 hp1 (by omega))
  replace hp2 : Fe w22 (pb) (po + 10) (Z.val) := (Sets.others hC22 hp2 (by omega))
  replace hp3 : Fe w22 (pb) (po + 15) (T.val) := (Sets.others hC22 hp3 (by omega))
  replace hk0 : Fe w22 (kb) (ko) (A.val) := (Sets.others hC22 hk0 (by omega))
  replace hk1 : Fe w22 (kb) (ko + 5) (C.val) := (Sets.others hC22 hk1 (by omega))
  replace hk2 : Fe w22 (kb) (ko + 10) (Z2.val) := (Sets.others hC22 hk2 (by omega))
  replace hk3 : Fe w22 (kb) (ko + 15) (D.val) := (Sets.others hC22 hk3 (by omega))
  replace hv3 : Fe w22 (vb) (vo + 15) (v3) := (Sets.others hC22 hv3 (by omega))
  replace h7 : Fe w22 (w.heap.size) (0) (R1.val) := (Sets.others hC22 h7 (by omega))
  replace h8 : Fe w22 (w.heap.size + 1) (0) (R2.val) := (Sets.others hC22 h8 (by omega))
  replace h11 : Fe w22 (w.heap.size + 1 + 1 + 1 + 1) (0) (R5.val) := (Sets.others hC22 h11 (by omega))
  replace h9 : Fe w22 (w.heap.size + 1 + 1) (0) (R3.val) := (Sets.others hC22 h9 (by omega))
  replace h10 : Fe w22 (w.heap.size + 1 + 1 + 1) (0) (R4.val) := (Sets.others hC22 h10 (by omega))
  replace h12 : Fe w22 (w.heap.size + 1 + 1 + 1 + 1 + 1) (0) (R7.val) := (Sets.others hC22 h12 (by omega))
  replace hv0 : Fe w22 (vb) (vo) (R8.val) := (Sets.others hC22 hv0 (by omega))
  replace hv1 : Fe w22 (vb) (vo + 5) (R9.val) := (Sets.others hC22 hv1 (by omega))
  replace hv2 : Fe w22 (vb) (vo + 10) (R10.val) := (Sets.fe' hC22 hv2)
  have hBw22 : Hid (Fr (vb) w w22) := Lib.hid (Fr.sets hBw21.out hC22 (by omega))
  clear hC22
  go_wp2_with fail
  obtain ⟨R11, qR11⟩ : ∃ uu : Fp, uu = R7 - R5 := ⟨_, rfl⟩
  have HR11 := Lib.hid qR11; clear qR11
  refine (sub_ff (vb) (vo + 15) (w.heap.size + 1 + 1 + 1 + 1 + 1) (0) (w.heap.size + 1 + 1 + 1 + 1) (0) _ _ _ _ hv3 h12 h11 (apart_blk _ _ _ _ (by omega)) (apart_blk _ _ _ _ (by omega)) R11 HR11).mono ?_
  rintro e w23 ⟨rfl, hC23⟩
  have hs23 : w22.heap.size ≤ w23.heap.size := by have := hC23.size; (try simp only [alloc_size, setRow_size] at this); omega
  replace hp0 : Fe w23 (pb) (po) (X.val) := (Sets.others hC23 hp0 (by omega))
  replace hp1 : Fe w23 (pb) (po + 5) (Y.val) := (Sets.others hC23 hp1 (by omega))
  replace hp2 : Fe w23 (pb) (po + 10) (Z.val) := (Sets.others hC23 hp2 (by omega))
  replace hp3 : Fe w23 (pb) (po + 15) (T.val) := (Sets.others hC23 hp3 (by omega))
  replace hk0 : Fe w23 (kb) (ko) (A.val) := (Sets.others hC23 hk0 (by omega))
  replace hk1 : Fe w23 (kb) (ko + 5) (C.val) := (Sets.others hC23 hk1 (by omega))
  replace hk2 : Fe w23 (kb) (ko + 10) (Z2.val) := (Sets.others hC23 hk2 (by omega))
  replace hk3 : Fe w23 (kb) (ko + 15) (D.val) := (Sets.others hC23 hk3 (by omega))
  replace h7 : Fe w23 (w.heap.size) (0) (R1.val) := (Sets.others hC23 h7 (by omega))
  replace h8 : Fe w23 (w.heap.size + 1) (0) (R2.val) := (Sets.others hC23 h8 (by omega))
  replace h11 : Fe w23 (w.heap.size + 1 + 1 + 1 + 1) (0) (R5.val) := (Sets.others hC23 h11 (by omega))
  replace h9 : Fe w23 (w.heap.size + 1 + 1) (0) (R3.val) := (Sets.others hC23 h9 (by omega))
  replace h10 : Fe w23 (w.heap.size + 1 + 1 + 1) (0) (R4.val) := (Sets.others hC23 h10 (by omega))
  replace h12 : Fe w23 (w.heap.size + 1 + 1 + 1 + 1 + 1) (0) (R7.val) := (Sets.others hC23 h12 (by omega))
  replace hv0 : Fe w23 (vb) (vo) (R8.val) := (Sets.others hC23 hv0 (by omega))
  replace hv1 : Fe w23 (vb) (vo + 5) (R9.val) := (Sets.others hC23 hv1 (by omega))
  replace hv2 : Fe w23 (vb) (vo + 10) (R10.val) := (Sets.others hC23 hv2 (by omega))
  replace hv3 : Fe w23 (vb) (vo + 15) (R11.val) := (Sets.fe' hC23 hv3)
  have hBw23 : Hid (Fr (vb) w w23) := Lib.hid (Fr.sets hBw22.out hC23 (by omega))
  clear hC23
  go_wp2
  go_ret
  refine ⟨rfl, hBw23.out, R8, R9, R10, R11, ?_, hv0, hv1, hv2, hv3⟩
  simp only [HR11.out, HR10.out, HR9.out, HR8.out, HR7.out, HR6.out, HR5.out, HR4.out, HR3.out, HR2.out, HR1.out]
  exact Rc.add hP hK
end

section
open Go.RowKit
set_option maxHeartbeats 4000000 in
theorem pt_add (vb vo pb po qb qo v0 v1 v2 v3 : Nat) (X Y Z T X2 Y2 Z2 T2 : Fp) (p q : CP) (hP : Rq p X Y Z T) (hQ : Rq q X2 Y2 Z2 T2) (dpb : pb ≠ vb) (dqb : qb ≠ vb) (w : World) (hv0 : Fe w vb (vo) v0) (hv1 : Fe w vb (vo + 5) v1) (hv2 : Fe w vb (vo + 10) v2) (hv3 : Fe w vb (vo + 15) v3) (hp0 : Fe w pb (po) X.val) (hp1 : Fe w pb (po + 5) Y.val) (hp2 : Fe w pb (po + 10) Z.val) (hp3 : Fe w pb (po + 15) T.val) (hq0 : Fe w qb (qo) X2.val) (hq1 : Fe w qb (qo + 5) Y2.val) (hq2 : Fe w qb (qo + 10) Z2.val) (hq3 : Fe w qb (qo + 15) T2.val) :
    Calls Tryd.prog 39 #[.pointer (some ⟨vb, vo, none⟩), .pointer (some ⟨pb, po, none⟩), .pointer (some ⟨qb, qo, none⟩)] w fun e w' => e = .returned (.pointer (some ⟨vb, vo, none⟩)) ∧ Fr vb w w' ∧ ∃ r0 r1 r2 r3 : Fp, Rq (p.add q) r0 r1 r2 r3 ∧ Fe w' vb (vo) r0.val ∧ Fe w' vb (vo + 5) r1.val ∧ Fe w' vb (vo + 10) r2.val ∧ Fe w' vb (vo + 15) r3.val := by
  have hvl := hv0.lt
  have hlhp := hp0.lt
  have hlhq := hq0.lt
  go_enter Tryd.func39, Tryd.ntmps39
  go_wp2_with fail
  refine (checkInit2 (w.heap.size) (pb) (po) (qb) (qo) _ _ X Y Z X2 Y2 Z2 hP.1 hQ.1 _ _ (heap_new_at _ _ _ rfl) (Fe.alloc hp0 _) (Fe.alloc hp1 _) (Fe.alloc hq0 _) (Fe.alloc hq1 _)).mono ?_
  rintro e w1 ⟨rfl, hC1⟩
  have hs1 : w.heap.size + 1 ≤ w1.heap.size := by have := hC1.size; (try simp only [alloc_size, setRow_size] at this); omega
  replace hp0 : Fe w1 (pb) (po) (X.val) := (Fe.below_all (Fe.alloc hp0 _) hC1)
  replace hp1 : Fe w1 (pb) (po + 5) (Y.val) := (Fe.below_all (Fe.alloc hp1 _) hC1)
  replace hp2 : Fe w1 (pb) (po + 10) (Z.val) := (Fe.below_all (Fe.alloc hp2 _) hC1)
  replace hp3 : Fe w1 (pb) (po + 15) (T.val) := (Fe.below_all (Fe.alloc hp3 _) hC1)
  replace hq0 : Fe w1 (qb) (qo) (X2.val) := (Fe.below_all (Fe.alloc hq0 _) hC1)
  replace hq1 : Fe w1 (qb) (qo + 5) (Y2.val) := (Fe.below_all (Fe.alloc hq1 _) hC1)
  replace hq2 : Fe w1 (qb) (qo + 10) (Z2.val) := (Fe.below_all (Fe.alloc hq2 _) hC1)
  replace hq3 : Fe w1 (qb) (qo + 15) (T2.val) := (Fe.below_all (Fe.alloc hq3 _) hC1)
  replace hv0 : Fe w1 (vb) (vo) (v0) := (Fe.below_all (Fe.alloc hv0 _) hC1)
  replace hv1 : Fe w1 (vb) (vo + 5) (v1) := (Fe.below_all (Fe.alloc hv1 _) hC1)
  replace hv2 : Fe w1 (vb) (vo + 10) (v2) := (Fe.below_all (Fe.alloc hv2 _) hC1)
  replace hv3 : Fe w1 (vb) (vo + 15) (v3) := (Fe.below_all (Fe.alloc hv3 _) hC1)
  replace h11 : w1.heap[w.heap.size]? = some (.cells (#[.pointer (some ⟨pb, po, none⟩), .pointer (some ⟨qb, qo, none⟩)]) 37 (0, 0)) := (heap_call hC1 (heap_new_at _ _ _ rfl))
  have hBw1 : Hid (Fr (vb) w w1) := Lib.hid (Fr.call (Fr.alloc (Fr.refl _ w) _) hC1)
  clear hC1
  go_wp2_with fail
  refine (cached_p3 (w1.heap.size) (0) (qb) (qo) _ _ _ _ X2 Y2 Z2 T2 _ hQ (by omega) _ (Fe.news_at _ _ _ _ 0 rfl rfl rfl rfl rfl (by first | rfl | simp only [alloc_size, setRow_size])) (Fe.news_at _ _ _ _ 5 rfl rfl rfl rfl rfl (by first | rfl | simp only [alloc_size, setRow_size])) (Fe.news_at _ _ _ _ 10 rfl rfl rfl rfl rfl (by first | rfl | simp only [alloc_size, setRow_size])) (Fe.news_at _ _ _ _ 15 rfl rfl rfl rfl rfl (by first | rfl | simp only [alloc_size, setRow_size])) (Fe.alloc hq0 _) (Fe.alloc hq1 _) (Fe.alloc hq2 _) (Fe.alloc hq3 _)).mono ?_
  rintro e w2 ⟨rfl, hC2, k2_2_0, k2_2_1, k2_2_2, k2_2_3, hK2_2, y2_2_0, y2_2_1, y2_2_2, y2_2_3⟩
  have hs2 : w1.heap.size + 1 ≤ w2.heap.size := by have := hC2.size; (try simp only [alloc_size, setRow_size] at this); omega
  replace hp0 : Fe w2 (pb) (po) (X.val) := Fr.keepF hC2 (Fe.alloc hp0 _) (by omega)
  replace hp1 : Fe w2 (pb) (po + 5) (Y.val) := Fr.keepF hC2 (Fe.alloc hp1 _) (by omega)
  replace hp2 : Fe w2 (pb) (po + 10) (Z.val) := Fr.keepF hC2 (Fe.alloc hp2 _) (by omega)
  replace hp3 : Fe w2 (pb) (po + 15) (T.val) := Fr.keepF hC2 (Fe.alloc hp3 _) (by omega)
  replace hq0 : Fe w2 (qb) (qo) (X2.val) := Fr.keepF hC2 (Fe.alloc hq0 _) (by omega)
  replace hq1 : Fe w2 (qb) (qo + 5) (Y2.val) := Fr.keepF hC2 (Fe.alloc hq1 _) (by omega)
  replace hq2 : Fe w2 (qb) (qo + 10) (Z2.val) := Fr.keepF hC2 (Fe.alloc hq2 _) (by omega)
  replace hq3 : Fe w2 (qb) (qo + 15) (T2.val) := Fr.keepF hC2 (Fe.alloc hq3 _) (by omega)
  replace hv0 : Fe w2 (vb) (vo) (v0) := Fr.keepF hC2 (Fe.alloc hv0 _) (by omega)
  replace hv1 : Fe w2 (vb) (vo + 5) (v1) := Fr.keepF hC2 (Fe.alloc hv1 _) (by omega)
  replace hv2 : Fe w2 (vb) (vo + 10) (v2) := Fr.keepF hC2 (Fe.alloc hv2 _) (by omega)
  replace hv3 : Fe w2 (vb) (vo + 15) (v3) := Fr.keepF hC2 (Fe.alloc hv3 _) (by omega)
  replace h13_0 : Fe w2 (w1.heap.size) (0) (k2_2_0.val) := y2_2_0
  replace h13_5 : Fe w2 (w1.heap.size) (5) (k2_2_1.val) := y2_2_1
  replace h13_10 : Fe w2 (w1.heap.size) (10) (k2_2_2.val) := y2_2_2
  replace h13_15 : Fe w2 (w1.heap.size) (15) (k2_2_3.val) := y2_2_3
  have hBw2 : Hid (Fr (vb) w w2) := Lib.hid (Fr.fr (Fr.alloc hBw1.out _) hC2 (by omega))
  clear hC2
  go_wp2_with fail
  refine (p1p1_add (w2.heap.size) (0) (pb) (po) (w1.heap.size) (0) _ _ _ _ X Y Z T k2_2_0 k2_2_1 k2_2_2 k2_2_3 _ _ hP hK2_2 (by omega) (by omega) _ (Fe.news_at _ _ _ _ 0 rfl rfl rfl rfl rfl (by first | rfl | simp only [alloc_size, setRow_size])) (Fe.news_at _ _ _ _ 5 rfl rfl rfl rfl rfl (by first | rfl | simp only [alloc_size, setRow_size])) (Fe.news_at _ _ _ _ 10 rfl rfl rfl rfl rfl (by first | rfl | simp only [alloc_size, setRow_size])) (Fe.news_at _ _ _ _ 15 rfl rfl rfl rfl rfl (by first | rfl | simp only [alloc_size, setRow_size])) (Fe.alloc hp0 _) (Fe.alloc hp1 _) (Fe.alloc hp2 _) (Fe.alloc hp3 _) (Fe.alloc h13_0 _) (Fe.alloc h13_5 _) (Fe.alloc h13_10 _) (Fe.alloc h13_15 _)).mono ?_
  rintro e w3 ⟨rfl, hC3, k3_3_0, k3_3_1, k3_3_2, k3_3_3, hK3_3, y3_3_0, y3_3_1, y3_3_2, y3_3_3⟩
  have hs3 : w2.heap.size + 1 ≤ w3.heap.size := by have := hC3.size; (try simp only [alloc_size, setRow_size] at this); omega
  replace hp0 : Fe w3 (pb) (po) (X.val) := Fr.keepF hC3 (Fe.alloc hp0 _) (by omega)
  replace hp1 : Fe w3 (pb) (po + 5) (Y.val) := Fr.keepF hC3 (Fe.alloc hp1 _) (by omega)
  replace hp2 : Fe w3 (pb) (po + 10) (Z.val) := Fr.keepF hC3 (Fe.alloc hp2 _) (by omega)
  replace hp3 : Fe w3 (pb) (po + 15) (T.val) := Fr.keepF hC3 (Fe.alloc hp3 _) (by omega)
  replace hq0 : Fe w3 (qb) (qo) (X2.val) := Fr.keepF hC3 (Fe.alloc hq0 _) (by omega)
  replace hq1 : Fe w3 (qb) (qo + 5) (Y2.val) := Fr.keepF hC3 (Fe.alloc hq1 _) (by omega)
  replace hq2 : Fe w3 (qb) (qo + 10) (Z2.val) := Fr.keepF hC3 (Fe.alloc hq2 _) (by omega)
  replace hq3 : Fe w3 (qb) (qo + 15) (T2.val) := Fr.keepF hC3 (Fe.alloc hq3 _) (by omega)
  replace hv0 : Fe w3 (vb) (vo) (v0) := Fr.keepF hC3 (Fe.alloc hv0 _) (by omega)
  replace hv1 : Fe w3 (vb) (vo + 5) (v1) := Fr.keepF hC3 (Fe.alloc hv1 _) (by omega)
  replace hv2 : Fe w3 (vb) (vo + 10) (v2) := Fr.keepF hC3 (Fe.alloc hv2 _) (by omega)
  replace hv3 : Fe w3 (vb) (vo + 15) (v3) := Fr.keepF hC3 (Fe.alloc hv3 _) (by omega)
  replace h13_0 : Fe w3 (w1.heap.size) (0) (k2_2_0.val) := Fr.keepF hC3 (Fe.alloc h13_0 _) (by omega)
  replace h13_5 : Fe w3 (w1.heap.size) (5) (k2_2_1.val) := Fr.keepF hC3 (Fe.alloc h13_5 _) (by omega)
  replace h13_10 : Fe w3 (w1.heap.size) (10) (k2_2_2.val) := Fr.keepF hC3 (Fe.alloc h13_10 _) (by omega)
  replace h13_15 : Fe w3 (w1.heap.size) (15) (k2_2_3.val) := Fr.keepF hC3 (Fe.alloc h13_15 _) (by omega)
  replace h16_0 : Fe w3 (w2.heap.size) (0) (k3_3_0.val) := y3_3_0
  replace h16_5 : Fe w3 (w2.heap.size) (5) (k3_3_1.val) := y3_3_1
  replace h16_10 : Fe w3 (w2.heap.size) (10) (k3_3_2.val) := y3_3_2
  replace h16_15 : Fe w3 (w2.heap.size) (15) (k3_3_3.val) := y3_3_3
  have hBw3 : Hid (Fr (vb) w w3) := Lib.hid (Fr.fr (Fr.alloc hBw2.out _) hC3 (by omega))
  clear hC3
  go_wp2_with fail
  refine (from_p1p1 (vb) (vo) (w2.heap.size) (0) _ _ _ _ k3_3_0 k3_3_1 k3_3_2 k3_3_3 _ hK3_3 (by omega) _ hv0 hv1 hv2 hv3 h16_0 h16_5 h16_10 h16_15).mono ?_
  rintro e w4 ⟨rfl, hC4, k4_2_0, k4_2_1, k4_2_2, k4_2_3, hK4_2, y4_2_0, y4_2_1, y4_2_2, y4_2_3⟩
  have hs4 : w3.heap.size ≤ w4.heap.size := by have := hC4.size; (try simp only [alloc_size, setRow_size] at this); omega
  replace hp0 : Fe w4 (pb) (po) (X.val) := Fr.keepF hC4 hp0 (by omega)
  replace hp1 : Fe w4 (pb) (po + 5) (Y.val) := Fr.keepF hC4 hp1 (by omega)
  replace hp2 : Fe w4 (pb) (po + 10) (Z.val) := Fr.keepF hC4 hp2 (by omega)
  replace hp3 : Fe w4 (pb) (po + 15) (T.val) := Fr.keepF hC4 hp3 (by omega)
  replace hq0 : Fe w4 (qb) (qo) (X2.val) := Fr.keepF hC4 hq0 (by omega)
  replace hq1 : Fe w4 (qb) (qo + 5) (Y2.val) := Fr.keepF hC4 hq1 (by omega)
  replace hq2 : Fe w4 (qb) (qo + 10) (Z2.val) := Fr.keepF hC4 hq2 (by omega)
  replace hq3 : Fe w4 (qb) (qo + 15) (T2.val) := Fr.keepF hC4 hq3 (by omega)
  replace hv0 : Fe w4 (vb) (vo) (k4_2_0.val) := y4_2_0
  replace hv1 : Fe w4 (vb) (vo + 5) (k4_2_1.val) := y4_2_1
  replace hv2 : Fe w4 (vb) (vo + 10) (k4_2_2.val) := y4_2_2
  replace hv3 : Fe w4 (vb) (vo + 15) (k4_2_3.val) := y4_2_3
  replace h13_0 : Fe w4 (w1.heap.size) (0) (k2_2_0.val) := Fr.keepF hC4 h13_0 (by omega)
  replace h13_5 : Fe w4 (w1.heap.size) (5) (k2_2_1.val) := Fr.keepF hC4 h13_5 (by omega)
  replace h13_10 : Fe w4 (w1.heap.size) (10) (k2_2_2.val) := Fr.keepF hC4 h13_10 (by omega)
  replace h13_15 : Fe w4 (w1.heap.size) (15) (k2_2_3.val) := Fr.keepF hC4 h13_15 (by omega)
  replace h16_0 : Fe w4 (w2.heap.size) (0) (k3_3_0.val) := Fr.keepF hC4 h16_0 (by omega)
  replace h16_5 : Fe w4 (w2.heap.size) (5) (k3_3_1.val) := Fr.keepF hC4 h16_5 (by omega)
  replace h16_10 : Fe w4 (w2.heap.size) (10) (k3_3_2.val) := Fr.keepF hC4 h16_10 (by omega)
  replace h16_15 : Fe w4 (w2.heap.size) (15) (k3_3_3.val) := Fr.keepF hC4 h16_15 (by omega)
  have hBw4 : Hid (Fr (vb) w w4) := Lib.hid (Fr.fr hBw3.out hC4 (by omega))
  clear hC4
  go_wp2
  go_ret
  refine ⟨rfl, hBw4.out, k4_2_0, k4_2_1, k4_2_2, k4_2_3, ?_, hv0, hv1, hv2, hv3⟩
  exact hK4_2
end

section
open Go.RowKit
set_option maxHeartbeats 4000000 in
theorem iAdd_ss (N M : Nat) (P Q : CP) (lN : N < 256 ^ 32) (hN : Hid (decP N = some P)) (lM : M < 256 ^ 32) (hM : Hid (decP M = some Q)) (B : Nat) (w : World) (hD0 : Var 1 z5 B w) (hD1 : Var 0 i5 B w) (hD2 : Var 2 o5 B w) :
    Calls Tryd.prog 23 #[.agg (arrC N), .agg (arrC M)] w fun e w' => e = .returned (.tuple #[.agg (arrC (encN (P.add Q))), .bool true]) ∧ Below w.heap.size w w' := by
  have hBl := hD0.1
  go_enter Tryd.func23, Tryd.ntmps23
  go_wp2_with (first
    | ((with_reducible refine at_dst 11 ?_); refine wpList_load_row rfl 22 _ rfl (w.heap.size) rfl 22 (arrC N) (0, 0) _ (heap_old _ (heap_old _ (heap_new_at _ _ _ rfl))) under32 rfl (info32_of (arrC N) (arrC_size _)) ?_))
  refine (pointOf_some N P lN hN B _ (hD0.later (below_alloc (below_alloc (below_alloc (Below.refl _ w) _) _) _)) (hD1.later (below_alloc (below_alloc (below_alloc (Below.refl _ w) _) _) _)) (hD2.later (below_alloc (below_alloc (below_alloc (Below.refl _ w) _) _) _))).mono ?_
  rintro e w1 ⟨b1_1, x1_1_0, x1_1_1, x1_1_2, x1_1_3, rfl, hlb1_1, hC1, hq1_1, xhf1_1_0, xhf1_1_1, xhf1_1_2, xhf1_1_3⟩
  have hs1 : w.heap.size + 1 + 1 + 1 ≤ w1.heap.size := by have := hC1.size; (try simp only [alloc_size, setRow_size] at this); omega
  replace h2 : w1.heap[w.heap.size]? = some (.cells (arrC N) 22 (0, 0)) := (heap_call hC1 (heap_old _ (heap_old _ (heap_new_at _ _ _ rfl))))
  replace h3 : w1.heap[w.heap.size + 1]? = some (.cells (arrC M) 22 (0, 0)) := (heap_call hC1 (heap_old _ (heap_new_at _ _ _ (by simp only [alloc_size, setRow_size]))))
  replace h4 : w1.heap[w.heap.size + 1 + 1]? = some (.cells (zL) 22 (0, 0)) := (heap_call hC1 (heap_new_at _ _ _ (by simp only [alloc_size, setRow_size])))
  have hBw1 : Hid (Below w.heap.size w w1) := Lib.hid (below_call (below_alloc (below_alloc (below_alloc (Below.refl _ w) _) _) _) hC1)
  clear hC1
  have hlb1_1 : w.heap.size + 1 + 1 + 1 ≤ b1_1 := by (try simp only [alloc_size, setRow_size] at hlb1_1); omega
  have hub1_1 := xhf1_1_0.lt
  go_wp2_with (first
    | ((with_reducible refine at_dst 16 ?_); refine wpList_load_row rfl 22 _ rfl (w.heap.size + 1) rfl 22 (arrC M) (0, 0) _ h3 under32 rfl (info32_of (arrC M) (arrC_size _)) ?_))
  refine (pointOf_some M Q lM hM B _ (hD0.later hBw1.out) (hD1.later hBw1.out) (hD2.later hBw1.out)).mono ?_
  rintro e w2 ⟨b2_1, x2_1_0, x2_1_1, x2_1_2, x2_1_3, rfl, hlb2_1, hC2, hq2_1, xhf2_1_0, xhf2_1_1, xhf2_1_2, xhf2_1_3⟩
  have hs2 : w1.heap.size ≤ w2.heap.size := by have := hC2.size; (try simp only [alloc_size, setRow_size] at this); omega
  replace h2 : w2.heap[w.heap.size]? = some (.cells (arrC N) 22 (0, 0)) := (heap_call hC2 h2)
  replace h3 : w2.heap[w.heap.size + 1]? = some (.cells (arrC M) 22 (0, 0)) := (heap_call hC2 h3)
  replace h4 : w2.heap[w.heap.size + 1 + 1]? = some (.cells (zL) 22 (0, 0)) := (heap_call hC2 h4)
  replace hf1_1_0 : Fe w2 (b1_1) (0) (x1_1_0.val) := (Fe.below_all xhf1_1_0 hC2)
  replace hf1_1_1 : Fe w2 (b1_1) (5) (x1_1_1.val) := (Fe.below_all xhf1_1_1 hC2)
  replace hf1_1_2 : Fe w2 (b1_1) (10) (x1_1_2.val) := (Fe.below_all xhf1_1_2 hC2)
  replace hf1_1_3 : Fe w2 (b1_1) (15) (x1_1_3.val) := (Fe.below_all xhf1_1_3 hC2)
  have hBw2 : Hid (Below w.heap.size w w2) := Lib.hid (below_call hBw1.out hC2)
  clear hC2
  have hlb2_1 : w1.heap.size ≤ b2_1 := by (try simp only [alloc_size, setRow_size] at hlb2_1); omega
  have hub2_1 := xhf2_1_0.lt
  go_wp2_with fail
  refine (pt_add (w2.heap.size) (0) (b1_1) (0) (b2_1) (0) _ _ _ _ x1_1_0 x1_1_1 x1_1_2 x1_1_3 x2_1_0 x2_1_1 x2_1_2 x2_1_3 _ _ hq1_1 hq2_1 (by omega) (by omega) _ (Fe.news_at _ _ _ _ 0 rfl rfl rfl rfl rfl (by first | rfl | simp only [alloc_size, setRow_size])) (Fe.news_at _ _ _ _ 5 rfl rfl rfl rfl rfl (by first | rfl | simp only [alloc_size, setRow_size])) (Fe.news_at _ _ _ _ 10 rfl rfl rfl rfl rfl (by first | rfl | simp only [alloc_size, setRow_size])) (Fe.news_at _ _ _ _ 15 rfl rfl rfl rfl rfl (by first | rfl | simp only [alloc_size, setRow_size])) (Fe.alloc hf1_1_0 _) (Fe.alloc hf1_1_1 _) (Fe.alloc hf1_1_2 _) (Fe.alloc hf1_1_3 _) (Fe.alloc xhf2_1_0 _) (Fe.alloc xhf2_1_1 _) (Fe.alloc xhf2_1_2 _) (Fe.alloc xhf2_1_3 _)).mono ?_
  rintro e w3 ⟨rfl, hC3, k5_3_0, k5_3_1, k5_3_2, k5_3_3, hK5_3, y5_3_0, y5_3_1, y5_3_2, y5_3_3⟩
  have hs3 : w2.heap.size + 1 ≤ w3.heap.size := by have := hC3.size; (try simp only [alloc_size, setRow_size] at this); omega
  replace h2 : w3.heap[w.heap.size]? = some (.cells (arrC N) 22 (0, 0)) := Fr.keepB hC3 (heap_old _ h2) (by omega)
  replace h3 : w3.heap[w.heap.size + 1]? = some (.cells (arrC M) 22 (0, 0)) := Fr.keepB hC3 (heap_old _ h3) (by omega)
  replace h4 : w3.heap[w.heap.size + 1 + 1]? = some (.cells (zL) 22 (0, 0)) := Fr.keepB hC3 (heap_old _ h4) (by omega)
  replace hf1_1_0 : Fe w3 (b1_1) (0) (x1_1_0.val) := Fr.keepF hC3 (Fe.alloc hf1_1_0 _) (by omega)
  replace hf1_1_1 : Fe w3 (b1_1) (5) (x1_1_1.val) := Fr.keepF hC3 (Fe.alloc hf1_1_1 _) (by omega)
  replace hf1_1_2 : Fe w3 (b1_1) (10) (x1_1_2.val) := Fr.keepF hC3 (Fe.alloc hf1_1_2 _) (by omega)
  replace hf1_1_3 : Fe w3 (b1_1) (15) (x1_1_3.val) := Fr.keepF hC3 (Fe.alloc hf1_1_3 _) (by omega)
  replace hf2_1_0 : Fe w3 (b2_1) (0) (x2_1_0.val) := Fr.keepF hC3 (Fe.alloc xhf2_1_0 _) (by omega)
  replace hf2_1_1 : Fe w3 (b2_1) (5) (x2_1_1.val) := Fr.keepF hC3 (Fe.alloc xhf2_1_1 _) (by omega)
  replace hf2_1_2 : Fe w3 (b2_1) (10) (x2_1_2.val) := Fr.keepF hC3 (Fe.alloc xhf2_1_2 _) (by omega)
  replace hf2_1_3 : Fe w3 (b2_1) (15) (x2_1_3.val) := Fr.keepF hC3 (Fe.alloc xhf2_1_3 _) (by omega)
  replace h27_0 : Fe w3 (w2.heap.size) (0) (k5_3_0.val) := y5_3_0
  replace h27_5 : Fe w3 (w2.heap.size) (5) (k5_3_1.val) := y5_3_1
  replace h27_10 : Fe w3 (w2.heap.size) (10) (k5_3_2.val) := y5_3_2
  replace h27_15 : Fe w3 (w2.heap.size) (15) (k5_3_3.val) := y5_3_3
  have hBw3 : Hid (Below w.heap.size w w3) := Lib.hid ((below_alloc hBw2.out _).trans (hC3.below (by omega) (below_alloc hBw2.out _).size))
  clear hC3
  go_wp2_with fail
  refine (pointBytes_to (w2.heap.size) (0) k5_3_0 k5_3_1 k5_3_2 k5_3_3 (P.add Q) hK5_3 _ h27_0 h27_5 h27_10 h27_15).mono ?_
  rintro e w4 ⟨rfl, hC4⟩
  have hs4 : w3.heap.size ≤ w4.heap.size := by have := hC4.size; (try simp only [alloc_size, setRow_size] at this); omega
  replace h2 : w4.heap[w.heap.size]? = some (.cells (arrC N) 22 (0, 0)) := (heap_call hC4 h2)
  replace h3 : w4.heap[w.heap.size + 1]? = some (.cells (arrC M) 22 (0, 0)) := (heap_call hC4 h3)
  replace h4 : w4.heap[w.heap.size + 1 + 1]? = some (.cells (zL) 22 (0, 0)) := (heap_call hC4 h4)
  replace hf1_1_0 : Fe w4 (b1_1) (0) (x1_1_0.val) := (Fe.below_all hf1_1_0 hC4)
  replace hf1_1_1 : Fe w4 (b1_1) (5) (x1_1_1.val) := (Fe.below_all hf1_1_1 hC4)
  replace hf1_1_2 : Fe w4 (b1_1) (10) (x1_1_2.val) := (Fe.below_all hf1_1_2 hC4)
  replace hf1_1_3 : Fe w4 (b1_1) (15) (x1_1_3.val) := (Fe.below_all hf1_1_3 hC4)
  replace hf2_1_0 : Fe w4 (b2_1) (0) (x2_1_0.val) := (Fe.below_all hf2_1_0 hC4)
  replace hf2_1_1 : Fe w4 (b2_1) (5) (x2_1_1.val) := (Fe.below_all hf2_1_1 hC4)
  replace hf2_1_2 : Fe w4 (b2_1) (10) (x2_1_2.val) := (Fe.below_all hf2_1_2 hC4)
  replace hf2_1_3 : Fe w4 (b2_1) (15) (x2_1_3.val) := (Fe.below_all hf2_1_3 hC4)
  replace h27_0 : Fe w4 (w2.heap.size) (0) (k5_3_0.val) := (Fe.below_all h27_0 hC4)
  replace h27_5 : Fe w4 (w2.heap.size) (5) (k5_3_1.val) := (Fe.below_all h27_5 hC4)
  replace h27_10 : Fe w4 (w2.heap.size) (10) (k5_3_2.val) := (Fe.below_all h27_10 hC4)
  replace h27_15 : Fe w4 (w2.heap.size) (15) (k5_3_3.val) := (Fe.below_all h27_15 hC4)
  have hBw4 : Hid (Below w.heap.size w w4) := Lib.hid (below_call hBw3.out hC4)
  clear hC4
  go_wp2_with (first
    | ((with_reducible refine at_store 4 ?_); refine wpList_store_row rfl 22 _ _ rfl (w.heap.size + 1 + 1) (arrC (encN (P.add Q))) rfl rfl 22 (zL) h4 (info32_of (arrC (encN (P.add Q))) (arrC_size _)) (zL_size.trans (arrC_size _).symm) (arrC_one _) ?_))
  refine bodyPost_ret (results_row_tmp rfl _ _ (w.heap.size + 1 + 1) 22 (arrC (encN (P.add Q))) (0, 0) _ rfl (setRow_heap _ _ _ _ _ _ h4) under32 rfl (info32_of (arrC (encN (P.add Q))) (arrC_size _))) rfl ⟨rfl, (below_setRow hBw4.out (by omega) _)⟩
theorem iAdd_sse (P Q : CP) (E : Nat) (HE : Hid (E = encN (P.add Q))) (N M : Nat) (lN : N < 256 ^ 32) (hN : Hid (decP N = some P)) (lM : M < 256 ^ 32) (hM : Hid (decP M = some Q)) (B : Nat) (w : World) (hD0 : Var 1 z5 B w) (hD1 : Var 0 i5 B w) (hD2 : Var 2 o5 B w) :
    Calls Tryd.prog 23 #[.agg (arrC N), .agg (arrC M)] w fun e w' => e = .returned (.tuple #[.agg (arrC E), .bool true]) ∧ Below w.heap.size w w' := by
  rw [HE.out]
  exact iAdd_ss N M P Q lN hN lM hM B w hD0 hD1 hD2
end

section
open Go.RowKit
set_option maxHeartbeats 4000000 in
theorem sNeg_s (N : Nat) (P : CP) (lN : N < 256 ^ 32) (hN : Hid (decP N = some P)) (w : World) :
    Calls Tryd.prog 34 #[.agg (arrC N)] w fun e w' => e = .returned (.tuple #[.agg (arrC (encN P.neg)), .bool true]) ∧ Below w.heap.size w w' := by
  go_enter Tryd.func34, Tryd.ntmps34
  go_wp2_with (first
    | ((with_reducible refine at_dst 7 ?_); refine wpList_load_row rfl 22 _ rfl (w.heap.size) rfl 22 (arrC N) (0, 0) _ (heap_old _ (heap_new_at _ _ _ rfl)) under32 rfl (info32_of (arrC N) (arrC_size _)) ?_))
  refine (sdecoded_some N P lN hN.out _).mono ?_
  rintro e w1 ⟨rfl, hC1⟩
  have hs1 : w.heap.size + 1 + 1 ≤ w1.heap.size := by have := hC1.size; (try simp only [alloc_size, setRow_size] at this); omega
  replace h1 : w1.heap[w.heap.size]? = some (.cells (arrC N) 22 (0, 0)) := (heap_call hC1 (heap_old _ (heap_new_at _ _ _ rfl)))
  replace h2 : w1.heap[w.heap.size + 1]? = some (.cells (zL) 22 (0, 0)) := (heap_call hC1 (heap_new_at _ _ _ (by simp only [alloc_size, setRow_size])))
  have hBw1 : Hid (Below w.heap.size w w1) := Lib.hid (below_call (below_alloc (below_alloc (Below.refl _ w) _) _) hC1)
  clear hC1
  go_wp2_with (first
    | ((with_reducible refine at_store 4 ?_); refine wpList_store_row rfl 45 _ _ rfl (w1.heap.size) (ptC (P.x.val) (P.y.val) ((1 : Fp).val)) rfl rfl 45 (z12) (heap_new_at _ _ _ rfl) (infoPt_of (ptC (P.x.val) (P.y.val) ((1 : Fp).val)) (ptC_size _ _ _)) (z12_size.trans (ptC_size _ _ _).symm) (ptC_one _ _ _) ?_)
    | ((with_reducible refine at_dst 14 ?_); refine wpList_load_row rfl 45 _ rfl (w1.heap.size) rfl 45 (ptC (P.x.val) (P.y.val) ((1 : Fp).val)) (0, 0) _ (setRow_heap _ _ _ _ _ _ (heap_new_at _ _ _ rfl)) underPt rfl (infoPt_of (ptC (P.x.val) (P.y.val) ((1 : Fp).val)) (ptC_size _ _ _)) ?_))
  refine (snegated P _ _ _ (Rp.one P) _).mono ?_
  rintro e w2 ⟨xa4_1, ya4_1, za4_1, rfl, hC2, hr4_1⟩
  have hs2 : w1.heap.size + 1 ≤ w2.heap.size := by have := hC2.size; (try simp only [alloc_size, setRow_size] at this); omega
  replace h1 : w2.heap[w.heap.size]? = some (.cells (arrC N) 22 (0, 0)) := (heap_call hC2 (heap_row _ (by omega) (heap_old _ h1)))
  replace h2 : w2.heap[w.heap.size + 1]? = some (.cells (zL) 22 (0, 0)) := (heap_call hC2 (heap_row _ (by omega) (heap_old _ h2)))
  replace h4 : w2.heap[w1.heap.size]? = some (.cells (ptC (P.x.val) (P.y.val) ((1 : Fp).val)) 45 (0, 0)) := (heap_call hC2 (setRow_heap _ _ _ _ _ _ (heap_new_at _ _ _ rfl)))
  have hBw2 : Hid (Below w.heap.size w w2) := Lib.hid (below_call (below_setRow (below_alloc hBw1.out _) (by omega) _) hC2)
  clear hC2
  go_wp2_with fail
  refine (sencoded P.neg _ _ _ hr4_1 _).mono ?_
  rintro e w3 ⟨rfl, hC3⟩
  have hs3 : w2.heap.size ≤ w3.heap.size := by have := hC3.size; (try simp only [alloc_size, setRow_size] at this); omega
  replace h1 : w3.heap[w.heap.size]? = some (.cells (arrC N) 22 (0, 0)) := (heap_call hC3 h1)
  replace h2 : w3.heap[w.heap.size + 1]? = some (.cells (zL) 22 (0, 0)) := (heap_call hC3 h2)
  replace h4 : w3.heap[w1.heap.size]? = some (.cells (ptC (P.x.val) (P.y.val) ((1 : Fp).val)) 45 (0, 0)) := (heap_call hC3 h4)
  have hBw3 : Hid (Below w.heap.size w w3) := Lib.hid (below_call hBw2.out hC3)
  clear hC3
  go_wp2_with (first
    | ((with_reducible refine at_store 2 ?_); refine wpList_store_row rfl 22 _ _ rfl (w.heap.size + 1) (arrC (encN (P.neg))) rfl rfl 22 (zL) h2 (info32_of (arrC (encN (P.neg))) (arrC_size _)) (zL_size.trans (arrC_size _).symm) (arrC_one _) ?_))
  refine bodyPost_ret (results_row_tmp rfl _ _ (w.heap.size + 1) 22 (arrC (encN (P.neg))) (0, 0) _ rfl (setRow_heap _ _ _ _ _ _ h2) under32 rfl (info32_of (arrC (encN (P.neg))) (arrC_size _))) rfl ⟨rfl, (below_setRow hBw3.out (by omega) _)⟩
set_option maxHeartbeats 1000000 in
theorem isPoint_s (N : Nat) (P : CP) (lN : N < 256 ^ 32) (hN : Hid (decP N = some P)) (w : World) :
    Calls Tryd.prog 17 #[.agg (arrC N)] w fun e w' => e = .returned (.bool true) ∧ Below w.heap.size w w' := by
  go_enter Tryd.func17, Tryd.ntmps17
  go_wp2_with (first
    | ((with_reducible refine at_dst 6 ?_); refine wpList_load_row rfl 22 _ rfl (w.heap.size) rfl 22 (arrC N) (0, 0) _ (heap_new_at _ _ _ rfl) under32 rfl (info32_of (arrC N) (arrC_size _)) ?_))
  refine (sNeg_s N P lN hN _).mono ?_
  rintro e w1 ⟨rfl, hC1⟩
  have hs1 : w.heap.size + 1 ≤ w1.heap.size := by have := hC1.size; (try simp only [alloc_size, setRow_size] at this); omega
  replace h1 : w1.heap[w.heap.size]? = some (.cells (arrC N) 22 (0, 0)) := (heap_call hC1 (heap_new_at _ _ _ rfl))
  have hBw1 : Hid (Below w.heap.size w w1) := Lib.hid (below_call (below_alloc (Below.refl _ w) _) hC1)
  clear hC1
  go_wp2_with (first
    | ((with_reducible refine at_store 3 ?_); refine wpList_store_row rfl 22 _ _ rfl (w1.heap.size) (arrC (encN P.neg)) rfl rfl 22 (zL) (heap_new_at _ _ _ rfl) (info32_of (arrC (encN P.neg)) (arrC_size _)) (zL_size.trans (arrC_size _).symm) (arrC_one _) ?_))
  go_ret
  exact ⟨rfl, (below_setRow (below_alloc hBw1.out _) (by omega) _)⟩
end

end Go.Proofs.YtcenlinpbpbpoaaDoor
