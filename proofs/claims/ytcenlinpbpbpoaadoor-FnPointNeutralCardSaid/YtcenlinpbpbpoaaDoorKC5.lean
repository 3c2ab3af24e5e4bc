/- Parts of texts for several laws: The points of the curve are a commutative group. Points: what projective coordinates stand for, sums by both roads, what a point is told by. Constants of the curve; elements of new blocks. Structs of points: sums. The reference's points: negated, same, identity. -/
import Derived.BigRegion
import Derived.ChangeKeysEq
import Derived.Deep.DeepCutAuto
import Derived.Deep.Draws
import Derived.Deep.Fields
import Derived.Deep.MidRow
import Derived.Deep.Quiet
import Derived.Deep.RegionHeld3
import Derived.Deep.WholeRow
import Derived.Great.BuildSlice
import Derived.LaidMore
import Derived.Laws.Bits64b
import Derived.Laws.CopyOwn
import Derived.Laws.CopyRow
import Derived.Laws.Externs
import Derived.Laws.StructEq
import Derived.Laws.Tables
import Derived.Lib.Hide
import Derived.LoopTactic
import Derived.OpenShut
import Derived.ProofKit
import Derived.StillTailTactics
import Derived.Stop.Joined
import Derived.Test.YtcenlinpbpbpoaaDoorProg
import Derived.WalkKit
import Derived.WalkLawsBesides
import Derived.WalkSpells
import Derived.WideKeyArgs
import Derived.Test.YtcenlinpbpbpoaaDoorKC0
import Derived.Test.YtcenlinpbpbpoaaDoorKC1
import Derived.Test.YtcenlinpbpbpoaaDoorKC2
import Derived.Test.YtcenlinpbpbpoaaDoorKC3
import Derived.Test.YtcenlinpbpbpoaaDoorKC4
import Derived.Test.YtcenlinpbpbpoaaDoorKHF1
import Derived.Test.YtcenlinpbpbpoaaDoorKHF3
import Derived.Test.YtcenlinpbpbpoaaDoorKHGr
import Derived.Test.YtcenlinpbpbpoaaDoorKHPI
import Derived.Test.YtcenlinpbpbpoaaDoorKHPO
import Derived.Test.YtcenlinpbpbpoaaDoorKHPP
import Derived.Test.YtcenlinpbpbpoaaDoorKHPS
import Derived.Test.YtcenlinpbpbpoaaDoorKHS8
import Derived.Test.YtcenlinpbpbpoaaDoorKHSQ
import Derived.Test.YtcenlinpbpbpoaaDoorKHSQB
import Derived.Test.YtcenlinpbpbpoaaDoorKHSQN
import Derived.Test.YtcenlinpbpbpoaaDoorKHSRD
import Derived.Test.YtcenlinpbpbpoaaDoorKHU1
import Derived.Test.YtcenlinpbpbpoaaDoorKHUM
import Derived.Test.YtcenlinpbpbpoaaDoorKHUN
import Derived.Test.YtcenlinpbpbpoaaDoorKHUS
import Derived.Test.YtcenlinpbpbpoaaDoorKHUSR
import Derived.Test.YtcenlinpbpbpoaaDoorKHUSe
import Derived.Test.YtcenlinpbpbpoaaDoorKL0
import Derived.Test.YtcenlinpbpbpoaaDoorKL1
import Derived.Test.YtcenlinpbpbpoaaDoorKL2
import Derived.Test.YtcenlinpbpbpoaaDoorKL3
import Derived.Test.YtcenlinpbpbpoaaDoorKL4
namespace Go.Proofs.YtcenlinpbpbpoaaDoor
set_option maxRecDepth 4000
set_option linter.unusedSimpArgs false
set_option linter.unusedVariables false
section
def CP.neg (P : CP) : CP := ⟨- P.x, P.y, by have := P.on; unfold onC at *; grind⟩
end

section
theorem Rc.p3 {P : CP} {X Y Z T : Fp} (h : Rc P X Y Z T) : Rq P (X * T) (Y * Z) (Z * T) (X * Y) := by
  obtain ⟨hz, ht, rfl, rfl⟩ := h
  exact ⟨⟨fne_mul hz ht, by grind, by grind⟩, by grind⟩
theorem Rq.kept {P : CP} {X Y Z T : Fp} (h : Rq P X Y Z T) : Rk P (Y + X) (Y - X) Z (T * (fp dN + fp dN)) := by
  obtain ⟨⟨hz, rfl, rfl⟩, rfl⟩ := h
  exact ⟨hz, rfl, rfl, rfl⟩
/-- what is kept of -Q -/
theorem Rk.neg {Q : CP} {A S Z D : Fp} (h : Rk Q A S Z D) : Rk Q.neg S A Z (-D) := by
  obtain ⟨hz, rfl, rfl, rfl⟩ := h
  refine ⟨hz, ?_, ?_, ?_⟩ <;> (unfold CP.neg; simp only <;> (generalize fp dN = d; grind))
theorem Rq.neg {P : CP} {X Y Z T : Fp} (h : Rq P X Y Z T) : Rq P.neg (-X) Y Z (-T) := by
  obtain ⟨⟨hz, rfl, rfl⟩, rfl⟩ := h
  refine ⟨⟨hz, ?_, ?_⟩, ?_⟩ <;> (unfold CP.neg; simp only <;> grind)
theorem Rp.neg {P : CP} {X Y Z : Fp} (h : Rp P X Y Z) : Rp P.neg (-X) Y Z := by
  obtain ⟨hz, rfl, rfl⟩ := h
  refine ⟨hz, ?_, ?_⟩ <;> (unfold CP.neg; simp only <;> grind)
end

section
open Go.RowKit
set_option maxHeartbeats 1000000 in
theorem d2_new  (w : World) :
    Calls Tryd.prog 91 #[] w fun e w' => ∃ b, e = .returned (.pointer (some ⟨b, 0, none⟩)) ∧ w.heap.size ≤ b ∧ Below w.heap.size w w' ∧ Fe w' b 0 (fp dN + fp dN).val := by
  go_enter Tryd.func91, Tryd.ntmps91
  go_wp2_with fail
  refine (dOf_new _).mono ?_
  rintro e w1 ⟨b1_1, rfl, hlb1_1, hC1, xhf1_1⟩
  have hs1 : w.heap.size + 1 ≤ w1.heap.size := by have := hC1.size; (try simp only [alloc_size, setRow_size] at this); omega
  replace h1 : Fe w1 (w.heap.size) (0) (0) := (Fe.below_all (Fe.newz_at _ _ rfl) hC1)
  have hBw1 : Hid (Below w.heap.size w w1) := Lib.hid (below_call (below_alloc (Below.refl _ w) _) hC1)
  clear hC1
  have hlb1_1 : w.heap.size + 1 ≤ b1_1 := by (try simp only [alloc_size, setRow_size] at hlb1_1); omega
  have hub1_1 := xhf1_1.lt
  go_wp2_with fail
  refine (dOf_new _).mono ?_
  rintro e w2 ⟨b1_2, rfl, hlb1_2, hC2, xhf1_2⟩
  have hs2 : w1.heap.size ≤ w2.heap.size := by have := hC2.size; (try simp only [alloc_size, setRow_size] at this); omega
  replace h1 : Fe w2 (w.heap.size) (0) (0) := (Fe.below_all h1 hC2)
  replace hf1_1 : Fe w2 (b1_1) (0) ((fp dN).val) := (Fe.below_all xhf1_1 hC2)
  have hBw2 : Hid (Below w.heap.size w w2) := Lib.hid (below_call hBw1.out hC2)
  clear hC2
  have hlb1_2 : w1.heap.size ≤ b1_2 := by (try simp only [alloc_size, setRow_size] at hlb1_2); omega
  have hub1_2 := xhf1_2.lt
  go_wp2_with fail
  obtain ⟨R1, qR1⟩ : ∃ uu : Fp, uu = (fp dN) + (fp dN) := ⟨_, rfl⟩
  have HR1 := Lib.hid qR1; clear qR1
  refine (add_ff (w.heap.size) (0) (b1_1) (0) (b1_2) (0) _ _ _ _ h1 hf1_1 xhf1_2 (apart_blk _ _ _ _ (by omega)) (apart_blk _ _ _ _ (by omega)) R1 HR1).mono ?_
  rintro e w3 ⟨rfl, hC3⟩
  have hs3 : w2.heap.size ≤ w3.heap.size := by have := hC3.size; (try simp only [alloc_size, setRow_size] at this); omega
  replace hf1_1 : Fe w3 (b1_1) (0) ((fp dN).val) := (Sets.others hC3 hf1_1 (by omega))
  replace hf1_2 : Fe w3 (b1_2) (0) ((fp dN).val) := (Sets.others hC3 xhf1_2 (by omega))
  replace h1 : Fe w3 (w.heap.size) (0) (R1.val) := (Sets.fe' hC3 h1)
  have hBw3 : Hid (Below w.heap.size w w3) := Lib.hid (hBw2.out.trans (hC3.below (by omega) hBw2.out.size))
  clear hC3
  go_wp2
  go_ret
  refine ⟨_, rfl, by omega, hBw3.out, ?_⟩
  rw [← HR1.out]
  exact h1
end

section
open Go.RowKit
set_option maxHeartbeats 4000000 in
theorem cached_p3 (vb vo pb po v0 v1 v2 v3 : Nat) (X Y Z T : Fp) (p : CP) (hP : Rq p X Y Z T) (dpb : pb ≠ vb) (w : World) (hv0 : Fe w vb (vo) v0) (hv1 : Fe w vb (vo + 5) v1) (hv2 : Fe w vb (vo + 10) v2) (hv3 : Fe w vb (vo + 15) v3) (hp0 : Fe w pb (po) X.val) (hp1 : Fe w pb (po + 5) Y.val) (hp2 : Fe w pb (po + 10) Z.val) (hp3 : Fe w pb (po + 15) T.val) :
    Calls Tryd.prog 71 #[.pointer (some ⟨vb, vo, none⟩), .pointer (some ⟨pb, po, none⟩)] w fun e w' => e = .returned (.pointer (some ⟨vb, vo, none⟩)) ∧ Fr vb w w' ∧ ∃ r0 r1 r2 r3 : Fp, Rk p r0 r1 r2 r3 ∧ Fe w' vb (vo) r0.val ∧ Fe w' vb (vo + 5) r1.val ∧ Fe w' vb (vo + 10) r2.val ∧ Fe w' vb (vo + 15) r3.val := by
  have hvl := hv0.lt
  have hlhp := hp0.lt
  go_enter Tryd.func71, Tryd.ntmps71
  go_wp2_with fail
  try simp only [Act.put]
  refine wp_named ?_
  intro w1 ew1
  have hs1 : w.heap.size ≤ w1.heap.size := by rw [ew1]; (try simp only [alloc_size, setRow_size]); omega
  replace hp0 : Fe w1 (pb) (po) (X.val) := by rw [ew1]; exact hp0
  replace hp1 : Fe w1 (pb) (po + 5) (Y.val) := by rw [ew1]; exact hp1
  replace hp2 : Fe w1 (pb) (po + 10) (Z.val) := by rw [ew1]; exact hp2
  replace hp3 : Fe w1 (pb) (po + 15) (T.val) := by rw [ew1]; exact hp3
  replace hv0 : Fe w1 (vb) (vo) (v0) := by rw [ew1]; exact hv0
  replace hv1 : Fe w1 (vb) (vo + 5) (v1) := by rw [ew1]; exact hv1
  replace hv2 : Fe w1 (vb) (vo + 10) (v2) := by rw [ew1]; exact hv2
  replace hv3 : Fe w1 (vb) (vo + 15) (v3) := by rw [ew1]; exact hv3
  have hBw1 : Hid (Fr (vb) w w1) := Lib.hid (by rw [ew1]; exact (Fr.refl _ w))
  clear ew1
  obtain ⟨R1, qR1⟩ : ∃ uu : Fp, uu = Y + X := ⟨_, rfl⟩
  have HR1 := Lib.hid qR1; clear qR1
  refine wp_region_noPanic ?_
  refine wp_region_held_drew (S := Keep (vb) w1) (by kernel_rfl) (Keep.start _ _) ?_
  intro hS
  obtain ⟨w2, ed⟩ : ∃ u : World, u = w1.drew := ⟨_, rfl⟩
  rw [← ed] at hS ⊢
  have xhp0 : Fe w2 (pb) (po) (X.val) := by rw [ed]; exact hp0
  have xhp1 : Fe w2 (pb) (po + 5) (Y.val) := by rw [ed]; exact hp1
  have xhp2 : Fe w2 (pb) (po + 10) (Z.val) := by rw [ed]; exact hp2
  have xhp3 : Fe w2 (pb) (po + 15) (T.val) := by rw [ed]; exact hp3
  have xhv0 : Fe w2 (vb) (vo) (v0) := by rw [ed]; exact hv0
  have xhv1 : Fe w2 (vb) (vo + 5) (v1) := by rw [ed]; exact hv1
  have xhv2 : Fe w2 (vb) (vo + 10) (v2) := by rw [ed]; exact hv2
  have xhv3 : Fe w2 (vb) (vo + 15) (v3) := by rw [ed]; exact hv3
  clear ed
  have hSz := hS.size
  refine takeAtK (i := 0) (v := .pointer (some ⟨vb, vo, none⟩)) rfl (some 5) rfl (take_run rfl (fun _ _ => by go_simp)) hS ?_
  simp only [Act.put, sia, sc0, scs]
  refine takeAtK (i := 1) (v := .pointer (some ⟨vb, vo, none⟩)) rfl (some 6) rfl (take_run rfl (fun _ _ => by go_simp)) hS ?_
  simp only [Act.put, sia, sc0, scs]
  refine takeAtK (i := 2) (v := .pointer (some ⟨vb, vo, none⟩)) rfl (some 7) rfl (take_run rfl (fun _ _ => by go_simp)) hS ?_
  simp only [Act.put, sia, sc0, scs]
  refine takeAtK (i := 3) (v := .pointer (some ⟨pb, po, none⟩)) rfl (some 8) rfl (take_run rfl (fun _ _ => by go_simp)) hS ?_
  simp only [Act.put, sia, sc0, scs]
  refine takeAtK (i := 4) (v := .pointer (some ⟨pb, po, none⟩)) rfl (some 9) rfl (take_run rfl (fun _ _ => by go_simp)) hS ?_
  simp only [Act.put, sia, sc0, scs]
  refine takeAtK (i := 5) (v := .pointer (some ⟨pb, po + 5, none⟩)) rfl (some 10) rfl (take_run rfl (fun _ _ => by go_simp)) hS ?_
  simp only [Act.put, sia, sc0, scs]
  refine takeAtK (i := 6) (v := .pointer (some ⟨pb, po, none⟩)) rfl (some 11) rfl (take_run rfl (fun _ _ => by go_simp)) hS ?_
  simp only [Act.put, sia, sc0, scs]
  refine takeAtK (i := 7) (v := .pointer (some ⟨pb, po, none⟩)) rfl (some 12) rfl (take_run rfl (fun _ _ => by go_simp)) hS ?_
  simp only [Act.put, sia, sc0, scs]
  refine takeAtK (i := 8) (v := .pointer (some ⟨pb, po, none⟩)) rfl (some 13) rfl (take_run rfl (fun _ _ => by go_simp)) hS ?_
  simp only [Act.put, sia, sc0, scs]
  refine wpAnyH_ready (rs := [9]) (by kernel_rfl) (by simp) ?_
  refine (AllReadyH.cons rfl ?_ AllReadyH.nil)
  intro K hK
  refine ready_call rfl (some 14) rfl 60 #[.pointer (some ⟨vb, vo, none⟩), .pointer (some ⟨pb, po + 5, none⟩), .pointer (some ⟨pb, po, none⟩)] (by go_simp) ?_
  refine (add_ff (vb) (vo) (pb) (po + 5) (pb) (po) _ _ _ _ xhv0 xhp1 xhp0 (apart_blk _ _ _ _ (by omega)) (apart_blk _ _ _ _ (by omega)) R1 HR1).mono ?_
  rintro e w3 ⟨rfl, hC⟩
  refine ⟨_, rfl, ?_⟩
  simp only [Act.put, sia, sc0, scs]
  have hz3 := hC.size
  have xhp0 : Fe w3 (pb) (po) (X.val) := (Sets.others hC xhp0 (by omega))
  have xhp1 : Fe w3 (pb) (po + 5) (Y.val) := (Sets.others hC xhp1 (by omega))
  have xhp2 : Fe w3 (pb) (po + 10) (Z.val) := (Sets.others hC xhp2 (by omega))
  have xhp3 : Fe w3 (pb) (po + 15) (T.val) := (Sets.others hC xhp3 (by omega))
  have xhv0 : Fe w3 (vb) (vo) (R1.val) := (Sets.fe' hC xhv0)
  have xhv1 : Fe w3 (vb) (vo + 5) (v1) := (Sets.others hC xhv1 (by omega))
  have xhv2 : Fe w3 (vb) (vo + 10) (v2) := (Sets.others hC xhv2 (by omega))
  have xhv3 : Fe w3 (vb) (vo + 15) (v3) := (Sets.others hC xhv3 (by omega))
  have hS := hS.setsR hC
  clear hC
  refine hK.out _ _ hS ?_
  clear hK K
  intro _
  have hSz := hS.size
  refine wpAnyH_done (by kernel_rfl) ?_ _
  refine NoPanic.normal ?_
  have hsz := hS.size
  have hp0 := xhp0
  have hp1 := xhp1
  have hp2 := xhp2
  have hp3 := xhp3
  have hv0 := xhv0
  have hv1 := xhv1
  have hv2 := xhv2
  have hv3 := xhv3
  have hBw3 : Hid (Fr (vb) w w3) := Lib.hid (Fr.keep hBw1.out hS (by first | exact Or.inl rfl | exact Or.inr (by omega)))
  clear hS
  go_wp2_with fail
  try simp only [Act.put]
  refine wp_named ?_
  intro w5 ew5
  have hs5 : w3.heap.size ≤ w5.heap.size := by rw [ew5]; (try simp only [alloc_size, setRow_size]); omega
  replace hp0 : Fe w5 (pb) (po) (X.val) := by rw [ew5]; exact hp0
  replace hp1 : Fe w5 (pb) (po + 5) (Y.val) := by rw [ew5]; exact hp1
  replace hp2 : Fe w5 (pb) (po + 10) (Z.val) := by rw [ew5]; exact hp2
  replace hp3 : Fe w5 (pb) (po + 15) (T.val) := by rw [ew5]; exact hp3
  replace hv0 : Fe w5 (vb) (vo) (R1.val) := by rw [ew5]; exact hv0
  replace hv1 : Fe w5 (vb) (vo + 5) (v1) := by rw [ew5]; exact hv1
  replace hv2 : Fe w5 (vb) (vo + 10) (v2) := by rw [ew5]; exact hv2
  replace hv3 : Fe w5 (vb) (vo + 15) (v3) := by rw [ew5]; exact hv3
  have hBw5 : Hid (Fr (vb) w w5) := Lib.hid (by rw [ew5]; exact hBw3.out)
  clear ew5
  obtain ⟨R2, qR2⟩ : ∃ uu : Fp, uu = Y - X := ⟨_, rfl⟩
  have HR2 := Lib.hid qR2; clear qR2
  refine wp_region_noPanic ?_
  refine wp_region_held_drew (S := Keep (vb) w5) (by kernel_rfl) (Keep.start _ _) ?_
  intro hS
  obtain ⟨w6, ed⟩ : ∃ u : World, u = w5.drew := ⟨_, rfl⟩
  rw [← ed] at hS ⊢
  have xhp0 : Fe w6 (pb) (po) (X.val) := by rw [ed]; exact hp0
  have xhp1 : Fe w6 (pb) (po + 5) (Y.val) := by rw [ed]; exact hp1
  have xhp2 : Fe w6 (pb) (po + 10) (Z.val) := by rw [ed]; exact hp2
  have xhp3 : Fe w6 (pb) (po + 15) (T.val) := by rw [ed]; exact hp3
  have xhv0 : Fe w6 (vb) (vo) (R1.val) := by rw [ed]; exact hv0
  have xhv1 : Fe w6 (vb) (vo + 5) (v1) := by rw [ed]; exact hv1
  have xhv2 : Fe w6 (vb) (vo + 10) (v2) := by rw [ed]; exact hv2
  have xhv3 : Fe w6 (vb) (vo + 15) (v3) := by rw [ed]; exact hv3
  clear ed
  have hSz := hS.size
  refine takeAtK (i := 0) (v := .pointer (some ⟨vb, vo, none⟩)) rfl (some 15) rfl (take_run rfl (fun _ _ => by go_simp)) hS ?_
  simp only [Act.put, sia, sc0, scs]
  refine takeAtK (i := 1) (v := .pointer (some ⟨vb, vo, none⟩)) rfl (some 16) rfl (take_run rfl (fun _ _ => by go_simp)) hS ?_
  simp only [Act.put, sia, sc0, scs]
  refine takeAtK (i := 2) (v := .pointer (some ⟨vb, vo + 5, none⟩)) rfl (some 17) rfl (take_run rfl (fun _ _ => by go_simp)) hS ?_
  simp only [Act.put, sia, sc0, scs]
  refine takeAtK (i := 3) (v := .pointer (some ⟨pb, po, none⟩)) rfl (some 18) rfl (take_run rfl (fun _ _ => by go_simp)) hS ?_
  simp only [Act.put, sia, sc0, scs]
  refine takeAtK (i := 4) (v := .pointer (some ⟨pb, po, none⟩)) rfl (some 19) rfl (take_run rfl (fun _ _ => by go_simp)) hS ?_
  simp only [Act.put, sia, sc0, scs]
  refine takeAtK (i := 5) (v := .pointer (some ⟨pb, po + 5, none⟩)) rfl (some 20) rfl (take_run rfl (fun _ _ => by go_simp)) hS ?_
  simp only [Act.put, sia, sc0, scs]
  refine takeAtK (i := 6) (v := .pointer (some ⟨pb, po, none⟩)) rfl (some 21) rfl (take_run rfl (fun _ _ => by go_simp)) hS ?_
  simp only [Act.put, sia, sc0, scs]
  refine takeAtK (i := 7) (v := .pointer (some ⟨pb, po, none⟩)) rfl (some 22) rfl (take_run rfl (fun _ _ => by go_simp)) hS ?_
  simp only [Act.put, sia, sc0, scs]
  refine takeAtK (i := 8) (v := .pointer (some ⟨pb, po, none⟩)) rfl (some 23) rfl (take_run rfl (fun _ _ => by go_simp)) hS ?_
  simp only [Act.put, sia, sc0, scs]
  refine wpAnyH_ready (rs := [9]) (by kernel_rfl) (by simp) ?_
  refine (AllReadyH.cons rfl ?_ AllReadyH.nil)
  intro K hK
  refine ready_call rfl (some 24) rfl 57 #[.pointer (some ⟨vb, vo + 5, none⟩), .pointer (some ⟨pb, po + 5, none⟩), .pointer (some ⟨pb, po, none⟩)] (by go_simp) ?_
  refine (sub_ff (vb) (vo + 5) (pb) (po + 5) (pb) (po) _ _ _ _ xhv1 xhp1 xhp0 (apart_blk _ _ _ _ (by omega)) (apart_blk _ _ _ _ (by omega)) R2 HR2).mono ?_
  rintro e w7 ⟨rfl, hC⟩
  refine ⟨_, rfl, ?_⟩
  simp only [Act.put, sia, sc0, scs]
  have hz7 := hC.size
  have xhp0 : Fe w7 (pb) (po) (X.val) := (Sets.others hC xhp0 (by omega))
  have xhp1 : Fe w7 (pb) (po + 5) (Y.val) := (Sets.others hC xhp1 (by omega))
  have xhp2 : Fe w7 (pb) (po + 10) (Z.val) := (Sets.others hC xhp2 (by omega))
  have xhp3 : Fe w7 (pb) (po + 15) (T.val) := (Sets.others hC xhp3 (by omega))
  have xhv0 : Fe w7 (vb) (vo) (R1.val) := (Sets.others hC xhv0 (by omega))
  have xhv1 : Fe w7 (vb) (vo + 5) (R2.val) := (Sets.fe' hC xhv1)
  have xhv2 : Fe w7 (vb) (vo + 10) (v2) := (Sets.others hC xhv2 (by omega))
  have xhv3 : Fe w7 (vb) (vo + 15) (v3) := (Sets.others hC xhv3 (by omega))
  have hS := hS.setsR hC
  clear hC
  refine hK.out _ _ hS ?_
  clear hK K
  intro _
  have hSz := hS.size
  refine wpAnyH_done (by kernel_rfl) ?_ _
  refine NoPanic.normal ?_
  have hsz := hS.size
  have hp0 := xhp0
  have hp1 := xhp1
  have hp2 := xhp2
  have hp3 := xhp3
  have hv0 := xhv0
  have hv1 := xhv1
  have hv2 := xhv2
  have hv3 := xhv3
  have hBw7 : Hid (Fr (vb) w w7) := Lib.hid (Fr.keep hBw5.out hS (by first | exact Or.inl rfl | exact Or.inr (by omega)))
  clear hS
  go_wp2_with fail
  try simp only [Act.put]
  refine wp_named ?_
  intro w9 ew9
  have hs9 : w7.heap.size ≤ w9.heap.size := by rw [ew9]; (try simp only [alloc_size, setRow_size]); omega
  replace hp0 : Fe w9 (pb) (po) (X.val) := by rw [ew9]; exact hp0
  replace hp1 : Fe w9 (pb) (po + 5) (Y.val) := by rw [ew9]; exact hp1
  replace hp2 : Fe w9 (pb) (po + 10) (Z.val) := by rw [ew9]; exact hp2
  replace hp3 : Fe w9 (pb) (po + 15) (T.val) := by rw [ew9]; exact hp3
  replace hv0 : Fe w9 (vb) (vo) (R1.val) := by rw [ew9]; exact hv0
  replace hv1 : Fe w9 (vb) (vo + 5) (R2.val) := by rw [ew9]; exact hv1
  replace hv2 : Fe w9 (vb) (vo + 10) (v2) := by rw [ew9]; exact hv2
  replace hv3 : Fe w9 (vb) (vo + 15) (v3) := by rw [ew9]; exact hv3
  have hBw9 : Hid (Fr (vb) w w9) := Lib.hid (by rw [ew9]; exact hBw7.out)
  clear ew9
  refine wp_region_noPanic ?_
  refine wp_region_held_drew (S := Keep (vb) w9) (by kernel_rfl) (Keep.start _ _) ?_
  intro hS
  obtain ⟨w10, ed⟩ : ∃ u : World, u = w9.drew := ⟨_, rfl⟩
  rw [← ed] at hS ⊢
  have xhp0 : Fe w10 (pb) (po) (X.val) := by rw [ed]; exact hp0
  have xhp1 : Fe w10 (pb) (po + 5) (Y.val) := by rw [ed]; exact hp1
  have xhp2 : Fe w10 (pb) (po + 10) (Z.val) := by rw [ed]; exact hp2
  have xhp3 : Fe w10 (pb) (po + 15) (T.val) := by rw [ed]; exact hp3
  have xhv0 : Fe w10 (vb) (vo) (R1.val) := by rw [ed]; exact hv0
  have xhv1 : Fe w10 (vb) (vo + 5) (R2.val) := by rw [ed]; exact hv1
  have xhv2 : Fe w10 (vb) (vo + 10) (v2) := by rw [ed]; exact hv2
  have xhv3 : Fe w10 (vb) (vo + 15) (v3) := by rw [ed]; exact hv3
  clear ed
  have hSz := hS.size
  refine takeAtK (i := 0) (v := .pointer (some ⟨vb, vo, none⟩)) rfl (some 25) rfl (take_run rfl (fun _ _ => by go_simp)) hS ?_
  simp only [Act.put, sia, sc0, scs]
  refine takeAtK (i := 1) (v := .pointer (some ⟨vb, vo, none⟩)) rfl (some 26) rfl (take_run rfl (fun _ _ => by go_simp)) hS ?_
  simp only [Act.put, sia, sc0, scs]
  refine takeAtK (i := 2) (v := .pointer (some ⟨vb, vo + 10, none⟩)) rfl (some 27) rfl (take_run rfl (fun _ _ => by go_simp)) hS ?_
  simp only [Act.put, sia, sc0, scs]
  refine takeAtK (i := 3) (v := .pointer (some ⟨pb, po, none⟩)) rfl (some 28) rfl (take_run rfl (fun _ _ => by go_simp)) hS ?_
  simp only [Act.put, sia, sc0, scs]
  refine takeAtK (i := 4) (v := .pointer (some ⟨pb, po, none⟩)) rfl (some 29) rfl (take_run rfl (fun _ _ => by go_simp)) hS ?_
  simp only [Act.put, sia, sc0, scs]
  refine takeAtK (i := 5) (v := .pointer (some ⟨pb, po + 10, none⟩)) rfl (some 30) rfl (take_run rfl (fun _ _ => by go_simp)) hS ?_
  simp only [Act.put, sia, sc0, scs]
  refine wpAnyH_ready (rs := [6]) (by kernel_rfl) (by simp) ?_
  refine (AllReadyH.cons rfl ?_ AllReadyH.nil)
  intro K hK
  refine ready_call rfl (some 31) rfl 64 #[.pointer (some ⟨vb, vo + 10, none⟩), .pointer (some ⟨pb, po + 10, none⟩)] (by go_simp) ?_
  refine (set_fe (vb) (vo + 10) (pb) (po + 10) _ _ _ xhv2 xhp2).mono ?_
  rintro e w11 ⟨rfl, hC⟩
  refine ⟨_, rfl, ?_⟩
  simp only [Act.put, sia, sc0, scs]
  have hz11 := hC.size
  have xhp0 : Fe w11 (pb) (po) (X.val) := (Sets.others hC xhp0 (by omega))
  have xhp1 : Fe w11 (pb) (po + 5) (Y.val) := (Sets.others hC xhp1 (by omega))
  have xhp2 : Fe w11 (pb) (po + 10) (Z.val) := (Sets.others hC xhp2 (by omega))
  have xhp3 : Fe w11 (pb) (po + 15) (T.val) := (Sets.others hC xhp3 (by omega))
  have xhv0 : Fe w11 (vb) (vo) (R1.val) := (Sets.others hC xhv0 (by omega))
  have xhv1 : Fe w11 (vb) (vo + 5) (R2.val) := (Sets.others hC xhv1 (by omega))
  have xhv2 : Fe w11 (vb) (vo + 10) (Z.val) := (Sets.fe' hC xhv2)
  have xhv3 : Fe w11 (vb) (vo + 15) (v3) := (Sets.others hC xhv3 (by omega))
  have hS := hS.setsR hC
  clear hC
  refine hK.out _ _ hS ?_
  clear hK K
  intro _
  have hSz := hS.size
  refine wpAnyH_done (by kernel_rfl) ?_ _
  refine NoPanic.normal ?_
  have hsz := hS.size
  have hp0 := xhp0
  have hp1 := xhp1
  have hp2 := xhp2
  have hp3 := xhp3
  have hv0 := xhv0
  have hv1 := xhv1
  have hv2 := xhv2
  have hv3 := xhv3
  have hBw11 : Hid (Fr (vb) w w11) := Lib.hid (Fr.keep hBw9.out hS (by first | exact Or.inl rfl | exact Or.inr (by omega)))
  clear hS
  go_wp2_with fail
  try simp only [Act.put]
  refine wp_named ?_
  intro w13 ew13
  have hs13 : w11.heap.size ≤ w13.heap.size := by rw [ew13]; (try simp only [alloc_size, setRow_size]); omega
  replace hp0 : Fe w13 (pb) (po) (X.val) := by rw [ew13]; exact hp0
  replace hp1 : Fe w13 (pb) (po + 5) (Y.val) := by rw [ew13]; exact hp1
  replace hp2 : Fe w13 (pb) (po + 10) (Z.val) := by rw [ew13]; exact hp2
  replace hp3 : Fe w13 (pb) (po + 15) (T.val) := by rw [ew13]; exact hp3
  replace hv0 : Fe w13 (vb) (vo) (R1.val) := by rw [ew13]; exact hv0
  replace hv1 : Fe w13 (vb) (vo + 5) (R2.val) := by rw [ew13]; exact hv1
  replace hv2 : Fe w13 (vb) (vo + 10) (Z.val) := by rw [ew13]; exact hv2
  replace hv3 : Fe w13 (vb) (vo + 15) (v3) := by rw [ew13]; exact hv3
  have hBw13 : Hid (Fr (vb) w w13) := Lib.hid (by rw [ew13]; exact hBw11.out)
  clear ew13
  obtain ⟨R3, qR3⟩ : ∃ uu : Fp, uu = T * (fp dN + fp dN) := ⟨_, rfl⟩
  have HR3 := Lib.hid qR3; clear qR3
  refine wp_region_noPanic ?_
  refine wp_region_held_drew (S := Keep (vb) w13) (by kernel_rfl) (Keep.start _ _) ?_
  intro hS
  obtain ⟨w14, ed⟩ : ∃ u : World, u = w13.drew := ⟨_, rfl⟩
  rw [← ed] at hS ⊢
  have xhp0 : Fe w14 (pb) (po) (X.val) := by rw [ed]; exact hp0
  have xhp1 : Fe w14 (pb) (po + 5) (Y.val) := by rw [ed]; exact hp1
  have xhp2 : Fe w14 (pb) (po + 10) (Z.val) := by rw [ed]; exact hp2
  have xhp3 : Fe w14 (pb) (po + 15) (T.val) := by rw [ed]; exact hp3
  have xhv0 : Fe w14 (vb) (vo) (R1.val) := by rw [ed]; exact hv0
  have xhv1 : Fe w14 (vb) (vo + 5) (R2.val) := by rw [ed]; exact hv1
  have xhv2 : Fe w14 (vb) (vo + 10) (Z.val) := by rw [ed]; exact hv2
  have xhv3 : Fe w14 (vb) (vo + 15) (v3) := by rw [ed]; exact hv3
  clear ed
  have hSz := hS.size
  refine takeAtK (i := 0) (v := .pointer (some ⟨vb, vo, none⟩)) rfl (some 32) rfl (take_run rfl (fun _ _ => by go_simp)) hS ?_
  simp only [Act.put, sia, sc0, scs]
  refine takeAtK (i := 1) (v := .pointer (some ⟨vb, vo, none⟩)) rfl (some 33) rfl (take_run rfl (fun _ _ => by go_simp)) hS ?_
  simp only [Act.put, sia, sc0, scs]
  refine takeAtK (i := 2) (v := .pointer (some ⟨vb, vo + 15, none⟩)) rfl (some 34) rfl (take_run rfl (fun _ _ => by go_simp)) hS ?_
  simp only [Act.put, sia, sc0, scs]
  refine takeAtK (i := 3) (v := .pointer (some ⟨pb, po, none⟩)) rfl (some 35) rfl (take_run rfl (fun _ _ => by go_simp)) hS ?_
  simp only [Act.put, sia, sc0, scs]
  refine takeAtK (i := 4) (v := .pointer (some ⟨pb, po, none⟩)) rfl (some 36) rfl (take_run rfl (fun _ _ => by go_simp)) hS ?_
  simp only [Act.put, sia, sc0, scs]
  refine takeAtK (i := 5) (v := .pointer (some ⟨pb, po + 15, none⟩)) rfl (some 37) rfl (take_run rfl (fun _ _ => by go_simp)) hS ?_
  simp only [Act.put, sia, sc0, scs]
  refine wpAnyH_ready (rs := [6]) (by kernel_rfl) (by simp) ?_
  refine (AllReadyH.cons rfl ?_ AllReadyH.nil)
  intro K hK
  refine ready_call rfl (some 38) rfl 91 #[] (by go_simp) ?_
  refine (d2_new _).mono ?_
  rintro e w15 ⟨b4_6, rfl, hlb4_6, hC, xhf4_6⟩
  refine ⟨_, rfl, ?_⟩
  simp only [Act.put, sia, sc0, scs]
  have xhp0 : Fe w15 (pb) (po) (X.val) := (Fe.below_all xhp0 hC)
  have xhp1 : Fe w15 (pb) (po + 5) (Y.val) := (Fe.below_all xhp1 hC)
  have xhp2 : Fe w15 (pb) (po + 10) (Z.val) := (Fe.below_all xhp2 hC)
  have xhp3 : Fe w15 (pb) (po + 15) (T.val) := (Fe.below_all xhp3 hC)
  have xhv0 : Fe w15 (vb) (vo) (R1.val) := (Fe.below_all xhv0 hC)
  have xhv1 : Fe w15 (vb) (vo + 5) (R2.val) := (Fe.below_all xhv1 hC)
  have xhv2 : Fe w15 (vb) (vo + 10) (Z.val) := (Fe.below_all xhv2 hC)
  have xhv3 : Fe w15 (vb) (vo + 15) (v3) := (Fe.below_all xhv3 hC)
  have hS := hS.call hC
  have hz15 := hC.size
  clear hC
  have hlb4_6 : w14.heap.size ≤ b4_6 := by (try simp only [alloc_size, setRow_size] at hlb4_6); omega
  have hub4_6 := xhf4_6.lt
  refine hK.out _ _ hS ?_
  clear hK K
  intro _
  have hSz := hS.size
  refine wpAnyH_ready (rs := [7]) (by kernel_rfl) (by simp) ?_
  refine (AllReadyH.cons rfl ?_ AllReadyH.nil)
  intro K hK
  refine ready_call rfl (some 39) rfl 42 #[.pointer (some ⟨vb, vo + 15, none⟩), .pointer (some ⟨pb, po + 15, none⟩), .pointer (some ⟨b4_6, 0, none⟩)] (by go_simp) ?_
  refine (mul_ff (vb) (vo + 15) (pb) (po + 15) (b4_6) (0) _ _ _ _ xhv3 xhp3 xhf4_6 R3 HR3).mono ?_
  rintro e w16 ⟨rfl, hC⟩
  refine ⟨_, rfl, ?_⟩
  simp only [Act.put, sia, sc0, scs]
  have hz16 := hC.size
  have xhp0 : Fe w16 (pb) (po) (X.val) := (Sets.others hC xhp0 (by omega))
  have xhp1 : Fe w16 (pb) (po + 5) (Y.val) := (Sets.others hC xhp1 (by omega))
  have xhp2 : Fe w16 (pb) (po + 10) (Z.val) := (Sets.others hC xhp2 (by omega))
  have xhp3 : Fe w16 (pb) (po + 15) (T.val) := (Sets.others hC xhp3 (by omega))
  have xhv0 : Fe w16 (vb) (vo) (R1.val) := (Sets.others hC xhv0 (by omega))
  have xhv1 : Fe w16 (vb) (vo + 5) (R2.val) := (Sets.others hC xhv1 (by omega))
  have xhv2 : Fe w16 (vb) (vo + 10) (Z.val) := (Sets.others hC xhv2 (by omega))
  have xhv3 : Fe w16 (vb) (vo + 15) (R3.val) := (Sets.fe' hC xhv3)
  have xhf4_6 : Fe w16 (b4_6) (0) ((fp dN + fp dN).val) := (Sets.others hC xhf4_6 (by omega))
  have hS := hS.setsR hC
  clear hC
  refine hK.out _ _ hS ?_
  clear hK K
  intro _
  have hSz := hS.size
  refine wpAnyH_done (by kernel_rfl) ?_ _
  refine NoPanic.normal ?_
  have hsz := hS.size
  have hp0 := xhp0
  have hp1 := xhp1
  have hp2 := xhp2
  have hp3 := xhp3
  have hv0 := xhv0
  have hv1 := xhv1
  have hv2 := xhv2
  have hv3 := xhv3
  have hf4_6 := xhf4_6
  have hBw16 : Hid (Fr (vb) w w16) := Lib.hid (Fr.keep hBw13.out hS (by first | exact Or.inl rfl | exact Or.inr (by omega)))
  clear hS
  go_wp2
  go_ret
  refine ⟨rfl, hBw16.out, R1, R2, Z, R3, ?_, hv0, hv1, hv2, hv3⟩
  simp only [HR3.out, HR2.out, HR1.out]
  exact Rq.kept hP
set_option maxHeartbeats 4000000 in
theorem from_p1p1 (vb vo pb po v0 v1 v2 v3 : Nat) (X Y Z T : Fp) (p : CP) (hP : Rc p X Y Z T) (dpb : pb ≠ vb) (w : World) (hv0 : Fe w vb (vo) v0) (hv1 : Fe w vb (vo + 5) v1) (hv2 : Fe w vb (vo + 10) v2) (hv3 : Fe w vb (vo + 15) v3) (hp0 : Fe w pb (po) X.val) (hp1 : Fe w pb (po + 5) Y.val) (hp2 : Fe w pb (po + 10) Z.val) (hp3 : Fe w pb (po + 15) T.val) :
    Calls Tryd.prog 73 #[.pointer (some ⟨vb, vo, none⟩), .pointer (some ⟨pb, po, none⟩)] w fun e w' => e = .returned (.pointer (some ⟨vb, vo, none⟩)) ∧ Fr vb w w' ∧ ∃ r0 r1 r2 r3 : Fp, Rq p r0 r1 r2 r3 ∧ Fe w' vb (vo) r0.val ∧ Fe w' vb (vo + 5) r1.val ∧ Fe w' vb (vo + 10) r2.val ∧ Fe w' vb (vo + 15) r3.val := by
  have hvl := hv0.lt
  have hlhp := hp0.lt
  go_enter Tryd.func73, Tryd.ntmps73
  go_wp2_with fail
  try simp only [Act.put]
  refine wp_named ?_
  intro w1 ew1
  have hs1 : w.heap.size ≤ w1.heap.size := by rw [ew1]; (try simp only [alloc_size, setRow_size]); omega
  replace hp0 : Fe w1 (pb) (po) (X.val) := by rw [ew1]; exact hp0
  replace hp1 : Fe w1 (pb) (po + 5) (Y.val) := by rw [ew1]; exact hp1
  replace hp2 : Fe w1 (pb) (po + 10) (Z.val) := by rw [ew1]; exact hp2
  replace hp3 : Fe w1 (pb) (po + 15) (T.val) := by rw [ew1]; exact hp3
  replace hv0 : Fe w1 (vb) (vo) (v0) := by rw [ew1]; exact hv0
  replace hv1 : Fe w1 (vb) (vo + 5) (v1) := by rw [ew1]; exact hv1
  replace hv2 : Fe w1 (vb) (vo + 10) (v2) := by rw [ew1]; exact hv2
  replace hv3 : Fe w1 (vb) (vo + 15) (v3) := by rw [ew1]; exact hv3
  have hBw1 : Hid (Fr (vb) w w1) := Lib.hid (by rw [ew1]; exact (Fr.refl _ w))
  clear ew1
  obtain ⟨R1, qR1⟩ : ∃ uu : Fp, uu = X * T := ⟨_, rfl⟩
  have HR1 := Lib.hid qR1; clear qR1
  refine wp_region_noPanic ?_
  refine wp_region_held_drew (S := Keep (vb) w1) (by kernel_rfl) (Keep.start _ _) ?_
  intro hS
  obtain ⟨w2, ed⟩ : ∃ u : World, u = w1.drew := ⟨_, rfl⟩
  rw [← ed] at hS ⊢
  have xhp0 : Fe w2 (pb) (po) (X.val) := by rw [ed]; exact hp0
  have xhp1 : Fe w2 (pb) (po + 5) (Y.val) := by rw [ed]; exact hp1
  have xhp2 : Fe w2 (pb) (po + 10) (Z.val) := by rw [ed]; exact hp2
  have xhp3 : Fe w2 (pb) (po + 15) (T.val) := by rw [ed]; exact hp3
  have xhv0 : Fe w2 (vb) (vo) (v0) := by rw [ed]; exact hv0
  have xhv1 : Fe w2 (vb) (vo + 5) (v1) := by rw [ed]; exact hv1
  have xhv2 : Fe w2 (vb) (vo + 10) (v2) := by rw [ed]; exact hv2
  have xhv3 : Fe w2 (vb) (vo + 15) (v3) := by rw [ed]; exact hv3
  clear ed
  have hSz := hS.size
  refine takeAtK (i := 0) (v := .pointer (some ⟨vb, vo, none⟩)) rfl (some 5) rfl (take_run rfl (fun _ _ => by go_simp)) hS ?_
  simp only [Act.put, sia, sc0, scs]
  refine takeAtK (i := 1) (v := .pointer (some ⟨vb, vo, none⟩)) rfl (some 6) rfl (take_run rfl (fun _ _ => by go_simp)) hS ?_
  simp only [Act.put, sia, sc0, scs]
  refine takeAtK (i := 2) (v := .pointer (some ⟨vb, vo, none⟩)) rfl (some 7) rfl (take_run rfl (fun _ _ => by go_simp)) hS ?_
  simp only [Act.put, sia, sc0, scs]
  refine takeAtK (i := 3) (v := .pointer (some ⟨pb, po, none⟩)) rfl (some 8) rfl (take_run rfl (fun _ _ => by go_simp)) hS ?_
  simp only [Act.put, sia, sc0, scs]
  refine takeAtK (i := 4) (v := .pointer (some ⟨pb, po, none⟩)) rfl (some 9) rfl (take_run rfl (fun _ _ => by go_simp)) hS ?_
  simp only [Act.put, sia, sc0, scs]
  refine takeAtK (i := 5) (v := .pointer (some ⟨pb, po, none⟩)) rfl (some 10) rfl (take_run rfl (fun _ _ => by go_simp)) hS ?_
  simp only [Act.put, sia, sc0, scs]
  refine takeAtK (i := 6) (v := .pointer (some ⟨pb, po, none⟩)) rfl (some 11) rfl (take_run rfl (fun _ _ => by go_simp)) hS ?_
  simp only [Act.put, sia, sc0, scs]
  refine takeAtK (i := 7) (v := .pointer (some ⟨pb, po, none⟩)) rfl (some 12) rfl (take_run rfl (fun _ _ => by go_simp)) hS ?_
  simp only [Act.put, sia, sc0, scs]
  refine takeAtK (i := 8) (v := .pointer (some ⟨pb, po + 15, none⟩)) rfl (some 13) rfl (take_run rfl (fun _ _ => by go_simp)) hS ?_
  simp only [Act.put, sia, sc0, scs]
  refine wpAnyH_ready (rs := [9]) (by kernel_rfl) (by simp) ?_
  refine (AllReadyH.cons rfl ?_ AllReadyH.nil)
  intro K hK
  refine ready_call rfl (some 14) rfl 42 #[.pointer (some ⟨vb, vo, none⟩), .pointer (some ⟨pb, po, none⟩), .pointer (some ⟨pb, po + 15, none⟩)] (by go_simp) ?_
  refine (mul_ff (vb) (vo) (pb) (po) (pb) (po + 15) _ _ _ _ xhv0 xhp0 xhp3 R1 HR1).mono ?_
  rintro e w3 ⟨rfl, hC⟩
  refine ⟨_, rfl, ?_⟩
  simp only [Act.put, sia, sc0, scs]
  have hz3 := hC.size
  have xhp0 : Fe w3 (pb) (po) (X.val) := (Sets.others hC xhp0 (by omega))
  have xhp1 : Fe w3 (pb) (po + 5) (Y.val) := (Sets.others hC xhp1 (by omega))
  have xhp2 : Fe w3 (pb) (po + 10) (Z.val) := (Sets.others hC xhp2 (by omega))
  have xhp3 : Fe w3 (pb) (po + 15) (T.val) := (Sets.others hC xhp3 (by omega))
  have xhv0 : Fe w3 (vb) (vo) (R1.val) := (Sets.fe' hC xhv0)
  have xhv1 : Fe w3 (vb) (vo + 5) (v1) := (Sets.others hC xhv1 (by omega))
  have xhv2 : Fe w3 (vb) (vo + 10) (v2) := (Sets.others hC xhv2 (by omega))
  have xhv3 : Fe w3 (vb) (vo + 15) (v3) := (Sets.others hC xhv3 (by omega))
  have hS := hS.setsR hC
  clear hC
  refine hK.out _ _ hS ?_
  clear hK K
  intro _
  have hSz := hS.size
  refine wpAnyH_done (by kernel_rfl) ?_ _
  refine NoPanic.normal ?_
  have hsz := hS.size
  have hp0 := xhp0
  have hp1 := xhp1
  have hp2 := xhp2
  have hp3 := xhp3
  have hv0 := xhv0
  have hv1 := xhv1
  have hv2 := xhv2
  have hv3 := xhv3
  have hBw3 : Hid (Fr (vb) w w3) := Lib.hid (Fr.keep hBw1.out hS (by first | exact Or.inl rfl | exact Or.inr (by omega)))
  clear hS
  go_wp2_with fail
  try simp only [Act.put]
  refine wp_named ?_
  intro w5 ew5
  have hs5 : w3.heap.size ≤ w5.heap.size := by rw [ew5]; (try simp only [alloc_size, setRow_size]); omega
  replace hp0 : Fe w5 (pb) (po) (X.val) := by rw [ew5]; exact hp0
  replace hp1 : Fe w5 (pb) (po + 5) (Y.val) := by rw [ew5]; exact hp1
  replace hp2 : Fe w5 (pb) (po + 10) (Z.val) := by rw [ew5]; exact hp2
  replace hp3 : Fe w5 (pb) (po + 15) (T.val) := by rw [ew5]; exact hp3
  replace hv0 : Fe w5 (vb) (vo) (R1.val) := by rw [ew5]; exact hv0
  replace hv1 : Fe w5 (vb) (vo + 5) (v1) := by rw [ew5]; exact hv1
  replace hv2 : Fe w5 (vb) (vo + 10) (v2) := by rw [ew5]; exact hv2
  replace hv3 : Fe w5 (vb) (vo + 15) (v3) := by rw [ew5]; exact hv3
  have hBw5 : Hid (Fr (vb) w w5) := Lib.hid (by rw [ew5]; exact hBw3.out)
  clear ew5
  obtain ⟨R2, qR2⟩ : ∃ uu : Fp, uu = Y * Z := ⟨_, rfl⟩
  have HR2 := Lib.hid qR2; clear qR2
  refine wp_region_noPanic ?_
  refine wp_region_held_drew (S := Keep (vb) w5) (by kernel_rfl) (Keep.start _ _) ?_
  intro hS
  obtain ⟨w6, ed⟩ : ∃ u : World, u = w5.drew := ⟨_, rfl⟩
  rw [← ed] at hS ⊢
  have xhp0 : Fe w6 (pb) (po) (X.val) := by rw [ed]; exact hp0
  have xhp1 : Fe w6 (pb) (po + 5) (Y.val) := by rw [ed]; exact hp1
  have xhp2 : Fe w6 (pb) (po + 10) (Z.val) := by rw [ed]; exact hp2
  have xhp3 : Fe w6 (pb) (po + 15) (T.val) := by rw [ed]; exact hp3
  have xhv0 : Fe w6 (vb) (vo) (R1.val) := by rw [ed]; exact hv0
  have xhv1 : Fe w6 (vb) (vo + 5) (v1) := by rw [ed]; exact hv1
  have xhv2 : Fe w6 (vb) (vo + 10) (v2) := by rw [ed]; exact hv2
  have xhv3 : Fe w6 (vb) (vo + 15) (v3) := by rw [ed]; exact hv3
  clear ed
  have hSz := hS.size
  refine takeAtK (i := 0) (v := .pointer (some ⟨vb, vo, none⟩)) rfl (some 15) rfl (take_run rfl (fun _ _ => by go_simp)) hS ?_
  simp only [Act.put, sia, sc0, scs]
  refine takeAtK (i := 1) (v := .pointer (some ⟨vb, vo, none⟩)) rfl (some 16) rfl (take_run rfl (fun _ _ => by go_simp)) hS ?_
  simp only [Act.put, sia, sc0, scs]
  refine takeAtK (i := 2) (v := .pointer (some ⟨vb, vo + 5, none⟩)) rfl (some 17) rfl (take_run rfl (fun _ _ => by go_simp)) hS ?_
  simp only [Act.put, sia, sc0, scs]
  refine takeAtK (i := 3) (v := .pointer (some ⟨pb, po, none⟩)) rfl (some 18) rfl (take_run rfl (fun _ _ => by go_simp)) hS ?_
  simp only [Act.put, sia, sc0, scs]
  refine takeAtK (i := 4) (v := .pointer (some ⟨pb, po, none⟩)) rfl (some 19) rfl (take_run rfl (fun _ _ => by go_simp)) hS ?_
  simp only [Act.put, sia, sc0, scs]
  refine takeAtK (i := 5) (v := .pointer (some ⟨pb, po + 5, none⟩)) rfl (some 20) rfl (take_run rfl (fun _ _ => by go_simp)) hS ?_
  simp only [Act.put, sia, sc0, scs]
  refine takeAtK (i := 6) (v := .pointer (some ⟨pb, po, none⟩)) rfl (some 21) rfl (take_run rfl (fun _ _ => by go_simp)) hS ?_
  simp only [Act.put, sia, sc0, scs]
  refine takeAtK (i := 7) (v := .pointer (some ⟨pb, po, none⟩)) rfl (some 22) rfl (take_run rfl (fun _ _ => by go_simp)) hS ?_
  simp only [Act.put, sia, sc0, scs]
  refine takeAtK (i := 8) (v := .pointer (some ⟨pb, po + 10, none⟩)) rfl (some 23) rfl (take_run rfl (fun _ _ => by go_simp)) hS ?_
  simp only [Act.put, sia, sc0, scs]
  refine wpAnyH_ready (rs := [9]) (by kernel_rfl) (by simp) ?_
  refine (AllReadyH.cons rfl ?_ AllReadyH.nil)
  intro K hK
  refine ready_call rfl (some 24) rfl 42 #[.pointer (some ⟨vb, vo + 5, none⟩), .pointer (some ⟨pb, po + 5, none⟩), .pointer (some ⟨pb, po + 10, none⟩)] (by go_simp) ?_
  refine (mul_ff (vb) (vo + 5) (pb) (po + 5) (pb) (po + 10) _ _ _ _ xhv1 xhp1 xhp2 R2 HR2).mono ?_
  rintro e w7 ⟨rfl, hC⟩
  refine ⟨_, rfl, ?_⟩
  simp only [Act.put, sia, sc0, scs]
  have hz7 := hC.size
  have xhp0 : Fe w7 (pb) (po) (X.val) := (Sets.others hC xhp0 (by omega))
  have xhp1 : Fe w7 (pb) (po + 5) (Y.val) := (Sets.others hC xhp1 (by omega))
  have xhp2 : Fe w7 (pb) (po + 10) (Z.val) := (Sets.others hC xhp2 (by omega))
  have xhp3 : Fe w7 (pb) (po + 15) (T.val) := (Sets.others hC xhp3 (by omega))
  have xhv0 : Fe w7 (vb) (vo) (R1.val) := (Sets.others hC xhv0 (by omega))
  have xhv1 : Fe w7 (vb) (vo + 5) (R2.val) := (Sets.fe' hC xhv1)
  have xhv2 : Fe w7 (vb) (vo + 10) (v2) := (Sets.others hC xhv2 (by omega))
  have xhv3 : Fe w7 (vb) (vo + 15) (v3) := (Sets.others hC xhv3 (by omega))
  have hS := hS.setsR hC
  clear hC
  refine hK.out _ _ hS ?_
  clear hK K
  intro _
  have hSz := hS.size
  refine wpAnyH_done (by kernel_rfl) ?_ _
  refine NoPanic.normal ?_
  have hsz := hS.size
  have hp0 := xhp0
  have hp1 := xhp1
  have hp2 := xhp2
  have hp3 := xhp3
  have hv0 := xhv0
  have hv1 := xhv1
  have hv2 := xhv2
  have hv3 := xhv3
  have hBw7 : Hid (Fr (vb) w w7) := Lib.hid (Fr.keep hBw5.out hS (by first | exact Or.inl rfl | exact Or.inr (by omega)))
  clear hS
  go_wp2_with fail
  try simp only [Act.put]
  refine wp_named ?_
  intro w9 ew9
  have hs9 : w7.heap.size ≤ w9.heap.size := by rw [ew9]; (try simp only [alloc_size, setRow_size]); omega
  replace hp0 : Fe w9 (pb) (po) (X.val) := by rw [ew9]; exact hp0
  replace hp1 : Fe w9 (pb) (po + 5) (Y.val) := by rw [ew9]; exact hp1
  replace hp2 : Fe w9 (pb) (po + 10) (Z.val) := by rw [ew9]; exact hp2
  replace hp3 : Fe w9 (pb) (po + 15) (T.val) := by rw [ew9]; exact hp3
  replace hv0 : Fe w9 (vb) (vo) (R1.val) := by rw [ew9]; exact hv0
  replace hv1 : Fe w9 (vb) (vo + 5) (R2.val) := by rw [ew9]; exact hv1
  replace hv2 : Fe w9 (vb) (vo + 10) (v2) := by rw [ew9]; exact hv2
  replace hv3 : Fe w9 (vb) (vo + 15) (v3) := by rw [ew9]; exact hv3
  have hBw9 : Hid (Fr (vb) w w9) := Lib.hid (by rw [ew9]; exact hBw7.out)
  clear ew9
  obtain ⟨R3, qR3⟩ : ∃ uu : Fp, uu = Z * T := ⟨_, rfl⟩
  have HR3 := Lib.hid qR3; clear qR3
  refine wp_region_noPanic ?_
  refine wp_region_held_drew (S := Keep (vb) w9) (by kernel_rfl) (Keep.start _ _) ?_
  intro hS
  obtain ⟨w10, ed⟩ : ∃ u : World, u = w9.drew := ⟨_, rfl⟩
  rw [← ed] at hS ⊢
  have xhp0 : Fe w10 (pb) (po) (X.val) := by rw [ed]; exact hp0
  have xhp1 : Fe w10 (pb) (po + 5) (Y.val) := by rw [ed]; exact hp1
  have xhp2 : Fe w10 (pb) (po + 10) (Z.val) := by rw [ed]; exact hp2
  have xhp3 : Fe w10 (pb) (po + 15) (T.val) := by rw [ed]; exact hp3
  have xhv0 : Fe w10 (vb) (vo) (R1.val) := by rw [ed]; exact hv0
  have xhv1 : Fe w10 (vb) (vo + 5) (R2.val) := by rw [ed]; exact hv1
  have xhv2 : Fe w10 (vb) (vo + 10) (v2) := by rw [ed]; exact hv2
  have xhv3 : Fe w10 (vb) (vo + 15) (v3) := by rw [ed]; exact hv3
  clear ed
  have hSz := hS.size
  refine takeAtK (i := 0) (v := .pointer (some ⟨vb, vo, none⟩)) rfl (some 25) rfl (take_run rfl (fun _ _ => by go_simp)) hS ?_
  simp only [Act.put, sia, sc0, scs]
  refine takeAtK (i := 1) (v := .pointer (some ⟨vb, vo, none⟩)) rfl (some 26) rfl (take_run rfl (fun _ _ => by go_simp)) hS ?_
  simp only [Act.put, sia, sc0, scs]
  refine takeAtK (i := 2) (v := .pointer (some ⟨vb, vo + 10, none⟩)) rfl (some 27) rfl (take_run rfl (fun _ _ => by go_simp)) hS ?_
  simp only [Act.put, sia, sc0, scs]
  refine takeAtK (i := 3) (v := .pointer (some ⟨pb, po, none⟩)) rfl (some 28) rfl (take_run rfl (fun _ _ => by go_simp)) hS ?_
  simp only [Act.put, sia, sc0, scs]
  refine takeAtK (i := 4) (v := .pointer (some ⟨pb, po, none⟩)) rfl (some 29) rfl (take_run rfl (fun _ _ => by go_simp)) hS ?_
  simp only [Act.put, sia, sc0, scs]
  refine takeAtK (i := 5) (v := .pointer (some ⟨pb, po + 10, none⟩)) rfl (some 30) rfl (take_run rfl (fun _ _ => by go_simp)) hS ?_
  simp only [Act.put, sia, sc0, scs]
  refine takeAtK (i := 6) (v := .pointer (some ⟨pb, po, none⟩)) rfl (some 31) rfl (take_run rfl (fun _ _ => by go_simp)) hS ?_
  simp only [Act.put, sia, sc0, scs]
  refine takeAtK (i := 7) (v := .pointer (some ⟨pb, po, none⟩)) rfl (some 32) rfl (take_run rfl (fun _ _ => by go_simp)) hS ?_
  simp only [Act.put, sia, sc0, scs]
  refine takeAtK (i := 8) (v := .pointer (some ⟨pb, po + 15, none⟩)) rfl (some 33) rfl (take_run rfl (fun _ _ => by go_simp)) hS ?_
  simp only [Act.put, sia, sc0, scs]
  refine wpAnyH_ready (rs := [9]) (by kernel_rfl) (by simp) ?_
  refine (AllReadyH.cons rfl ?_ AllReadyH.nil)
  intro K hK
  refine ready_call rfl (some 34) rfl 42 #[.pointer (some ⟨vb, vo + 10, none⟩), .pointer (some ⟨pb, po + 10, none⟩), .pointer (some ⟨pb, po + 15, none⟩)] (by go_simp) ?_
  refine (mul_ff (vb) (vo + 10) (pb) (po + 10) (pb) (po + 15) _ _ _ _ xhv2 xhp2 xhp3 R3 HR3).mono ?_
  rintro e w11 ⟨rfl, hC⟩
  refine ⟨_, rfl, ?_⟩
  simp only [Act.put, sia, sc0, scs]
  have hz11 := hC.size
  have xhp0 : Fe w11 (pb) (po) (X.val) := (Sets.others hC xhp0 (by omega))
  have xhp1 : Fe w11 (pb) (po + 5) (Y.val) := (Sets.others hC xhp1 (by omega))
  have xhp2 : Fe w11 (pb) (po + 10) (Z.val) := (Sets.others hC xhp2 (by omega))
  have xhp3 : Fe w11 (pb) (po + 15) (T.val) := (Sets.others hC xhp3 (by omega))
  have xhv0 : Fe w11 (vb) (vo) (R1.val) := (Sets.others hC xhv0 (by omega))
  have xhv1 : Fe w11 (vb) (vo + 5) (R2.val) := (Sets.others hC xhv1 (by omega))
  have xhv2 : Fe w11 (vb) (vo + 10) (R3.val) := (Sets.fe' hC xhv2)
  have xhv3 : Fe w11 (vb) (vo + 15) (v3) := (Sets.others hC xhv3 (by omega))
  have hS := hS.setsR hC
  clear hC
  refine hK.out _ _ hS ?_
  clear hK K
  intro _
  have hSz := hS.size
  refine wpAnyH_done (by kernel_rfl) ?_ _
  refine NoPanic.normal ?_
  have hsz := hS.size
  have hp0 := xhp0
  have hp1 := xhp1
  have hp2 := xhp2
  have hp3 := xhp3
  have hv0 := xhv0
  have hv1 := xhv1
  have hv2 := xhv2
  have hv3 := xhv3
  have hBw11 : Hid (Fr (vb) w w11) := Lib.hid (Fr.keep hBw9.out hS (by first | exact Or.inl rfl | exact Or.inr (by omega)))
  clear hS
  go_wp2_with fail
  try simp only [Act.put]
  refine wp_named ?_
  intro w13 ew13
  have hs13 : w11.heap.size ≤ w13.heap.size := by rw [ew13]; (try simp only [alloc_size, setRow_size]); omega
  replace hp0 : Fe w13 (pb) (po) (X.val) := by rw [ew13]; exact hp0
  replace hp1 : Fe w13 (pb) (po + 5) (Y.val) := by rw [ew13]; exact hp1
  replace hp2 : Fe w13 (pb) (po + 10) (Z.val) := by rw [ew13]; exact hp2
  replace hp3 : Fe w13 (pb) (po + 15) (T.val) := by rw [ew13]; exact hp3
  replace hv0 : Fe w13 (vb) (vo) (R1.val) := by rw [ew13]; exact hv0
  replace hv1 : Fe w13 (vb) (vo + 5) (R2.val) := by rw [ew13]; exact hv1
  replace hv2 : Fe w13 (vb) (vo + 10) (R3.val) := by rw [ew13]; exact hv2
  replace hv3 : Fe w13 (vb) (vo + 15) (v3) := by rw [ew13]; exact hv3
  have hBw13 : Hid (Fr (vb) w w13) := Lib.hid (by rw [ew13]; exact hBw11.out)
  clear ew13
  obtain ⟨R4, qR4⟩ : ∃ uu : Fp, uu = X * Y := ⟨_, rfl⟩
  have HR4 := Lib.hid qR4; clear qR4
  refine wp_region_noPanic ?_
  refine wp_region_held_drew (S := Keep (vb) w13) (by kernel_rfl) (Keep.start _ _) ?_
  intro hS
  obtain ⟨w14, ed⟩ : ∃ u : World, u = w13.drew := ⟨_, rfl⟩
  rw [← ed] at hS ⊢
  have xhp0 : Fe w14 (pb) (po) (X.val) := by rw [ed]; exact hp0
  have xhp1 : Fe w14 (pb) (po + 5) (Y.val) := by rw [ed]; exact hp1
  have xhp2 : Fe w14 (pb) (po + 10) (Z.val) := by rw [ed]; exact hp2
  have xhp3 : Fe w14 (pb) (po + 15) (T.val) := by rw [ed]; exact hp3
  have xhv0 : Fe w14 (vb) (vo) (R1.val) := by rw [ed]; exact hv0
  have xhv1 : Fe w14 (vb) (vo + 5) (R2.val) := by rw [ed]; exact hv1
  have xhv2 : Fe w14 (vb) (vo + 10) (R3.val) := by rw [ed]; exact hv2
  have xhv3 : Fe w14 (vb) (vo + 15) (v3) := by rw [ed]; exact hv3
  clear ed
  have hSz := hS.size
  refine takeAtK (i := 0) (v := .pointer (some ⟨vb, vo, none⟩)) rfl (some 35) rfl (take_run rfl (fun _ _ => by go_simp)) hS ?_
  simp only [Act.put, sia, sc0, scs]
  refine takeAtK (i := 1) (v := .pointer (some ⟨vb, vo, none⟩)) rfl (some 36) rfl (take_run rfl (fun _ _ => by go_simp)) hS ?_
  simp only [Act.put, sia, sc0, scs]
  refine takeAtK (i := 2) (v := .pointer (some ⟨vb, vo + 15, none⟩)) rfl (some 37) rfl (take_run rfl (fun _ _ => by go_simp)) hS ?_
  simp only [Act.put, sia, sc0, scs]
  refine takeAtK (i := 3) (v := .pointer (some ⟨pb, po, none⟩)) rfl (some 38) rfl (take_run rfl (fun _ _ => by go_simp)) hS ?_
  simp only [Act.put, sia, sc0, scs]
  refine takeAtK (i := 4) (v := .pointer (some ⟨pb, po, none⟩)) rfl (some 39) rfl (take_run rfl (fun _ _ => by go_simp)) hS ?_
  simp only [Act.put, sia, sc0, scs]
  refine takeAtK (i := 5) (v := .pointer (some ⟨pb, po, none⟩)) rfl (some 40) rfl (take_run rfl (fun _ _ => by go_simp)) hS ?_
  simp only [Act.put, sia, sc0, scs]
  refine takeAtK (i := 6) (v := .pointer (some ⟨pb, po, none⟩)) rfl (some 41) rfl (take_run rfl (fun _ _ => by go_simp)) hS ?_
  simp only [Act.put, sia, sc0, scs]
  refine takeAtK (i := 7) (v := .pointer (some ⟨pb, po, none⟩)) rfl (some 42) rfl (take_run rfl (fun _ _ => by go_simp)) hS ?_
  simp only [Act.put, sia, sc0, scs]
  refine takeAtK (i := 8) (v := .pointer (some ⟨pb, po + 5, none⟩)) rfl (some 43) rfl (take_run rfl (fun _ _ => by go_simp)) hS ?_
  simp only [Act.put, sia, sc0, scs]
  refine wpAnyH_ready (rs := [9]) (by kernel_rfl) (by simp) ?_
  refine (AllReadyH.cons rfl ?_ AllReadyH.nil)
  intro K hK
  refine ready_call rfl (some 44) rfl 42 #[.pointer (some ⟨vb, vo + 15, none⟩), .pointer (some ⟨pb, po, none⟩), .pointer (some ⟨pb, po + 5, none⟩)] (by go_simp) ?_
  refine (mul_ff (vb) (vo + 15) (pb) (po) (pb) (po + 5) _ _ _ _ xhv3 xhp0 xhp1 R4 HR4).mono ?_
  rintro e w15 ⟨rfl, hC⟩
  refine ⟨_, rfl, ?_⟩
  simp only [Act.put, sia, sc0, scs]
  have hz15 := hC.size
  have xhp0 : Fe w15 (pb) (po) (X.val) := (Sets.others hC xhp0 (by omega))
  have xhp1 : Fe w15 (pb) (po + 5) (Y.val) := (Sets.others hC xhp1 (by omega))
  have xhp2 : Fe w15 (pb) (po + 10) (Z.val) := (Sets.others hC xhp2 (by omega))
  have xhp3 : Fe w15 (pb) (po + 15) (T.val) := (Sets.others hC xhp3 (by omega))
  have xhv0 : Fe w15 (vb) (vo) (R1.val) := (Sets.others hC xhv0 (by omega))
  have xhv1 : Fe w15 (vb) (vo + 5) (R2.val) := (Sets.others hC xhv1 (by omega))
  have xhv2 : Fe w15 (vb) (vo + 10) (R3.val) := (Sets.others hC xhv2 (by omega))
  have xhv3 : Fe w15 (vb) (vo + 15) (R4.val) := (Sets.fe' hC xhv3)
  have hS := hS.setsR hC
  clear hC
  refine hK.out _ _ hS ?_
  clear hK K
  intro _
  have hSz := hS.size
  refine wpAnyH_done (by kernel_rfl) ?_ _
  refine NoPanic.normal ?_
  have hsz := hS.size
  have hp0 := xhp0
  have hp1 := xhp1
  have hp2 := xhp2
  have hp3 := xhp3
  have hv0 := xhv0
  have hv1 := xhv1
  have hv2 := xhv2
  have hv3 := xhv3
  have hBw15 : Hid (Fr (vb) w w15) := Lib.hid (Fr.keep hBw13.out hS (by first | exact Or.inl rfl | exact Or.inr (by omega)))
  clear hS
  go_wp2
  go_ret
  refine ⟨rfl, hBw15.out, R1, R2, R3, R4, ?_, hv0, hv1, hv2, hv3⟩
  simp only [HR4.out, HR3.out, HR2.out, HR1.out]
  exact Rc.p3 hP
end

section
open Go.RowKit
set_option maxHeartbeats 4000000 in
theorem snegated (P : CP) (X Y Z : Fp) (rA : Rp P X Y Z) (w : World) :
    Calls Tryd.prog 38 #[.agg (ptC X.val Y.val Z.val)] w fun e w' => ∃ x y z : Fp, e = .returned (.agg (ptC x.val y.val z.val)) ∧ Below w.heap.size w w' ∧ Rp (P.neg) x y z := by
  go_enter Tryd.func38, Tryd.ntmps38
  go_wp2_with fail
  try simp only [Act.put]
  refine wp_named ?_
  intro w1 ew1
  have hs1 : w.heap.size + 1 + 1 ≤ w1.heap.size := by rw [ew1]; (try simp only [alloc_size, setRow_size]); omega
  replace h1 : w1.heap[w.heap.size]? = some (.cells (ptC (X.val) (Y.val) (Z.val)) 45 (0, 0)) := by rw [ew1]; exact (heap_old _ (heap_new_at _ _ _ rfl))
  replace h2 : w1.heap[w.heap.size + 1]? = some (.cells (z12) 45 (0, 0)) := by rw [ew1]; exact (heap_new_at _ _ _ (by simp only [alloc_size, setRow_size]))
  have hBw1 : Hid (Below w.heap.size w w1) := Lib.hid (by rw [ew1]; exact (below_alloc (below_alloc (Below.refl _ w) _) _))
  clear ew1
  obtain ⟨R1, qR1⟩ : ∃ uu : Fp, uu = -X := ⟨_, rfl⟩
  have HR1 := Lib.hid qR1; clear qR1
  refine wp_region_noPanic ?_
  refine wp_region_held_drew (S := Keep (w.heap.size + 1) w1) (by kernel_rfl) (Keep.start _ _) ?_
  intro hS
  obtain ⟨w2, ed⟩ : ∃ u : World, u = w1.drew := ⟨_, rfl⟩
  rw [← ed] at hS ⊢
  have xh1 : w2.heap[w.heap.size]? = some (.cells (ptC (X.val) (Y.val) (Z.val)) 45 (0, 0)) := by rw [ed]; exact h1
  have xh2 : w2.heap[w.heap.size + 1]? = some (.cells (z12) 45 (0, 0)) := by rw [ed]; exact h2
  clear ed
  have hSz := hS.size
  clear xh1
  refine takeAtK (i := 0) (v := .pointer (some ⟨w.heap.size, 0, none⟩)) rfl (some 3) rfl (take_run rfl (fun _ _ => by go_simp)) hS ?_
  simp only [Act.put, sia, sc0, scs]
  refine takeAtK (i := 1) (v := .agg (numC X.val)) rfl (some 4) rfl (take_part rfl _ _ rfl (w.heap.size) 0 rfl _ _ _ h1 (by omega) (numC (X.val)) (part_x _ _ _) underNum rfl (infoNum_of _ (numC_size _))) hS ?_
  simp only [Act.put, sia, sc0, scs]
  refine takeAtK (i := 3) (v := .pointer (some ⟨w.heap.size, 4, none⟩)) rfl (some 6) rfl (take_run rfl (fun _ _ => by go_simp)) hS ?_
  simp only [Act.put, sia, sc0, scs]
  refine takeAtK (i := 4) (v := .agg (numC Y.val)) rfl (some 7) rfl (take_part rfl _ _ rfl (w.heap.size) 4 rfl _ _ _ h1 (by omega) (numC (Y.val)) (part_y _ _ _) underNum rfl (infoNum_of _ (numC_size _))) hS ?_
  simp only [Act.put, sia, sc0, scs]
  refine takeAtK (i := 5) (v := .pointer (some ⟨w.heap.size, 8, none⟩)) rfl (some 8) rfl (take_run rfl (fun _ _ => by go_simp)) hS ?_
  simp only [Act.put, sia, sc0, scs]
  refine takeAtK (i := 6) (v := .agg (numC Z.val)) rfl (some 9) rfl (take_part rfl _ _ rfl (w.heap.size) 8 rfl _ _ _ h1 (by omega) (numC (Z.val)) (part_z _ _ _) underNum rfl (infoNum_of _ (numC_size _))) hS ?_
  simp only [Act.put, sia, sc0, scs]
  refine wpAnyH_ready (rs := [2]) (by kernel_rfl) (by simp) ?_
  refine (AllReadyH.cons rfl ?_ AllReadyH.nil)
  intro K hK
  refine ready_call rfl (some 5) rfl 53 #[.agg (numC X.val)] (by go_simp) ?_
  refine (sopposite_ff X R1 HR1 _).mono ?_
  rintro e w3 ⟨rfl, hC⟩
  refine ⟨_, rfl, ?_⟩
  simp only [Act.put, sia, sc0, scs]
  have xh2 : w3.heap[w.heap.size + 1]? = some (.cells (z12) 45 (0, 0)) := (heap_call hC xh2)
  have hS := hS.call hC
  have hz3 := hC.size
  clear hC
  refine hK.out _ _ hS ?_
  clear hK K
  intro _
  have hSz := hS.size
  refine takeAtK (i := 7) (v := .agg (ptC (R1.val) (Y.val) (Z.val))) rfl (some 10) rfl (take_built rfl 45 _ rfl (ptC (R1.val) (Y.val) (Z.val)) (by kernel_rfl)) hS ?_
  simp only [Act.put, sia, sc0, scs]
  refine wpAnyH_ready (rs := [8]) (by kernel_rfl) (by simp) ?_
  refine (AllReadyH.cons rfl ?_ AllReadyH.nil)
  intro K hK
  rw [if_pos (by rfl)]
  refine wp_store_row 45 _ _ rfl (w.heap.size + 1) (ptC (R1.val) (Y.val) (Z.val)) rfl rfl 45 (z12) xh2 (infoPt_of (ptC (R1.val) (Y.val) (Z.val)) (ptC_size _ _ _)) (z12_size.trans (ptC_size _ _ _).symm) (ptC_one _ _ _) ?_
  refine put_at (none) rfl ?_
  simp only [Act.put, sia, sc0, scs]
  have xh2 : (w3.setRow (w.heap.size + 1) (ptC (R1.val) (Y.val) (Z.val))).heap[w.heap.size + 1]? = some (.cells (ptC (R1.val) (Y.val) (Z.val)) 45 (0, 0)) := (setRow_heap _ _ _ _ _ _ xh2)
  have hS := hS.store (ptC (R1.val) (Y.val) (Z.val))
  generalize w3.setRow (w.heap.size + 1) (ptC (R1.val) (Y.val) (Z.val)) = w4 at *
  refine hK.out _ _ hS ?_
  clear hK K
  intro _
  have hSz := hS.size
  refine wpAnyH_done (by kernel_rfl) ?_ _
  refine NoPanic.normal ?_
  have hsz := hS.size
  have h1 : w4.heap[w.heap.size]? = some (.cells (ptC (X.val) (Y.val) (Z.val)) 45 (0, 0)) := hS.old h1 (by omega)
  have h2 := xh2
  have hBw4 : Hid (Below w.heap.size w w4) := Lib.hid (hBw1.out.trans (hS.below (by omega) hBw1.out.size))
  clear hS
  go_wp2
  refine bodyPost_ret (results_cell_row rfl _ _ (w.heap.size + 1) 45 (ptC (R1.val) (Y.val) (Z.val)) (0, 0) _ rfl h2 underPt rfl (infoPt_of (ptC (R1.val) (Y.val) (Z.val)) (ptC_size _ _ _))) rfl ⟨R1, Y, Z, rfl, hBw4.out, ?_⟩
  rw [HR1.out]; exact Rp.neg rA
end

end Go.Proofs.YtcenlinpbpbpoaaDoor
