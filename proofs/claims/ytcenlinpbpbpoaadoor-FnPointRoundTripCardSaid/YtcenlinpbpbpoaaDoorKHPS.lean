/- Parts of texts for several laws: SetBytes of a point. -/
import Derived.BigRegion
import Derived.ChangeKeysEq
import Derived.Deep.DeepCutAuto
import Derived.Deep.Draws
import Derived.Deep.Fields
import Derived.Deep.MidRow
import Derived.Deep.Quiet
import Derived.Deep.RegionHeld3
import Derived.Deep.WholeRow
import Derived.Great.BuildSlice
import Derived.LaidMore
import Derived.Laws.Bits64b
import Derived.Laws.CopyOwn
import Derived.Laws.CopyRow
import Derived.Laws.Externs
import Derived.Laws.StructEq
import Derived.Laws.Tables
import Derived.Lib.Hide
import Derived.LoopTactic
import Derived.OpenShut
import Derived.ProofKit
import Derived.StillTailTactics
import Derived.Stop.Joined
import Derived.Test.YtcenlinpbpbpoaaDoorProg
import Derived.WalkKit
import Derived.WalkLawsBesides
import Derived.WalkSpells
import Derived.WideKeyArgs
import Derived.Test.YtcenlinpbpbpoaaDoorKHF1
import Derived.Test.YtcenlinpbpbpoaaDoorKHF3
import Derived.Test.YtcenlinpbpbpoaaDoorKHGr
import Derived.Test.YtcenlinpbpbpoaaDoorKHPP
import Derived.Test.YtcenlinpbpbpoaaDoorKHU1
import Derived.Test.YtcenlinpbpbpoaaDoorKHUM
import Derived.Test.YtcenlinpbpbpoaaDoorKHUN
import Derived.Test.YtcenlinpbpbpoaaDoorKHUS
import Derived.Test.YtcenlinpbpbpoaaDoorKHUSR
import Derived.Test.YtcenlinpbpbpoaaDoorKHUSe
import Derived.Test.YtcenlinpbpbpoaaDoorKL0
import Derived.Test.YtcenlinpbpbpoaaDoorKL1
import Derived.Test.YtcenlinpbpbpoaaDoorKL2
import Derived.Test.YtcenlinpbpbpoaaDoorKL3
import Derived.Test.YtcenlinpbpbpoaaDoorKL4
namespace Go.Proofs.YtcenlinpbpbpoaaDoor
set_option maxRecDepth 4000
set_option linter.unusedSimpArgs false
set_option linter.unusedVariables false
section
open Go.RowKit
theorem errNew (s : ByteArray) (w : World) : Calls Tryd.prog 55 #[.string s] w fun e w' => ∃ v, e = .returned (.iface 108 v) ∧ Below w.heap.size w w' := by
  go_enter Tryd.func55, Tryd.ntmps55
  go_wp2
  go_ret
  exact ⟨_, rfl, below_alloc (Below.refl _ w) _⟩
theorem dcU_F (Y R1 R2 : Fp) (h1 : R1 = Y * Y) (h2 : R2 = R1 - (1 : Fp)) : R2.val = dcU Y.val := by
  have h : R2 = fp (dcU Y.val) := by rw [fp_dcU, fp_of, h2, h1]
  rw [h]; exact fp_lt (dcU_lt _)
theorem dcV_F (Y R1 R3 R4 : Fp) (h1 : R1 = Y * Y) (h3 : R3 = R1 * (fp dN)) (h4 : R4 = R3 + (1 : Fp)) : R4.val = dcV Y.val := by
  have h : R4 = fp (dcV Y.val) := by rw [fp_dcV, fp_of, h4, h3, h1]; generalize fp dN = d; grind
  rw [h]; exact fp_lt (dcV_lt _)
set_option maxHeartbeats 4000000 in
theorem setBytes_none (vb vo xb xo N cap v0 v1 v2 v3 : Nat) (Y RT : Fp) (HY : Hid (Y.val = valN N)) (hD : Hid (dcIs Y.val = false)) (hRT : Hid (RT.val = dcR Y.val)) (hcap : 32 ≤ cap) (hne : xb ≠ vb) (B : Nat) (w : World) (hD0 : Var 1 z5 B w) (hD1 : Var 0 i5 B w) (hD2 : Var 2 o5 B w) (hvB : B ≤ vb) (hv0 : Fe w vb (vo) v0) (hv1 : Fe w vb (vo + 5) v1) (hv2 : Fe w vb (vo + 10) v2) (hv3 : Fe w vb (vo + 15) v3) (hx : Row w xb xo 32 (byV N)) :
    Calls Tryd.prog 30 #[.pointer (some ⟨vb, vo, none⟩), .slice (some ⟨xb, xo, none⟩) 32 cap] w fun e w' => ∃ u, e = .returned (.tuple #[.pointer none, .iface 108 u]) ∧ Below w.heap.size w w' := by
  have hvl := hv0.lt; have hxl := hx.lt; have hBl := hD0.1
  go_enter Tryd.func30, Tryd.ntmps30
  go_wp2_with fail
  refine (setBytes_ff (w.heap.size) (0) (xb) (xo) (N) (cap) _ Y HY _ (Fe.newz_at _ _ rfl) (Row.alloc hx _) (by omega) (by omega)).mono ?_
  rintro e w1 ⟨rfl, hC1⟩
  have hs1 : w.heap.size + 1 ≤ w1.heap.size := by have := hC1.size; (try simp only [alloc_size, setRow_size] at this); omega
  replace hx : Row w1 (xb) (xo) 32 (byV N) := (Sets.rows hC1 (Row.alloc hx _) (by omega))
  replace hv0 : Fe w1 (vb) (vo) (v0) := (Sets.others hC1 (Fe.alloc hv0 _) (by omega))
  replace hv1 : Fe w1 (vb) (vo + 5) (v1) := (Sets.others hC1 (Fe.alloc hv1 _) (by omega))
  replace hv2 : Fe w1 (vb) (vo + 10) (v2) := (Sets.others hC1 (Fe.alloc hv2 _) (by omega))
  replace hv3 : Fe w1 (vb) (vo + 15) (v3) := (Sets.others hC1 (Fe.alloc hv3 _) (by omega))
  replace h15 : Fe w1 (w.heap.size) (0) (Y.val) := (Sets.fe' hC1 (Fe.newz_at _ _ rfl))
  have hBw1 : Hid (Below w.heap.size w w1) := Lib.hid ((below_alloc (Below.refl _ w) _).trans (hC1.below (by omega) (below_alloc (Below.refl _ w) _).size))
  clear hC1
  go_wp2_with fail
  obtain ⟨R1, qR1⟩ : ∃ uu : Fp, uu = Y * Y := ⟨_, rfl⟩
  have HR1 := Lib.hid qR1; clear qR1
  refine (square_ff (w1.heap.size) (0) (w.heap.size) (0) _ _ _ (Fe.newz_at _ _ rfl) (Fe.alloc h15 _) R1 HR1).mono ?_
  rintro e w2 ⟨rfl, hC2⟩
  have hs2 : w1.heap.size + 1 ≤ w2.heap.size := by have := hC2.size; (try simp only [alloc_size, setRow_size] at this); omega
  replace hx : Row w2 (xb) (xo) 32 (byV N) := (Sets.rows hC2 (Row.alloc hx _) (by omega))
  replace hv0 : Fe w2 (vb) (vo) (v0) := (Sets.others hC2 (Fe.alloc hv0 _) (by omega))
  replace hv1 : Fe w2 (vb) (vo + 5) (v1) := (Sets.others hC2 (Fe.alloc hv1 _) (by omega))
  replace hv2 : Fe w2 (vb) (vo + 10) (v2) := (Sets.others hC2 (Fe.alloc hv2 _) (by omega))
  replace hv3 : Fe w2 (vb) (vo + 15) (v3) := (Sets.others hC2 (Fe.alloc hv3 _) (by omega))
  replace h15 : Fe w2 (w.heap.size) (0) (Y.val) := (Sets.others hC2 (Fe.alloc h15 _) (by omega))
  replace h23 : Fe w2 (w1.heap.size) (0) (R1.val) := (Sets.fe' hC2 (Fe.newz_at _ _ rfl))
  have hBw2 : Hid (Below w.heap.size w w2) := Lib.hid ((below_alloc hBw1.out _).trans (hC2.below (by omega) (below_alloc hBw1.out _).size))
  clear hC2
  go_wp2_with fail
  refine (feOne_new B _ (hD2.later (below_alloc hBw2.out _))).mono ?_
  rintro e w3 ⟨b5_2, rfl, hlb5_2, hC3, xhf5_2⟩
  have hs3 : w2.heap.size + 1 ≤ w3.heap.size := by have := hC3.size; (try simp only [alloc_size, setRow_size] at this); omega
  replace hx : Row w3 (xb) (xo) 32 (byV N) := (Row.below_all (Row.alloc hx _) hC3)
  replace hv0 : Fe w3 (vb) (vo) (v0) := (Fe.below_all (Fe.alloc hv0 _) hC3)
  replace hv1 : Fe w3 (vb) (vo + 5) (v1) := (Fe.below_all (Fe.alloc hv1 _) hC3)
  replace hv2 : Fe w3 (vb) (vo + 10) (v2) := (Fe.below_all (Fe.alloc hv2 _) hC3)
  replace hv3 : Fe w3 (vb) (vo + 15) (v3) := (Fe.below_all (Fe.alloc hv3 _) hC3)
  replace h15 : Fe w3 (w.heap.size) (0) (Y.val) := (Fe.below_all (Fe.alloc h15 _) hC3)
  replace h23 : Fe w3 (w1.heap.size) (0) (R1.val) := (Fe.below_all (Fe.alloc h23 _) hC3)
  replace h26 : Fe w3 (w2.heap.size) (0) (0) := (Fe.below_all (Fe.newz_at _ _ rfl) hC3)
  have hBw3 : Hid (Below w.heap.size w w3) := Lib.hid (below_call (below_alloc hBw2.out _) hC3)
  clear hC3
  have hlb5_2 : w2.heap.size + 1 ≤ b5_2 := by (try simp only [alloc_size, setRow_size] at hlb5_2); omega
  have hub5_2 := xhf5_2.lt
  go_wp2_with fail
  obtain ⟨R2, qR2⟩ : ∃ uu : Fp, uu = R1 - (1 : Fp) := ⟨_, rfl⟩
  have HR2 := Lib.hid qR2; clear qR2
  refine (sub_ff (w2.heap.size) (0) (w1.heap.size) (0) (b5_2) (0) _ _ _ _ h26 h23 xhf5_2 (apart_blk _ _ _ _ (by omega)) (apart_blk _ _ _ _ (by omega)) R2 HR2).mono ?_
  rintro e w4 ⟨rfl, hC4⟩
  have hs4 : w3.heap.size ≤ w4.heap.size := by have := hC4.size; (try simp only [alloc_size, setRow_size] at this); omega
  replace hx : Row w4 (xb) (xo) 32 (byV N) := (Sets.rows hC4 hx (by omega))
  replace hv0 : Fe w4 (vb) (vo) (v0) := (Sets.others hC4 hv0 (by omega))
  replace hv1 : Fe w4 (vb) (vo + 5) (v1) := (Sets.others hC4 hv1 (by omega))
  replace hv2 : Fe w4 (vb) (vo + 10) (v2) := (Sets.others hC4 hv2 (by omega))
  replace hv3 : Fe w4 (vb) (vo + 15) (v3) := (Sets.others hC4 hv3 (by omega))
  replace h15 : Fe w4 (w.heap.size) (0) (Y.val) := (Sets.others hC4 h15 (by omega))
  replace h23 : Fe w4 (w1.heap.size) (0) (R1.val) := (Sets.others hC4 h23 (by omega))
  replace hf5_2 : Fe w4 (b5_2) (0) ((1 : Fp).val) := (Sets.others hC4 xhf5_2 (by omega))
  replace h26 : Fe w4 (w2.heap.size) (0) (R2.val) := (Sets.fe' hC4 h26)
  have hBw4 : Hid (Below w.heap.size w w4) := Lib.hid (hBw3.out.trans (hC4.below (by omega) hBw3.out.size))
  clear hC4
  go_wp2_with fail
  refine (dOf_new _).mono ?_
  rintro e w5 ⟨b6_2, rfl, hlb6_2, hC5, xhf6_2⟩
  have hs5 : w4.heap.size + 1 ≤ w5.heap.size := by have := hC5.size; (try simp only [alloc_size, setRow_size] at this); omega
  replace hx : Row w5 (xb) (xo) 32 (byV N) := (Row.below_all (Row.alloc hx _) hC5)
  replace hv0 : Fe w5 (vb) (vo) (v0) := (Fe.below_all (Fe.alloc hv0 _) hC5)
  replace hv1 : Fe w5 (vb) (vo + 5) (v1) := (Fe.below_all (Fe.alloc hv1 _) hC5)
  replace hv2 : Fe w5 (vb) (vo + 10) (v2) := (Fe.below_all (Fe.alloc hv2 _) hC5)
  replace hv3 : Fe w5 (vb) (vo + 15) (v3) := (Fe.below_all (Fe.alloc hv3 _) hC5)
  replace h15 : Fe w5 (w.heap.size) (0) (Y.val) := (Fe.below_all (Fe.alloc h15 _) hC5)
  replace h23 : Fe w5 (w1.heap.size) (0) (R1.val) := (Fe.below_all (Fe.alloc h23 _) hC5)
  replace hf5_2 : Fe w5 (b5_2) (0) ((1 : Fp).val) := (Fe.below_all (Fe.alloc hf5_2 _) hC5)
  replace h26 : Fe w5 (w2.heap.size) (0) (R2.val) := (Fe.below_all (Fe.alloc h26 _) hC5)
  replace h30 : Fe w5 (w4.heap.size) (0) (0) := (Fe.below_all (Fe.newz_at _ _ rfl) hC5)
  have hBw5 : Hid (Below w.heap.size w w5) := Lib.hid (below_call (below_alloc hBw4.out _) hC5)
  clear hC5
  have hlb6_2 : w4.heap.size + 1 ≤ b6_2 := by (try simp only [alloc_size, setRow_size] at hlb6_2); omega
  have hub6_2 := xhf6_2.lt
  go_wp2_with fail
  obtain ⟨R3, qR3⟩ : ∃ uu : Fp, uu = R1 * (fp dN) := ⟨_, rfl⟩
  have HR3 := Lib.hid qR3; clear qR3
  refine (mul_ff (w4.heap.size) (0) (w1.heap.size) (0) (b6_2) (0) _ _ _ _ h30 h23 xhf6_2 R3 HR3).mono ?_
  rintro e w6 ⟨rfl, hC6⟩
  have hs6 : w5.heap.size ≤ w6.heap.size := by have := hC6.size; (try simp only [alloc_size, setRow_size] at this); omega
  replace hx : Row w6 (xb) (xo) 32 (byV N) := (Sets.rows hC6 hx (by omega))
  replace hv0 : Fe w6 (vb) (vo) (v0) := (Sets.others hC6 hv0 (by omega))
  replace hv1 : Fe w6 (vb) (vo + 5) (v1) := (Sets.others hC6 hv1 (by omega))
  replace hv2 : Fe w6 (vb) (vo + 10) (v2) := (Sets.others hC6 hv2 (by omega))
  replace hv3 : Fe w6 (vb) (vo + 15) (v3) := (Sets.others hC6 hv3 (by omega))
  replace h15 : Fe w6 (w.heap.size) (0) (Y.val) := (Sets.others hC6 h15 (by omega))
  replace h23 : Fe w6 (w1.heap.size) (0) (R1.val) := (Sets.others hC6 h23 (by omega))
  replace hf5_2 : Fe w6 (b5_2) (0) ((1 : Fp).val) := (Sets.others hC6 hf5_2 (by omega))
  replace h26 : Fe w6 (w2.heap.size) (0) (R2.val) := (Sets.others hC6 h26 (by omega))
  replace hf6_2 : Fe w6 (b6_2) (0) ((fp dN).val) := (Sets.others hC6 xhf6_2 (by omega))
  replace h30 : Fe w6 (w4.heap.size) (0) (R3.val) := (Sets.fe' hC6 h30)
  have hBw6 : Hid (Below w.heap.size w w6) := Lib.hid (hBw5.out.trans (hC6.below (by omega) hBw5.out.size))
  clear hC6
  go_wp2_with fail
  refine (feOne_new B _ (hD2.later hBw6.out)).mono ?_
  rintro e w7 ⟨b7_2, rfl, hlb7_2, hC7, xhf7_2⟩
  have hs7 : w6.heap.size ≤ w7.heap.size := by have := hC7.size; (try simp only [alloc_size, setRow_size] at this); omega
  replace hx : Row w7 (xb) (xo) 32 (byV N) := (Row.below_all hx hC7)
  replace hv0 : Fe w7 (vb) (vo) (v0) := (Fe.below_all hv0 hC7)
  replace hv1 : Fe w7 (vb) (vo + 5) (v1) := (Fe.below_all hv1 hC7)
  replace hv2 : Fe w7 (vb) (vo + 10) (v2) := (Fe.below_all hv2 hC7)
  replace hv3 : Fe w7 (vb) (vo + 15) (v3) := (Fe.below_all hv3 hC7)
  replace h15 : Fe w7 (w.heap.size) (0) (Y.val) := (Fe.below_all h15 hC7)
  replace h23 : Fe w7 (w1.heap.size) (0) (R1.val) := (Fe.below_all h23 hC7)
  replace hf5_2 : Fe w7 (b5_2) (0) ((1 : Fp).val) := (Fe.below_all hf5_2 hC7)
  replace h26 : Fe w7 (w2.heap.size) (0) (R2.val) := (Fe.below_all h26 hC7)
  replace hf6_2 : Fe w7 (b6_2) (0) ((fp dN).val) := (Fe.below_all hf6_2 hC7)
  replace h30 : Fe w7 (w4.heap.size) (0) (R3.val) := (Fe.below_all h30 hC7)
  have hBw7 : Hid (Below w.heap.size w w7) := Lib.hid (below_call hBw6.out hC7)
  clear hC7
  have hlb7_2 : w6.heap.size ≤ b7_2 := by (try simp only [alloc_size, setRow_size] at hlb7_2); omega
  have hub7_2 := xhf7_2.lt
  go_wp2_with fail
  obtain ⟨R4, qR4⟩ : ∃ uu : Fp, uu = R3 + (1 : Fp) := ⟨_, rfl⟩
  have HR4 := Lib.hid qR4; clear qR4
  refine (add_ff (w4.heap.size) (0) (w4.heap.size) (0) (b7_2) (0) _ _ _ _ h30 h30 xhf7_2 (Or.inl ⟨rfl, rfl⟩) (apart_blk _ _ _ _ (by omega)) R4 HR4).mono ?_
  rintro e w8 ⟨rfl, hC8⟩
  have hs8 : w7.heap.size ≤ w8.heap.size := by have := hC8.size; (try simp only [alloc_size, setRow_size] at this); omega
  replace hx : Row w8 (xb) (xo) 32 (byV N) := (Sets.rows hC8 hx (by omega))
  replace hv0 : Fe w8 (vb) (vo) (v0) := (Sets.others hC8 hv0 (by omega))
  replace hv1 : Fe w8 (vb) (vo + 5) (v1) := (Sets.others hC8 hv1 (by omega))
  replace hv2 : Fe w8 (vb) (vo + 10) (v2) := (Sets.others hC8 hv2 (by omega))
  replace hv3 : Fe w8 (vb) (vo + 15) (v3) := (Sets.others hC8 hv3 (by omega))
  replace h15 : Fe w8 (w.heap.size) (0) (Y.val) := (Sets.others hC8 h15 (by omega))
  replace h23 : Fe w8 (w1.heap.size) (0) (R1.val) := (Sets.others hC8 h23 (by omega))
  replace hf5_2 : Fe w8 (b5_2) (0) ((1 : Fp).val) := (Sets.others hC8 hf5_2 (by omega))
  replace h26 : Fe w8 (w2.heap.size) (0) (R2.val) := (Sets.others hC8 h26 (by omega))
  replace hf6_2 : Fe w8 (b6_2) (0) ((fp dN).val) := (Sets.others hC8 hf6_2 (by omega))
  replace hf7_2 : Fe w8 (b7_2) (0) ((1 : Fp).val) := (Sets.others hC8 xhf7_2 (by omega))
  replace h30 : Fe w8 (w4.heap.size) (0) (R4.val) := (Sets.fe' hC8 h30)
  have hBw8 : Hid (Below w.heap.size w w8) := Lib.hid (hBw7.out.trans (hC8.below (by omega) hBw7.out.size))
  clear hC8
  have eU := dcU_F Y R1 R2 HR1.out HR2.out
  have eV := dcV_F Y R1 R3 R4 HR1.out HR3.out HR4.out
  have HRT : Hid (RT.val = sqR R2.val R4.val) := Lib.hid (by rw [eU, eV]; exact hRT.out)
  have HZ : Hid ((0 : Int) = if sqW R2.val R4.val then 1 else 0) := Lib.hid (by rw [eU, eV]; have h := hD.out; unfold dcIs at h; rw [h]; rfl)
  clear eU eV
  go_wp2_with fail
  refine (sqrt_fe (w8.heap.size) (0) (w2.heap.size) (0) (w4.heap.size) (0) _ _ _ B _ (hD0.later (below_alloc hBw8.out _)) (hD1.later (below_alloc hBw8.out _)) (Fe.newz_at _ _ rfl) (Fe.alloc h26 _) (Fe.alloc h30 _) RT.val HRT 0 HZ).mono ?_
  rintro e w9 ⟨rfl, hC9⟩
  have hs9 : w8.heap.size + 1 ≤ w9.heap.size := by have := hC9.size; (try simp only [alloc_size, setRow_size] at this); omega
  replace hx : Row w9 (xb) (xo) 32 (byV N) := (Sets.rows hC9 (Row.alloc hx _) (by omega))
  replace hv0 : Fe w9 (vb) (vo) (v0) := (Sets.others hC9 (Fe.alloc hv0 _) (by omega))
  replace hv1 : Fe w9 (vb) (vo + 5) (v1) := (Sets.others hC9 (Fe.alloc hv1 _) (by omega))
  replace hv2 : Fe w9 (vb) (vo + 10) (v2) := (Sets.others hC9 (Fe.alloc hv2 _) (by omega))
  replace hv3 : Fe w9 (vb) (vo + 15) (v3) := (Sets.others hC9 (Fe.alloc hv3 _) (by omega))
  replace h15 : Fe w9 (w.heap.size) (0) (Y.val) := (Sets.others hC9 (Fe.alloc h15 _) (by omega))
  replace h23 : Fe w9 (w1.heap.size) (0) (R1.val) := (Sets.others hC9 (Fe.alloc h23 _) (by omega))
  replace hf5_2 : Fe w9 (b5_2) (0) ((1 : Fp).val) := (Sets.others hC9 (Fe.alloc hf5_2 _) (by omega))
  replace h26 : Fe w9 (w2.heap.size) (0) (R2.val) := (Sets.others hC9 (Fe.alloc h26 _) (by omega))
  replace hf6_2 : Fe w9 (b6_2) (0) ((fp dN).val) := (Sets.others hC9 (Fe.alloc hf6_2 _) (by omega))
  replace hf7_2 : Fe w9 (b7_2) (0) ((1 : Fp).val) := (Sets.others hC9 (Fe.alloc hf7_2 _) (by omega))
  replace h30 : Fe w9 (w4.heap.size) (0) (R4.val) := (Sets.others hC9 (Fe.alloc h30 _) (by omega))
  replace h39 : Fe w9 (w8.heap.size) (0) (RT.val) := (Sets.fe' hC9 (Fe.newz_at _ _ rfl))
  have hBw9 : Hid (Below w.heap.size w w9) := Lib.hid ((below_alloc hBw8.out _).trans (hC9.below (by omega) (below_alloc hBw8.out _).size))
  clear hC9
  go_wp2_with fail
  refine (errNew _ _).mono ?_
  rintro e w10 ⟨u10_0, rfl, hC10⟩
  have hs10 : w9.heap.size ≤ w10.heap.size := by have := hC10.size; (try simp only [alloc_size, setRow_size] at this); omega
  replace hx : Row w10 (xb) (xo) 32 (byV N) := (Row.below_all hx hC10)
  replace hv0 : Fe w10 (vb) (vo) (v0) := (Fe.below_all hv0 hC10)
  replace hv1 : Fe w10 (vb) (vo + 5) (v1) := (Fe.below_all hv1 hC10)
  replace hv2 : Fe w10 (vb) (vo + 10) (v2) := (Fe.below_all hv2 hC10)
  replace hv3 : Fe w10 (vb) (vo + 15) (v3) := (Fe.below_all hv3 hC10)
  replace h15 : Fe w10 (w.heap.size) (0) (Y.val) := (Fe.below_all h15 hC10)
  replace h23 : Fe w10 (w1.heap.size) (0) (R1.val) := (Fe.below_all h23 hC10)
  replace hf5_2 : Fe w10 (b5_2) (0) ((1 : Fp).val) := (Fe.below_all hf5_2 hC10)
  replace h26 : Fe w10 (w2.heap.size) (0) (R2.val) := (Fe.below_all h26 hC10)
  replace hf6_2 : Fe w10 (b6_2) (0) ((fp dN).val) := (Fe.below_all hf6_2 hC10)
  replace hf7_2 : Fe w10 (b7_2) (0) ((1 : Fp).val) := (Fe.below_all hf7_2 hC10)
  replace h30 : Fe w10 (w4.heap.size) (0) (R4.val) := (Fe.below_all h30 hC10)
  replace h39 : Fe w10 (w8.heap.size) (0) (RT.val) := (Fe.below_all h39 hC10)
  have hBw10 : Hid (Below w.heap.size w w10) := Lib.hid (below_call hBw9.out hC10)
  clear hC10
  go_wp2
  go_ret2
  exact ⟨_, rfl, hBw10.out⟩
set_option maxHeartbeats 4000000 in
theorem setBytes_pos (vb vo xb xo N cap v0 v1 v2 v3 : Nat) (Y RT : Fp) (HY : Hid (Y.val = valN N)) (hD : Hid (dcIs Y.val = true)) (hRT : Hid (RT.val = dcR Y.val)) (hcap : 32 ≤ cap) (hne : xb ≠ vb) (P : CP) (lN : N < 256 ^ 32) (hs : Hid (¬ N / 57896044618658097711785492504343953926634992332820282019728792003956564819968 = 1)) (eP : Hid (RT = P.x)) (eY : Hid (Y = P.y)) (B : Nat) (w : World) (hD0 : Var 1 z5 B w) (hD1 : Var 0 i5 B w) (hD2 : Var 2 o5 B w) (hvB : B ≤ vb) (hv0 : Fe w vb (vo) v0) (hv1 : Fe w vb (vo + 5) v1) (hv2 : Fe w vb (vo + 10) v2) (hv3 : Fe w vb (vo + 15) v3) (hx : Row w xb xo 32 (byV N)) :
    Calls Tryd.prog 30 #[.pointer (some ⟨vb, vo, none⟩), .slice (some ⟨xb, xo, none⟩) 32 cap] w fun e w' => e = .returned (.tuple #[.pointer (some ⟨vb, vo, none⟩), .nilIface]) ∧ Fr vb w w' ∧ ∃ r0 r1 r2 r3 : Fp, Rq P r0 r1 r2 r3 ∧ Fe w' vb (vo) r0.val ∧ Fe w' vb (vo + 5) r1.val ∧ Fe w' vb (vo + 10) r2.val ∧ Fe w' vb (vo + 15) r3.val := by
  have hvl := hv0.lt; have hxl := hx.lt; have hBl := hD0.1
  go_enter Tryd.func30, Tryd.ntmps30
  go_wp2_with fail
  refine (setBytes_ff (w.heap.size) (0) (xb) (xo) (N) (cap) _ Y HY _ (Fe.newz_at _ _ rfl) (Row.alloc hx _) (by omega) (by omega)).mono ?_
  rintro e w1 ⟨rfl, hC1⟩
  have hs1 : w.heap.size + 1 ≤ w1.heap.size := by have := hC1.size; (try simp only [alloc_size, setRow_size] at this); omega
  replace hx : Row w1 (xb) (xo) 32 (byV N) := (Sets.rows hC1 (Row.alloc hx _) (by omega))
  replace hv0 : Fe w1 (vb) (vo) (v0) := (Sets.others hC1 (Fe.alloc hv0 _) (by omega))
  replace hv1 : Fe w1 (vb) (vo + 5) (v1) := (Sets.others hC1 (Fe.alloc hv1 _) (by omega))
  replace hv2 : Fe w1 (vb) (vo + 10) (v2) := (Sets.others hC1 (Fe.alloc hv2 _) (by omega))
  replace hv3 : Fe w1 (vb) (vo + 15) (v3) := (Sets.others hC1 (Fe.alloc hv3 _) (by omega))
  replace h15 : Fe w1 (w.heap.size) (0) (Y.val) := (Sets.fe' hC1 (Fe.newz_at _ _ rfl))
  have hBw1 : Hid (Fr (vb) w w1) := Lib.hid (Fr.sets (Fr.alloc (Fr.refl _ w) _) hC1 (by omega))
  clear hC1
  go_wp2_with fail
  obtain ⟨R1, qR1⟩ : ∃ uu : Fp, uu = Y * Y := ⟨_, rfl⟩
  have HR1 := Lib.hid qR1; clear qR1
  refine (square_ff (w1.heap.size) (0) (w.heap.size) (0) _ _ _ (Fe.newz_at _ _ rfl) (Fe.alloc h15 _) R1 HR1).mono ?_
  rintro e w2 ⟨rfl, hC2⟩
  have hs2 : w1.heap.size + 1 ≤ w2.heap.size := by have := hC2.size; (try simp only [alloc_size, setRow_size] at this); omega
  replace hx : Row w2 (xb) (xo) 32 (byV N) := (Sets.rows hC2 (Row.alloc hx _) (by omega))
  replace hv0 : Fe w2 (vb) (vo) (v0) := (Sets.others hC2 (Fe.alloc hv0 _) (by omega))
  replace hv1 : Fe w2 (vb) (vo + 5) (v1) := (Sets.others hC2 (Fe.alloc hv1 _) (by omega))
  replace hv2 : Fe w2 (vb) (vo + 10) (v2) := (Sets.others hC2 (Fe.alloc hv2 _) (by omega))
  replace hv3 : Fe w2 (vb) (vo + 15) (v3) := (Sets.others hC2 (Fe.alloc hv3 _) (by omega))
  replace h15 : Fe w2 (w.heap.size) (0) (Y.val) := (Sets.others hC2 (Fe.alloc h15 _) (by omega))
  replace h23 : Fe w2 (w1.heap.size) (0) (R1.val) := (Sets.fe' hC2 (Fe.newz_at _ _ rfl))
  have hBw2 : Hid (Fr (vb) w w2) := Lib.hid (Fr.sets (Fr.alloc hBw1.out _) hC2 (by omega))
  clear hC2
  go_wp2_with fail
  refine (feOne_new B _ (hD2.below (Fr.below (Fr.alloc hBw2.out _) (by omega) (by omega)))).mono ?_
  rintro e w3 ⟨b5_2, rfl, hlb5_2, hC3, xhf5_2⟩
  have hs3 : w2.heap.size + 1 ≤ w3.heap.size := by have := hC3.size; (try simp only [alloc_size, setRow_size] at this); omega
  replace hx : Row w3 (xb) (xo) 32 (byV N) := (Row.below_all (Row.alloc hx _) hC3)
  replace hv0 : Fe w3 (vb) (vo) (v0) := (Fe.below_all (Fe.alloc hv0 _) hC3)
  replace hv1 : Fe w3 (vb) (vo + 5) (v1) := (Fe.below_all (Fe.alloc hv1 _) hC3)
  replace hv2 : Fe w3 (vb) (vo + 10) (v2) := (Fe.below_all (Fe.alloc hv2 _) hC3)
  replace hv3 : Fe w3 (vb) (vo + 15) (v3) := (Fe.below_all (Fe.alloc hv3 _) hC3)
  replace h15 : Fe w3 (w.heap.size) (0) (Y.val) := (Fe.below_all (Fe.alloc h15 _) hC3)
  replace h23 : Fe w3 (w1.heap.size) (0) (R1.val) := (Fe.below_all (Fe.alloc h23 _) hC3)
  replace h26 : Fe w3 (w2.heap.size) (0) (0) := (Fe.below_all (Fe.newz_at _ _ rfl) hC3)
  have hBw3 : Hid (Fr (vb) w w3) := Lib.hid (Fr.call (Fr.alloc hBw2.out _) hC3)
  clear hC3
  have hlb5_2 : w2.heap.size + 1 ≤ b5_2 := by (try simp only [alloc_size, setRow_size] at hlb5_2); omega
  have hub5_2 := xhf5_2.lt
  go_wp2_with fail
  obtain ⟨R2, qR2⟩ : ∃ uu : Fp, uu = R1 - (1 : Fp) := ⟨_, rfl⟩
  have HR2 := Lib.hid qR2; clear qR2
  refine (sub_ff (w2.heap.size) (0) (w1.heap.size) (0) (b5_2) (0) _ _ _ _ h26 h23 xhf5_2 (apart_blk _ _ _ _ (by omega)) (apart_blk _ _ _ _ (by omega)) R2 HR2).mono ?_
  rintro e w4 ⟨rfl, hC4⟩
  have hs4 : w3.heap.size ≤ w4.heap.size := by have := hC4.size; (try simp only [alloc_size, setRow_size] at this); omega
  replace hx : Row w4 (xb) (xo) 32 (byV N) := (Sets.rows hC4 hx (by omega))
  replace hv0 : Fe w4 (vb) (vo) (v0) := (Sets.others hC4 hv0 (by omega))
  replace hv1 : Fe w4 (vb) (vo + 5) (v1) := (Sets.others hC4 hv1 (by omega))
  replace hv2 : Fe w4 (vb) (vo + 10) (v2) := (Sets.others hC4 hv2 (by omega))
  replace hv3 : Fe w4 (vb) (vo + 15) (v3) := (Sets.others hC4 hv3 (by omega))
  replace h15 : Fe w4 (w.heap.size) (0) (Y.val) := (Sets.others hC4 h15 (by omega))
  replace h23 : Fe w4 (w1.heap.size) (0) (R1.val) := (Sets.others hC4 h23 (by omega))
  replace hf5_2 : Fe w4 (b5_2) (0) ((1 : Fp).val) := (Sets.others hC4 xhf5_2 (by omega))
  replace h26 : Fe w4 (w2.heap.size) (0) (R2.val) := (Sets.fe' hC4 h26)
  have hBw4 : Hid (Fr (vb) w w4) := Lib.hid (Fr.sets hBw3.out hC4 (by omega))
  clear hC4
  go_wp2_with fail
  refine (dOf_new _).mono ?_
  rintro e w5 ⟨b6_2, rfl, hlb6_2, hC5, xhf6_2⟩
  have hs5 : w4.heap.size + 1 ≤ w5.heap.size := by have := hC5.size; (try simp only [alloc_size, setRow_size] at this); omega
  replace hx : Row w5 (xb) (xo) 32 (byV N) := (Row.below_all (Row.alloc hx _) hC5)
  replace hv0 : Fe w5 (vb) (vo) (v0) := (Fe.below_all (Fe.alloc hv0 _) hC5)
  replace hv1 : Fe w5 (vb) (vo + 5) (v1) := (Fe.below_all (Fe.alloc hv1 _) hC5)
  replace hv2 : Fe w5 (vb) (vo + 10) (v2) := (Fe.below_all (Fe.alloc hv2 _) hC5)
  replace hv3 : Fe w5 (vb) (vo + 15) (v3) := (Fe.below_all (Fe.alloc hv3 _) hC5)
  replace h15 : Fe w5 (w.heap.size) (0) (Y.val) := (Fe.below_all (Fe.alloc h15 _) hC5)
  replace h23 : Fe w5 (w1.heap.size) (0) (R1.val) := (Fe.below_all (Fe.alloc h23 _) hC5)
  replace hf5_2 : Fe w5 (b5_2) (0) ((1 : Fp).val) := (Fe.below_all (Fe.alloc hf5_2 _) hC5)
  replace h26 : Fe w5 (w2.heap.size) (0) (R2.val) := (Fe.below_all (Fe.alloc h26 _) hC5)
  replace h30 : Fe w5 (w4.heap.size) (0) (0) := (Fe.below_all (Fe.newz_at _ _ rfl) hC5)
  have hBw5 : Hid (Fr (vb) w w5) := Lib.hid (Fr.call (Fr.alloc hBw4.out _) hC5)
  clear hC5
  have hlb6_2 : w4.heap.size + 1 ≤ b6_2 := by (try simp only [alloc_size, setRow_size] at hlb6_2); omega
  have hub6_2 := xhf6_2.lt
  go_wp2_with fail
  obtain ⟨R3, qR3⟩ : ∃ uu : Fp, uu = R1 * (fp dN) := ⟨_, rfl⟩
  have HR3 := Lib.hid qR3; clear qR3
  refine (mul_ff (w4.heap.size) (0) (w1.heap.size) (0) (b6_2) (0) _ _ _ _ h30 h23 xhf6_2 R3 HR3).mono ?_
  rintro e w6 ⟨rfl, hC6⟩
  have hs6 : w5.heap.size ≤ w6.heap.size := by have := hC6.size; (try simp only [alloc_size, setRow_size] at this); omega
  replace hx : Row w6 (xb) (xo) 32 (byV N) := (Sets.rows hC6 hx (by omega))
  replace hv0 : Fe w6 (vb) (vo) (v0) := (Sets.others hC6 hv0 (by omega))
  replace hv1 : Fe w6 (vb) (vo + 5) (v1) := (Sets.others hC6 hv1 (by omega))
  replace hv2 : Fe w6 (vb) (vo + 10) (v2) := (Sets.others hC6 hv2 (by omega))
  replace hv3 : Fe w6 (vb) (vo + 15) (v3) := (Sets.others hC6 hv3 (by omega))
  replace h15 : Fe w6 (w.heap.size) (0) (Y.val) := (Sets.others hC6 h15 (by omega))
  replace h23 : Fe w6 (w1.heap.size) (0) (R1.val) := (Sets.others hC6 h23 (by omega))
  replace hf5_2 : Fe w6 (b5_2) (0) ((1 : Fp).val) := (Sets.others hC6 hf5_2 (by omega))
  replace h26 : Fe w6 (w2.heap.size) (0) (R2.val) := (Sets.others hC6 h26 (by omega))
  replace hf6_2 : Fe w6 (b6_2) (0) ((fp dN).val) := (Sets.others hC6 xhf6_2 (by omega))
  replace h30 : Fe w6 (w4.heap.size) (0) (R3.val) := (Sets.fe' hC6 h30)
  have hBw6 : Hid (Fr (vb) w w6) := Lib.hid (Fr.sets hBw5.out hC6 (by omega))
  clear hC6
  go_wp2_with fail
  refine (feOne_new B _ (hD2.below (Fr.below hBw6.out (by omega) (by omega)))).mono ?_
  rintro e w7 ⟨b7_2, rfl, hlb7_2, hC7, xhf7_2⟩
  have hs7 : w6.heap.size ≤ w7.heap.size := by have := hC7.size; (try simp only [alloc_size, setRow_size] at this); omega
  replace hx : Row w7 (xb) (xo) 32 (byV N) := (Row.below_all hx hC7)
  replace hv0 : Fe w7 (vb) (vo) (v0) := (Fe.below_all hv0 hC7)
  replace hv1 : Fe w7 (vb) (vo + 5) (v1) := (Fe.below_all hv1 hC7)
  replace hv2 : Fe w7 (vb) (vo + 10) (v2) := (Fe.below_all hv2 hC7)
  replace hv3 : Fe w7 (vb) (vo + 15) (v3) := (Fe.below_all hv3 hC7)
  replace h15 : Fe w7 (w.heap.size) (0) (Y.val) := (Fe.below_all h15 hC7)
  replace h23 : Fe w7 (w1.heap.size) (0) (R1.val) := (Fe.below_all h23 hC7)
  replace hf5_2 : Fe w7 (b5_2) (0) ((1 : Fp).val) := (Fe.below_all hf5_2 hC7)
  replace h26 : Fe w7 (w2.heap.size) (0) (R2.val) := (Fe.below_all h26 hC7)
  replace hf6_2 : Fe w7 (b6_2) (0) ((fp dN).val) := (Fe.below_all hf6_2 hC7)
  replace h30 : Fe w7 (w4.heap.size) (0) (R3.val) := (Fe.below_all h30 hC7)
  have hBw7 : Hid (Fr (vb) w w7) := Lib.hid (Fr.call hBw6.out hC7)
  clear hC7
  have hlb7_2 : w6.heap.size ≤ b7_2 := by (try simp only [alloc_size, setRow_size] at hlb7_2); omega
  have hub7_2 := xhf7_2.lt
  go_wp2_with fail
  obtain ⟨R4, qR4⟩ : ∃ uu : Fp, uu = R3 + (1 : Fp) := ⟨_, rfl⟩
  have HR4 := Lib.hid qR4; clear qR4
  refine (add_ff (w4.heap.size) (0) (w4.heap.size) (0) (b7_2) (0) _ _ _ _ h30 h30 xhf7_2 (Or.inl ⟨rfl, rfl⟩) (apart_blk _ _ _ _ (by omega)) R4 HR4).mono ?_
  rintro e w8 ⟨rfl, hC8⟩
  have hs8 : w7.heap.size ≤ w8.heap.size := by have := hC8.size; (try simp only [alloc_size, setRow_size] at this); omega
  replace hx : Row w8 (xb) (xo) 32 (byV N) := (Sets.rows hC8 hx (by omega))
  replace hv0 : Fe w8 (vb) (vo) (v0) := (Sets.others hC8 hv0 (by omega))
  replace hv1 : Fe w8 (vb) (vo + 5) (v1) := (Sets.others hC8 hv1 (by omega))
  replace hv2 : Fe w8 (vb) (vo + 10) (v2) := (Sets.others hC8 hv2 (by omega))
  replace hv3 : Fe w8 (vb) (vo + 15) (v3) := (Sets.others hC8 hv3 (by omega))
  replace h15 : Fe w8 (w.heap.size) (0) (Y.val) := (Sets.others hC8 h15 (by omega))
  replace h23 : Fe w8 (w1.heap.size) (0) (R1.val) := (Sets.others hC8 h23 (by omega))
  replace hf5_2 : Fe w8 (b5_2) (0) ((1 : Fp).val) := (Sets.others hC8 hf5_2 (by omega))
  replace h26 : Fe w8 (w2.heap.size) (0) (R2.val) := (Sets.others hC8 h26 (by omega))
  replace hf6_2 : Fe w8 (b6_2) (0) ((fp dN).val) := (Sets.others hC8 hf6_2 (by omega))
  replace hf7_2 : Fe w8 (b7_2) (0) ((1 : Fp).val) := (Sets.others hC8 xhf7_2 (by omega))
  replace h30 : Fe w8 (w4.heap.size) (0) (R4.val) := (Sets.fe' hC8 h30)
  have hBw8 : Hid (Fr (vb) w w8) := Lib.hid (Fr.sets hBw7.out hC8 (by omega))
  clear hC8
  have eU := dcU_F Y R1 R2 HR1.out HR2.out
  have eV := dcV_F Y R1 R3 R4 HR1.out HR3.out HR4.out
  have HRT : Hid (RT.val = sqR R2.val R4.val) := Lib.hid (by rw [eU, eV]; exact hRT.out)
  have HZ : Hid ((1 : Int) = if sqW R2.val R4.val then 1 else 0) := Lib.hid (by rw [eU, eV]; have h := hD.out; unfold dcIs at h; rw [h]; rfl)
  clear eU eV
  go_wp2_with fail
  refine (sqrt_fe (w8.heap.size) (0) (w2.heap.size) (0) (w4.heap.size) (0) _ _ _ B _ (hD0.below (Fr.below (Fr.alloc hBw8.out _) (by omega) (by omega))) (hD1.below (Fr.below (Fr.alloc hBw8.out _) (by omega) (by omega))) (Fe.newz_at _ _ rfl) (Fe.alloc h26 _) (Fe.alloc h30 _) RT.val HRT 1 HZ).mono ?_
  rintro e w9 ⟨rfl, hC9⟩
  have hs9 : w8.heap.size + 1 ≤ w9.heap.size := by have := hC9.size; (try simp only [alloc_size, setRow_size] at this); omega
  replace hx : Row w9 (xb) (xo) 32 (byV N) := (Sets.rows hC9 (Row.alloc hx _) (by omega))
  replace hv0 : Fe w9 (vb) (vo) (v0) := (Sets.others hC9 (Fe.alloc hv0 _) (by omega))
  replace hv1 : Fe w9 (vb) (vo + 5) (v1) := (Sets.others hC9 (Fe.alloc hv1 _) (by omega))
  replace hv2 : Fe w9 (vb) (vo + 10) (v2) := (Sets.others hC9 (Fe.alloc hv2 _) (by omega))
  replace hv3 : Fe w9 (vb) (vo + 15) (v3) := (Sets.others hC9 (Fe.alloc hv3 _) (by omega))
  replace h15 : Fe w9 (w.heap.size) (0) (Y.val) := (Sets.others hC9 (Fe.alloc h15 _) (by omega))
  replace h23 : Fe w9 (w1.heap.size) (0) (R1.val) := (Sets.others hC9 (Fe.alloc h23 _) (by omega))
  replace hf5_2 : Fe w9 (b5_2) (0) ((1 : Fp).val) := (Sets.others hC9 (Fe.alloc hf5_2 _) (by omega))
  replace h26 : Fe w9 (w2.heap.size) (0) (R2.val) := (Sets.others hC9 (Fe.alloc h26 _) (by omega))
  replace hf6_2 : Fe w9 (b6_2) (0) ((fp dN).val) := (Sets.others hC9 (Fe.alloc hf6_2 _) (by omega))
  replace hf7_2 : Fe w9 (b7_2) (0) ((1 : Fp).val) := (Sets.others hC9 (Fe.alloc hf7_2 _) (by omega))
  replace h30 : Fe w9 (w4.heap.size) (0) (R4.val) := (Sets.others hC9 (Fe.alloc h30 _) (by omega))
  replace h39 : Fe w9 (w8.heap.size) (0) (RT.val) := (Sets.fe' hC9 (Fe.newz_at _ _ rfl))
  have hBw9 : Hid (Fr (vb) w w9) := Lib.hid (Fr.sets (Fr.alloc hBw8.out _) hC9 (by omega))
  clear hC9
  go_wp2_with fail
  obtain ⟨R5, qR5⟩ : ∃ uu : Fp, uu = -RT := ⟨_, rfl⟩
  have HR5 := Lib.hid qR5; clear qR5
  refine (neg_ff (w9.heap.size) (0) (w8.heap.size) (0) _ _ B _ (hD0.below (Fr.below (Fr.alloc hBw9.out _) (by omega) (by omega))) (by omega) (Fe.newz_at _ _ rfl) (Fe.alloc h39 _) (apart_blk _ _ _ _ (by omega)) R5 HR5).mono ?_
  rintro e w10 ⟨rfl, hC10⟩
  have hs10 : w9.heap.size + 1 ≤ w10.heap.size := by have := hC10.size; (try simp only [alloc_size, setRow_size] at this); omega
  replace hx : Row w10 (xb) (xo) 32 (byV N) := (Sets.rows hC10 (Row.alloc hx _) (by omega))
  replace hv0 : Fe w10 (vb) (vo) (v0) := (Sets.others hC10 (Fe.alloc hv0 _) (by omega))
  replace hv1 : Fe w10 (vb) (vo + 5) (v1) := (Sets.others hC10 (Fe.alloc hv1 _) (by omega))
  replace hv2 : Fe w10 (vb) (vo + 10) (v2) := (Sets.others hC10 (Fe.alloc hv2 _) (by omega))
  replace hv3 : Fe w10 (vb) (vo + 15) (v3) := (Sets.others hC10 (Fe.alloc hv3 _) (by omega))
  replace h15 : Fe w10 (w.heap.size) (0) (Y.val) := (Sets.others hC10 (Fe.alloc h15 _) (by omega))
  replace h23 : Fe w10 (w1.heap.size) (0) (R1.val) := (Sets.others hC10 (Fe.alloc h23 _) (by omega))
  replace hf5_2 : Fe w10 (b5_2) (0) ((1 : Fp).val) := (Sets.others hC10 (Fe.alloc hf5_2 _) (by omega))
  replace h26 : Fe w10 (w2.heap.size) (0) (R2.val) := (Sets.others hC10 (Fe.alloc h26 _) (by omega))
  replace hf6_2 : Fe w10 (b6_2) (0) ((fp dN).val) := (Sets.others hC10 (Fe.alloc hf6_2 _) (by omega))
  replace hf7_2 : Fe w10 (b7_2) (0) ((1 : Fp).val) := (Sets.others hC10 (Fe.alloc hf7_2 _) (by omega))
  replace h30 : Fe w10 (w4.heap.size) (0) (R4.val) := (Sets.others hC10 (Fe.alloc h30 _) (by omega))
  replace h39 : Fe w10 (w8.heap.size) (0) (RT.val) := (Sets.others hC10 (Fe.alloc h39 _) (by omega))
  replace h48 : Fe w10 (w9.heap.size) (0) (R5.val) := (Sets.fe' hC10 (Fe.newz_at _ _ rfl))
  have hBw10 : Hid (Fr (vb) w w10) := Lib.hid (Fr.sets (Fr.alloc hBw9.out _) hC10 (by omega))
  clear hC10
  have hc := hx.cell (i := 31) (by omega)
  unfold byV at hc
  have hb := byteN_lt N 31
  have hB : ¬ 128 ≤ byteN N 31 := by rw [top_bit N lN]; exact hs.out
  generalize byteN N 31 = B31 at hc hb hB
  have hsh : (B31 : Int) / 128 = 0 := by omega
  go_wp2_with fail
  refine (select_fe0 (w8.heap.size) (0) (w9.heap.size) (0) (w8.heap.size) (0) _ _ _ (apart_blk _ _ _ _ (by omega)) (Or.inl ⟨rfl, rfl⟩) _ h39 h48 h39).mono ?_
  rintro e w11 ⟨rfl, hC11⟩
  have hs11 : w10.heap.size ≤ w11.heap.size := by have := hC11.size; (try simp only [alloc_size, setRow_size] at this); omega
  replace hx : Row w11 (xb) (xo) 32 (byV N) := (Sets.rows hC11 hx (by omega))
  replace hv0 : Fe w11 (vb) (vo) (v0) := (Sets.others hC11 hv0 (by omega))
  replace hv1 : Fe w11 (vb) (vo + 5) (v1) := (Sets.others hC11 hv1 (by omega))
  replace hv2 : Fe w11 (vb) (vo + 10) (v2) := (Sets.others hC11 hv2 (by omega))
  replace hv3 : Fe w11 (vb) (vo + 15) (v3) := (Sets.others hC11 hv3 (by omega))
  replace h15 : Fe w11 (w.heap.size) (0) (Y.val) := (Sets.others hC11 h15 (by omega))
  replace h23 : Fe w11 (w1.heap.size) (0) (R1.val) := (Sets.others hC11 h23 (by omega))
  replace hf5_2 : Fe w11 (b5_2) (0) ((1 : Fp).val) := (Sets.others hC11 hf5_2 (by omega))
  replace h26 : Fe w11 (w2.heap.size) (0) (R2.val) := (Sets.others hC11 h26 (by omega))
  replace hf6_2 : Fe w11 (b6_2) (0) ((fp dN).val) := (Sets.others hC11 hf6_2 (by omega))
  replace hf7_2 : Fe w11 (b7_2) (0) ((1 : Fp).val) := (Sets.others hC11 hf7_2 (by omega))
  replace h30 : Fe w11 (w4.heap.size) (0) (R4.val) := (Sets.others hC11 h30 (by omega))
  replace h48 : Fe w11 (w9.heap.size) (0) (R5.val) := (Sets.others hC11 h48 (by omega))
  replace h39 : Fe w11 (w8.heap.size) (0) (RT.val) := (Sets.fe' hC11 h39)
  have hBw11 : Hid (Fr (vb) w w11) := Lib.hid (Fr.sets hBw10.out hC11 (by omega))
  clear hC11
  go_wp2_with fail
  refine (set_fe (vb) (vo) (w8.heap.size) (0) _ _ _ hv0 h39).mono ?_
  rintro e w12 ⟨rfl, hC12⟩
  have hs12 : w11.heap.size ≤ w12.heap.size := by have := hC12.size; (try simp only [alloc_size, setRow_size] at this); omega
  replace hx : Row w12 (xb) (xo) 32 (byV N) := (Sets.rows hC12 hx (by omega))
  replace hv1 : Fe w12 (vb) (vo + 5) (v1) := (Sets.others hC12 hv1 (by omega))
  replace hv2 : Fe w12 (vb) (vo + 10) (v2) := (Sets.others hC12 hv2 (by omega))
  replace hv3 : Fe w12 (vb) (vo + 15) (v3) := (Sets.others hC12 hv3 (by omega))
  replace h15 : Fe w12 (w.heap.size) (0) (Y.val) := (Sets.others hC12 h15 (by omega))
  replace h23 : Fe w12 (w1.heap.size) (0) (R1.val) := (Sets.others hC12 h23 (by omega))
  replace hf5_2 : Fe w12 (b5_2) (0) ((1 : Fp).val) := (Sets.others hC12 hf5_2 (by omega))
  replace h26 : Fe w12 (w2.heap.size) (0) (R2.val) := (Sets.others hC12 h26 (by omega))
  replace hf6_2 : Fe w12 (b6_2) (0) ((fp dN).val) := (Sets.others hC12 hf6_2 (by omega))
  replace hf7_2 : Fe w12 (b7_2) (0) ((1 : Fp).val) := (Sets.others hC12 hf7_2 (by omega))
  replace h30 : Fe w12 (w4.heap.size) (0) (R4.val) := (Sets.others hC12 h30 (by omega))
  replace h48 : Fe w12 (w9.heap.size) (0) (R5.val) := (Sets.others hC12 h48 (by omega))
  replace h39 : Fe w12 (w8.heap.size) (0) (RT.val) := (Sets.others hC12 h39 (by omega))
  replace hv0 : Fe w12 (vb) (vo) (RT.val) := (Sets.fe' hC12 hv0)
  have hBw12 : Hid (Fr (vb) w w12) := Lib.hid (Fr.sets hBw11.out hC12 (by omega))
  clear hC12
  go_wp2_with fail
  refine (set_fe (vb) (vo + 5) (w.heap.size) (0) _ _ _ hv1 h15).mono ?_
  rintro e w13 ⟨rfl, hC13⟩
  have hs13 : w12.heap.size ≤ w13.heap.size := by have := hC13.size; (try simp only [alloc_size, setRow_size] at this); omega
  replace hx : Row w13 (xb) (xo) 32 (byV N) := (Sets.rows hC13 hx (by omega))
  replace hv2 : Fe w13 (vb) (vo + 10) (v2) := (Sets.others hC13 hv2 (by omega))
  replace hv3 : Fe w13 (vb) (vo + 15) (v3) := (Sets.others hC13 hv3 (by omega))
  replace h15 : Fe w13 (w.heap.size) (0) (Y.val) := (Sets.others hC13 h15 (by omega))
  replace h23 : Fe w13 (w1.heap.size) (0) (R1.val) := (Sets.others hC13 h23 (by omega))
  replace hf5_2 : Fe w13 (b5_2) (0) ((1 : Fp).val) := (Sets.others hC13 hf5_2 (by omega))
  replace h26 : Fe w13 (w2.heap.size) (0) (R2.val) := (Sets.others hC13 h26 (by omega))
  replace hf6_2 : Fe w13 (b6_2) (0) ((fp dN).val) := (Sets.others hC13 hf6_2 (by omega))
  replace hf7_2 : Fe w13 (b7_2) (0) ((1 : Fp).val) := (Sets.others hC13 hf7_2 (by omega))
  replace h30 : Fe w13 (w4.heap.size) (0) (R4.val) := (Sets.others hC13 h30 (by omega))
  replace h48 : Fe w13 (w9.heap.size) (0) (R5.val) := (Sets.others hC13 h48 (by omega))
  replace h39 : Fe w13 (w8.heap.size) (0) (RT.val) := (Sets.others hC13 h39 (by omega))
  replace hv0 : Fe w13 (vb) (vo) (RT.val) := (Sets.others hC13 hv0 (by omega))
  replace hv1 : Fe w13 (vb) (vo + 5) (Y.val) := (Sets.fe' hC13 hv1)
  have hBw13 : Hid (Fr (vb) w w13) := Lib.hid (Fr.sets hBw12.out hC13 (by omega))
  clear hC13
  go_wp2_with fail
  refine (one_ff (vb) (vo + 10) _ B _ (hD2.below (Fr.below hBw13.out (by omega) (by omega))) (by omega) hv2).mono ?_
  rintro e w14 ⟨rfl, hC14⟩
  have hs14 : w13.heap.size ≤ w14.heap.size := by have := hC14.size; (try simp only [alloc_size, setRow_size] at this); omega
  replace hx : Row w14 (xb) (xo) 32 (byV N) := (Sets.rows hC14 hx (by omega))
  replace hv3 : Fe w14 (vb) (vo + 15) (v3) := (Sets.others hC14 hv3 (by omega))
  replace h15 : Fe w14 (w.heap.size) (0) (Y.val) := (Sets.others hC14 h15 (by omega))
  replace h23 : Fe w14 (w1.heap.size) (0) (R1.val) := (Sets.others hC14 h23 (by omega))
  replace hf5_2 : Fe w14 (b5_2) (0) ((1 : Fp).val) := (Sets.others hC14 hf5_2 (by omega))
  replace h26 : Fe w14 (w2.heap.size) (0) (R2.val) := (Sets.others hC14 h26 (by omega))
  replace hf6_2 : Fe w14 (b6_2) (0) ((fp dN).val) := (Sets.others hC14 hf6_2 (by omega))
  replace hf7_2 : Fe w14 (b7_2) (0) ((1 : Fp).val) := (Sets.others hC14 hf7_2 (by omega))
  replace h30 : Fe w14 (w4.heap.size) (0) (R4.val) := (Sets.others hC14 h30 (by omega))
  replace h48 : Fe w14 (w9.heap.size) (0) (R5.val) := (Sets.others hC14 h48 (by omega))
  replace h39 : Fe w14 (w8.heap.size) (0) (RT.val) := (Sets.others hC14 h39 (by omega))
  replace hv0 : Fe w14 (vb) (vo) (RT.val) := (Sets.others hC14 hv0 (by omega))
  replace hv1 : Fe w14 (vb) (vo + 5) (Y.val) := (Sets.others hC14 hv1 (by omega))
  replace hv2 : Fe w14 (vb) (vo + 10) ((1 : Fp).val) := (Sets.fe' hC14 hv2)
  have hBw14 : Hid (Fr (vb) w w14) := Lib.hid (Fr.sets hBw13.out hC14 (by omega))
  clear hC14
  go_wp2_with fail
  obtain ⟨R6, qR6⟩ : ∃ uu : Fp, uu = RT * Y := ⟨_, rfl⟩
  have HR6 := Lib.hid qR6; clear qR6
  refine (mul_ff (vb) (vo + 15) (w8.heap.size) (0) (w.heap.size) (0) _ _ _ _ hv3 h39 h15 R6 HR6).mono ?_
  rintro e w15 ⟨rfl, hC15⟩
  have hs15 : w14.heap.size ≤ w15.heap.size := by have := hC15.size; (try simp only [alloc_size, setRow_size] at this); omega
  replace hx : Row w15 (xb) (xo) 32 (byV N) := (Sets.rows hC15 hx (by omega))
  replace h15 : Fe w15 (w.heap.size) (0) (Y.val) := (Sets.others hC15 h15 (by omega))
  replace h23 : Fe w15 (w1.heap.size) (0) (R1.val) := (Sets.others hC15 h23 (by omega))
  replace hf5_2 : Fe w15 (b5_2) (0) ((1 : Fp).val) := (Sets.others hC15 hf5_2 (by omega))
  replace h26 : Fe w15 (w2.heap.size) (0) (R2.val) := (Sets.others hC15 h26 (by omega))
  replace hf6_2 : Fe w15 (b6_2) (0) ((fp dN).val) := (Sets.others hC15 hf6_2 (by omega))
  replace hf7_2 : Fe w15 (b7_2) (0) ((1 : Fp).val) := (Sets.others hC15 hf7_2 (by omega))
  replace h30 : Fe w15 (w4.heap.size) (0) (R4.val) := (Sets.others hC15 h30 (by omega))
  replace h48 : Fe w15 (w9.heap.size) (0) (R5.val) := (Sets.others hC15 h48 (by omega))
  replace h39 : Fe w15 (w8.heap.size) (0) (RT.val) := (Sets.others hC15 h39 (by omega))
  replace hv0 : Fe w15 (vb) (vo) (RT.val) := (Sets.others hC15 hv0 (by omega))
  replace hv1 : Fe w15 (vb) (vo + 5) (Y.val) := (Sets.others hC15 hv1 (by omega))
  replace hv2 : Fe w15 (vb) (vo + 10) ((1 : Fp).val) := (Sets.others hC15 hv2 (by omega))
  replace hv3 : Fe w15 (vb) (vo + 15) (R6.val) := (Sets.fe' hC15 hv3)
  have hBw15 : Hid (Fr (vb) w w15) := Lib.hid (Fr.sets hBw14.out hC15 (by omega))
  clear hC15
  go_wp2
  go_ret2
  refine ⟨rfl, hBw15.out, RT, Y, (1 : Fp), R6, ?_, hv0, hv1, hv2, hv3⟩
  have eX : RT = P.x := by exact eP.out
  rw [HR6.out, eX, eY.out]
  exact Rq.one P
set_option maxHeartbeats 4000000 in
theorem setBytes_neg (vb vo xb xo N cap v0 v1 v2 v3 : Nat) (Y RT : Fp) (HY : Hid (Y.val = valN N)) (hD : Hid (dcIs Y.val = true)) (hRT : Hid (RT.val = dcR Y.val)) (hcap : 32 ≤ cap) (hne : xb ≠ vb) (P : CP) (lN : N < 256 ^ 32) (hs : Hid (N / 57896044618658097711785492504343953926634992332820282019728792003956564819968 = 1)) (eP : Hid (-RT = P.x)) (eY : Hid (Y = P.y)) (B : Nat) (w : World) (hD0 : Var 1 z5 B w) (hD1 : Var 0 i5 B w) (hD2 : Var 2 o5 B w) (hvB : B ≤ vb) (hv0 : Fe w vb (vo) v0) (hv1 : Fe w vb (vo + 5) v1) (hv2 : Fe w vb (vo + 10) v2) (hv3 : Fe w vb (vo + 15) v3) (hx : Row w xb xo 32 (byV N)) :
    Calls Tryd.prog 30 #[.pointer (some ⟨vb, vo, none⟩), .slice (some ⟨xb, xo, none⟩) 32 cap] w fun e w' => e = .returned (.tuple #[.pointer (some ⟨vb, vo, none⟩), .nilIface]) ∧ Fr vb w w' ∧ ∃ r0 r1 r2 r3 : Fp, Rq P r0 r1 r2 r3 ∧ Fe w' vb (vo) r0.val ∧ Fe w' vb (vo + 5) r1.val ∧ Fe w' vb (vo + 10) r2.val ∧ Fe w' vb (vo + 15) r3.val := by
  have hvl := hv0.lt; have hxl := hx.lt; have hBl := hD0.1
  go_enter Tryd.func30, Tryd.ntmps30
  go_wp2_with fail
  refine (setBytes_ff (w.heap.size) (0) (xb) (xo) (N) (cap) _ Y HY _ (Fe.newz_at _ _ rfl) (Row.alloc hx _) (by omega) (by omega)).mono ?_
  rintro e w1 ⟨rfl, hC1⟩
  have hs1 : w.heap.size + 1 ≤ w1.heap.size := by have := hC1.size; (try simp only [alloc_size, setRow_size] at this); omega
  replace hx : Row w1 (xb) (xo) 32 (byV N) := (Sets.rows hC1 (Row.alloc hx _) (by omega))
  replace hv0 : Fe w1 (vb) (vo) (v0) := (Sets.others hC1 (Fe.alloc hv0 _) (by omega))
  replace hv1 : Fe w1 (vb) (vo + 5) (v1) := (Sets.others hC1 (Fe.alloc hv1 _) (by omega))
  replace hv2 : Fe w1 (vb) (vo + 10) (v2) := (Sets.others hC1 (Fe.alloc hv2 _) (by omega))
  replace hv3 : Fe w1 (vb) (vo + 15) (v3) := (Sets.others hC1 (Fe.alloc hv3 _) (by omega))
  replace h15 : Fe w1 (w.heap.size) (0) (Y.val) := (Sets.fe' hC1 (Fe.newz_at _ _ rfl))
  have hBw1 : Hid (Fr (vb) w w1) := Lib.hid (Fr.sets (Fr.alloc (Fr.refl _ w) _) hC1 (by omega))
  clear hC1
  go_wp2_with fail
  obtain ⟨R1, qR1⟩ : ∃ uu : Fp, uu = Y * Y := ⟨_, rfl⟩
  have HR1 := Lib.hid qR1; clear qR1
  refine (square_ff (w1.heap.size) (0) (w.heap.size) (0) _ _ _ (Fe.newz_at _ _ rfl) (Fe.alloc h15 _) R1 HR1).mono ?_
  rintro e w2 ⟨rfl, hC2⟩
  have hs2 : w1.heap.size + 1 ≤ w2.heap.size := by have := hC2.size; (try simp only [alloc_size, setRow_size] at this); omega
  replace hx : Row w2 (xb) (xo) 32 (byV N) := (Sets.rows hC2 (Row.alloc hx _) (by omega))
  replace hv0 : Fe w2 (vb) (vo) (v0) := (Sets.others hC2 (Fe.alloc hv0 _) (by omega))
  replace hv1 : Fe w2 (vb) (vo + 5) (v1) := (Sets.others hC2 (Fe.alloc hv1 _) (by omega))
  replace hv2 : Fe w2 (vb) (vo + 10) (v2) := (Sets.others hC2 (Fe.alloc hv2 _) (by omega))
  replace hv3 : Fe w2 (vb) (vo + 15) (v3) := (Sets.others hC2 (Fe.alloc hv3 _) (by omega))
  replace h15 : Fe w2 (w.heap.size) (0) (Y.val) := (Sets.others hC2 (Fe.alloc h15 _) (by omega))
  replace h23 : Fe w2 (w1.heap.size) (0) (R1.val) := (Sets.fe' hC2 (Fe.newz_at _ _ rfl))
  have hBw2 : Hid (Fr (vb) w w2) := Lib.hid (Fr.sets (Fr.alloc hBw1.out _) hC2 (by omega))
  clear hC2
  go_wp2_with fail
  refine (feOne_new B _ (hD2.below (Fr.below (Fr.alloc hBw2.out _) (by omega) (by omega)))).mono ?_
  rintro e w3 ⟨b5_2, rfl, hlb5_2, hC3, xhf5_2⟩
  have hs3 : w2.heap.size + 1 ≤ w3.heap.size := by have := hC3.size; (try simp only [alloc_size, setRow_size] at this); omega
  replace hx : Row w3 (xb) (xo) 32 (byV N) := (Row.below_all (Row.alloc hx _) hC3)
  replace hv0 : Fe w3 (vb) (vo) (v0) := (Fe.below_all (Fe.alloc hv0 _) hC3)
  replace hv1 : Fe w3 (vb) (vo + 5) (v1) := (Fe.below_all (Fe.alloc hv1 _) hC3)
  replace hv2 : Fe w3 (vb) (vo + 10) (v2) := (Fe.below_all (Fe.alloc hv2 _) hC3)
  replace hv3 : Fe w3 (vb) (vo + 15) (v3) := (Fe.below_all (Fe.alloc hv3 _) hC3)
  replace h15 : Fe w3 (w.heap.size) (0) (Y.val) := (Fe.below_all (Fe.alloc h15 _) hC3)
  replace h23 : Fe w3 (w1.heap.size) (0) (R1.val) := (Fe.below_all (Fe.alloc h23 _) hC3)
  replace h26 : Fe w3 (w2.heap.size) (0) (0) := (Fe.below_all (Fe.newz_at _ _ rfl) hC3)
  have hBw3 : Hid (Fr (vb) w w3) := Lib.hid (Fr.call (Fr.alloc hBw2.out _) hC3)
  clear hC3
  have hlb5_2 : w2.heap.size + 1 ≤ b5_2 := by (try simp only [alloc_size, setRow_size] at hlb5_2); omega
  have hub5_2 := xhf5_2.lt
  go_wp2_with fail
  obtain ⟨R2, qR2⟩ : ∃ uu : Fp, uu = R1 - (1 : Fp) := ⟨_, rfl⟩
  have HR2 := Lib.hid qR2; clear qR2
  refine (sub_ff (w2.heap.size) (0) (w1.heap.size) (0) (b5_2) (0) _ _ _ _ h26 h23 xhf5_2 (apart_blk _ _ _ _ (by omega)) (apart_blk _ _ _ _ (by omega)) R2 HR2).mono ?_
  rintro e w4 ⟨rfl, hC4⟩
  have hs4 : w3.heap.size ≤ w4.heap.size := by have := hC4.size; (try simp only [alloc_size, setRow_size] at this); omega
  replace hx : Row w4 (xb) (xo) 32 (byV N) := (Sets.rows hC4 hx (by omega))
  replace hv0 : Fe w4 (vb) (vo) (v0) := (Sets.others hC4 hv0 (by omega))
  replace hv1 : Fe w4 (vb) (vo + 5) (v1) := (Sets.others hC4 hv1 (by omega))
  replace hv2 : Fe w4 (vb) (vo + 10) (v2) := (Sets.others hC4 hv2 (by omega))
  replace hv3 : Fe w4 (vb) (vo + 15) (v3) := (Sets.others hC4 hv3 (by omega))
  replace h15 : Fe w4 (w.heap.size) (0) (Y.val) := (Sets.others hC4 h15 (by omega))
  replace h23 : Fe w4 (w1.heap.size) (0) (R1.val) := (Sets.others hC4 h23 (by omega))
  replace hf5_2 : Fe w4 (b5_2) (0) ((1 : Fp).val) := (Sets.others hC4 xhf5_2 (by omega))
  replace h26 : Fe w4 (w2.heap.size) (0) (R2.val) := (Sets.fe' hC4 h26)
  have hBw4 : Hid (Fr (vb) w w4) := Lib.hid (Fr.sets hBw3.out hC4 (by omega))
  clear hC4
  go_wp2_with fail
  refine (dOf_new _).mono ?_
  rintro e w5 ⟨b6_2, rfl, hlb6_2, hC5, xhf6_2⟩
  have hs5 : w4.heap.size + 1 ≤ w5.heap.size := by have := hC5.size; (try simp only [alloc_size, setRow_size] at this); omega
  replace hx : Row w5 (xb) (xo) 32 (byV N) := (Row.below_all (Row.alloc hx _) hC5)
  replace hv0 : Fe w5 (vb) (vo) (v0) := (Fe.below_all (Fe.alloc hv0 _) hC5)
  replace hv1 : Fe w5 (vb) (vo + 5) (v1) := (Fe.below_all (Fe.alloc hv1 _) hC5)
  replace hv2 : Fe w5 (vb) (vo + 10) (v2) := (Fe.below_all (Fe.alloc hv2 _) hC5)
  replace hv3 : Fe w5 (vb) (vo + 15) (v3) := (Fe.below_all (Fe.alloc hv3 _) hC5)
  replace h15 : Fe w5 (w.heap.size) (0) (Y.val) := (Fe.below_all (Fe.alloc h15 _) hC5)
  replace h23 : Fe w5 (w1.heap.size) (0) (R1.val) := (Fe.below_all (Fe.alloc h23 _) hC5)
  replace hf5_2 : Fe w5 (b5_2) (0) ((1 : Fp).val) := (Fe.below_all (Fe.alloc hf5_2 _) hC5)
  replace h26 : Fe w5 (w2.heap.size) (0) (R2.val) := (Fe.below_all (Fe.alloc h26 _) hC5)
  replace h30 : Fe w5 (w4.heap.size) (0) (0) := (Fe.below_all (Fe.newz_at _ _ rfl) hC5)
  have hBw5 : Hid (Fr (vb) w w5) := Lib.hid (Fr.call (Fr.alloc hBw4.out _) hC5)
  clear hC5
  have hlb6_2 : w4.heap.size + 1 ≤ b6_2 := by (try simp only [alloc_size, setRow_size] at hlb6_2); omega
  have hub6_2 := xhf6_2.lt
  go_wp2_with fail
  obtain ⟨R3, qR3⟩ : ∃ uu : Fp, uu = R1 * (fp dN) := ⟨_, rfl⟩
  have HR3 := Lib.hid qR3; clear qR3
  refine (mul_ff (w4.heap.size) (0) (w1.heap.size) (0) (b6_2) (0) _ _ _ _ h30 h23 xhf6_2 R3 HR3).mono ?_
  rintro e w6 ⟨rfl, hC6⟩
  have hs6 : w5.heap.size ≤ w6.heap.size := by have := hC6.size; (try simp only [alloc_size, setRow_size] at this); omega
  replace hx : Row w6 (xb) (xo) 32 (byV N) := (Sets.rows hC6 hx (by omega))
  replace hv0 : Fe w6 (vb) (vo) (v0) := (Sets.others hC6 hv0 (by omega))
  replace hv1 : Fe w6 (vb) (vo + 5) (v1) := (Sets.others hC6 hv1 (by omega))
  replace hv2 : Fe w6 (vb) (vo + 10) (v2) := (Sets.others hC6 hv2 (by omega))
  replace hv3 : Fe w6 (vb) (vo + 15) (v3) := (Sets.others hC6 hv3 (by omega))
  replace h15 : Fe w6 (w.heap.size) (0) (Y.val) := (Sets.others hC6 h15 (by omega))
  replace h23 : Fe w6 (w1.heap.size) (0) (R1.val) := (Sets.others hC6 h23 (by omega))
  replace hf5_2 : Fe w6 (b5_2) (0) ((1 : Fp).val) := (Sets.others hC6 hf5_2 (by omega))
  replace h26 : Fe w6 (w2.heap.size) (0) (R2.val) := (Sets.others hC6 h26 (by omega))
  replace hf6_2 : Fe w6 (b6_2) (0) ((fp dN).val) := (Sets.others hC6 xhf6_2 (by omega))
  replace h30 : Fe w6 (w4.heap.size) (0) (R3.val) := (Sets.fe' hC6 h30)
  have hBw6 : Hid (Fr (vb) w w6) := Lib.hid (Fr.sets hBw5.out hC6 (by omega))
  clear hC6
  go_wp2_with fail
  refine (feOne_new B _ (hD2.below (Fr.below hBw6.out (by omega) (by omega)))).mono ?_
  rintro e w7 ⟨b7_2, rfl, hlb7_2, hC7, xhf7_2⟩
  have hs7 : w6.heap.size ≤ w7.heap.size := by have := hC7.size; (try simp only [alloc_size, setRow_size] at this); omega
  replace hx : Row w7 (xb) (xo) 32 (byV N) := (Row.below_all hx hC7)
  replace hv0 : Fe w7 (vb) (vo) (v0) := (Fe.below_all hv0 hC7)
  replace hv1 : Fe w7 (vb) (vo + 5) (v1) := (Fe.below_all hv1 hC7)
  replace hv2 : Fe w7 (vb) (vo + 10) (v2) := (Fe.below_all hv2 hC7)
  replace hv3 : Fe w7 (vb) (vo + 15) (v3) := (Fe.below_all hv3 hC7)
  replace h15 : Fe w7 (w.heap.size) (0) (Y.val) := (Fe.below_all h15 hC7)
  replace h23 : Fe w7 (w1.heap.size) (0) (R1.val) := (Fe.below_all h23 hC7)
  replace hf5_2 : Fe w7 (b5_2) (0) ((1 : Fp).val) := (Fe.below_all hf5_2 hC7)
  replace h26 : Fe w7 (w2.heap.size) (0) (R2.val) := (Fe.below_all h26 hC7)
  replace hf6_2 : Fe w7 (b6_2) (0) ((fp dN).val) := (Fe.below_all hf6_2 hC7)
  replace h30 : Fe w7 (w4.heap.size) (0) (R3.val) := (Fe.below_all h30 hC7)
  have hBw7 : Hid (Fr (vb) w w7) := Lib.hid (Fr.call hBw6.out hC7)
  clear hC7
  have hlb7_2 : w6.heap.size ≤ b7_2 := by (try simp only [alloc_size, setRow_size] at hlb7_2); omega
  have hub7_2 := xhf7_2.lt
  go_wp2_with fail
  obtain ⟨R4, qR4⟩ : ∃ uu : Fp, uu = R3 + (1 : Fp) := ⟨_, rfl⟩
  have HR4 := Lib.hid qR4; clear qR4
  refine (add_ff (w4.heap.size) (0) (w4.heap.size) (0) (b7_2) (0) _ _ _ _ h30 h30 xhf7_2 (Or.inl ⟨rfl, rfl⟩) (apart_blk _ _ _ _ (by omega)) R4 HR4).mono ?_
  rintro e w8 ⟨rfl, hC8⟩
  have hs8 : w7.heap.size ≤ w8.heap.size := by have := hC8.size; (try simp only [alloc_size, setRow_size] at this); omega
  replace hx : Row w8 (xb) (xo) 32 (byV N) := (Sets.rows hC8 hx (by omega))
  replace hv0 : Fe w8 (vb) (vo) (v0) := (Sets.others hC8 hv0 (by omega))
  replace hv1 : Fe w8 (vb) (vo + 5) (v1) := (Sets.others hC8 hv1 (by omega))
  replace hv2 : Fe w8 (vb) (vo + 10) (v2) := (Sets.others hC8 hv2 (by omega))
  replace hv3 : Fe w8 (vb) (vo + 15) (v3) := (Sets.others hC8 hv3 (by omega))
  replace h15 : Fe w8 (w.heap.size) (0) (Y.val) := (Sets.others hC8 h15 (by omega))
  replace h23 : Fe w8 (w1.heap.size) (0) (R1.val) := (Sets.others hC8 h23 (by omega))
  replace hf5_2 : Fe w8 (b5_2) (0) ((1 : Fp).val) := (Sets.others hC8 hf5_2 (by omega))
  replace h26 : Fe w8 (w2.heap.size) (0) (R2.val) := (Sets.others hC8 h26 (by omega))
  replace hf6_2 : Fe w8 (b6_2) (0) ((fp dN).val) := (Sets.others hC8 hf6_2 (by omega))
  replace hf7_2 : Fe w8 (b7_2) (0) ((1 : Fp).val) := (Sets.others hC8 xhf7_2 (by omega))
  replace h30 : Fe w8 (w4.heap.size) (0) (R4.val) := (Sets.fe' hC8 h30)
  have hBw8 : Hid (Fr (vb) w w8) := Lib.hid (Fr.sets hBw7.out hC8 (by omega))
  clear hC8
  have eU := dcU_F Y R1 R2 HR1.out HR2.out
  have eV := dcV_F Y R1 R3 R4 HR1.out HR3.out HR4.out
  have HRT : Hid (RT.val = sqR R2.val R4.val) := Lib.hid (by rw [eU, eV]; exact hRT.out)
  have HZ : Hid ((1 : Int) = if sqW R2.val R4.val then 1 else 0) := Lib.hid (by rw [eU, eV]; have h := hD.out; unfold dcIs at h; rw [h]; rfl)
  clear eU eV
  go_wp2_with fail
  refine (sqrt_fe (w8.heap.size) (0) (w2.heap.size) (0) (w4.heap.size) (0) _ _ _ B _ (hD0.below (Fr.below (Fr.alloc hBw8.out _) (by omega) (by omega))) (hD1.below (Fr.below (Fr.alloc hBw8.out _) (by omega) (by omega))) (Fe.newz_at _ _ rfl) (Fe.alloc h26 _) (Fe.alloc h30 _) RT.val HRT 1 HZ).mono ?_
  rintro e w9 ⟨rfl, hC9⟩
  have hs9 : w8.heap.size + 1 ≤ w9.heap.size := by have := hC9.size; (try simp only [alloc_size, setRow_size] at this); omega
  replace hx : Row w9 (xb) (xo) 32 (byV N) := (Sets.rows hC9 (Row.alloc hx _) (by omega))
  replace hv0 : Fe w9 (vb) (vo) (v0) := (Sets.others hC9 (Fe.alloc hv0 _) (by omega))
  replace hv1 : Fe w9 (vb) (vo + 5) (v1) := (Sets.others hC9 (Fe.alloc hv1 _) (by omega))
  replace hv2 : Fe w9 (vb) (vo + 10) (v2) := (Sets.others hC9 (Fe.alloc hv2 _) (by omega))
  replace hv3 : Fe w9 (vb) (vo + 15) (v3) := (Sets.others hC9 (Fe.alloc hv3 _) (by omega))
  replace h15 : Fe w9 (w.heap.size) (0) (Y.val) := (Sets.others hC9 (Fe.alloc h15 _) (by omega))
  replace h23 : Fe w9 (w1.heap.size) (0) (R1.val) := (Sets.others hC9 (Fe.alloc h23 _) (by omega))
  replace hf5_2 : Fe w9 (b5_2) (0) ((1 : Fp).val) := (Sets.others hC9 (Fe.alloc hf5_2 _) (by omega))
  replace h26 : Fe w9 (w2.heap.size) (0) (R2.val) := (Sets.others hC9 (Fe.alloc h26 _) (by omega))
  replace hf6_2 : Fe w9 (b6_2) (0) ((fp dN).val) := (Sets.others hC9 (Fe.alloc hf6_2 _) (by omega))
  replace hf7_2 : Fe w9 (b7_2) (0) ((1 : Fp).val) := (Sets.others hC9 (Fe.alloc hf7_2 _) (by omega))
  replace h30 : Fe w9 (w4.heap.size) (0) (R4.val) := (Sets.others hC9 (Fe.alloc h30 _) (by omega))
  replace h39 : Fe w9 (w8.heap.size) (0) (RT.val) := (Sets.fe' hC9 (Fe.newz_at _ _ rfl))
  have hBw9 : Hid (Fr (vb) w w9) := Lib.hid (Fr.sets (Fr.alloc hBw8.out _) hC9 (by omega))
  clear hC9
  go_wp2_with fail
  obtain ⟨R5, qR5⟩ : ∃ uu : Fp, uu = -RT := ⟨_, rfl⟩
  have HR5 := Lib.hid qR5; clear qR5
  refine (neg_ff (w9.heap.size) (0) (w8.heap.size) (0) _ _ B _ (hD0.below (Fr.below (Fr.alloc hBw9.out _) (by omega) (by omega))) (by omega) (Fe.newz_at _ _ rfl) (Fe.alloc h39 _) (apart_blk _ _ _ _ (by omega)) R5 HR5).mono ?_
  rintro e w10 ⟨rfl, hC10⟩
  have hs10 : w9.heap.size + 1 ≤ w10.heap.size := by have := hC10.size; (try simp only [alloc_size, setRow_size] at this); omega
  replace hx : Row w10 (xb) (xo) 32 (byV N) := (Sets.rows hC10 (Row.alloc hx _) (by omega))
  replace hv0 : Fe w10 (vb) (vo) (v0) := (Sets.others hC10 (Fe.alloc hv0 _) (by omega))
  replace hv1 : Fe w10 (vb) (vo + 5) (v1) := (Sets.others hC10 (Fe.alloc hv1 _) (by omega))
  replace hv2 : Fe w10 (vb) (vo + 10) (v2) := (Sets.others hC10 (Fe.alloc hv2 _) (by omega))
  replace hv3 : Fe w10 (vb) (vo + 15) (v3) := (Sets.others hC10 (Fe.alloc hv3 _) (by omega))
  replace h15 : Fe w10 (w.heap.size) (0) (Y.val) := (Sets.others hC10 (Fe.alloc h15 _) (by omega))
  replace h23 : Fe w10 (w1.heap.size) (0) (R1.val) := (Sets.others hC10 (Fe.alloc h23 _) (by omega))
  replace hf5_2 : Fe w10 (b5_2) (0) ((1 : Fp).val) := (Sets.others hC10 (Fe.alloc hf5_2 _) (by omega))
  replace h26 : Fe w10 (w2.heap.size) (0) (R2.val) := (Sets.others hC10 (Fe.alloc h26 _) (by omega))
  replace hf6_2 : Fe w10 (b6_2) (0) ((fp dN).val) := (Sets.others hC10 (Fe.alloc hf6_2 _) (by omega))
  replace hf7_2 : Fe w10 (b7_2) (0) ((1 : Fp).val) := (Sets.others hC10 (Fe.alloc hf7_2 _) (by omega))
  replace h30 : Fe w10 (w4.heap.size) (0) (R4.val) := (Sets.others hC10 (Fe.alloc h30 _) (by omega))
  replace h39 : Fe w10 (w8.heap.size) (0) (RT.val) := (Sets.others hC10 (Fe.alloc h39 _) (by omega))
  replace h48 : Fe w10 (w9.heap.size) (0) (R5.val) := (Sets.fe' hC10 (Fe.newz_at _ _ rfl))
  have hBw10 : Hid (Fr (vb) w w10) := Lib.hid (Fr.sets (Fr.alloc hBw9.out _) hC10 (by omega))
  clear hC10
  have hc := hx.cell (i := 31) (by omega)
  unfold byV at hc
  have hb := byteN_lt N 31
  have hB : 128 ≤ byteN N 31 := by rw [top_bit N lN]; exact hs.out
  generalize byteN N 31 = B31 at hc hb hB
  have hsh : (B31 : Int) / 128 = 1 := by omega
  go_wp2_with fail
  refine (select_fe1 (w8.heap.size) (0) (w9.heap.size) (0) (w8.heap.size) (0) _ _ _ (apart_blk _ _ _ _ (by omega)) (Or.inl ⟨rfl, rfl⟩) _ h39 h48 h39).mono ?_
  rintro e w11 ⟨rfl, hC11⟩
  have hs11 : w10.heap.size ≤ w11.heap.size := by have := hC11.size; (try simp only [alloc_size, setRow_size] at this); omega
  replace hx : Row w11 (xb) (xo) 32 (byV N) := (Sets.rows hC11 hx (by omega))
  replace hv0 : Fe w11 (vb) (vo) (v0) := (Sets.others hC11 hv0 (by omega))
  replace hv1 : Fe w11 (vb) (vo + 5) (v1) := (Sets.others hC11 hv1 (by omega))
  replace hv2 : Fe w11 (vb) (vo + 10) (v2) := (Sets.others hC11 hv2 (by omega))
  replace hv3 : Fe w11 (vb) (vo + 15) (v3) := (Sets.others hC11 hv3 (by omega))
  replace h15 : Fe w11 (w.heap.size) (0) (Y.val) := (Sets.others hC11 h15 (by omega))
  replace h23 : Fe w11 (w1.heap.size) (0) (R1.val) := (Sets.others hC11 h23 (by omega))
  replace hf5_2 : Fe w11 (b5_2) (0) ((1 : Fp).val) := (Sets.others hC11 hf5_2 (by omega))
  replace h26 : Fe w11 (w2.heap.size) (0) (R2.val) := (Sets.others hC11 h26 (by omega))
  replace hf6_2 : Fe w11 (b6_2) (0) ((fp dN).val) := (Sets.others hC11 hf6_2 (by omega))
  replace hf7_2 : Fe w11 (b7_2) (0) ((1 : Fp).val) := (Sets.others hC11 hf7_2 (by omega))
  replace h30 : Fe w11 (w4.heap.size) (0) (R4.val) := (Sets.others hC11 h30 (by omega))
  replace h48 : Fe w11 (w9.heap.size) (0) (R5.val) := (Sets.others hC11 h48 (by omega))
  replace h39 : Fe w11 (w8.heap.size) (0) (R5.val) := (Sets.fe' hC11 h39)
  have hBw11 : Hid (Fr (vb) w w11) := Lib.hid (Fr.sets hBw10.out hC11 (by omega))
  clear hC11
  go_wp2_with fail
  refine (set_fe (vb) (vo) (w8.heap.size) (0) _ _ _ hv0 h39).mono ?_
  rintro e w12 ⟨rfl, hC12⟩
  have hs12 : w11.heap.size ≤ w12.heap.size := by have := hC12.size; (try simp only [alloc_size, setRow_size] at this); omega
  replace hx : Row w12 (xb) (xo) 32 (byV N) := (Sets.rows hC12 hx (by omega))
  replace hv1 : Fe w12 (vb) (vo + 5) (v1) := (Sets.others hC12 hv1 (by omega))
  replace hv2 : Fe w12 (vb) (vo + 10) (v2) := (Sets.others hC12 hv2 (by omega))
  replace hv3 : Fe w12 (vb) (vo + 15) (v3) := (Sets.others hC12 hv3 (by omega))
  replace h15 : Fe w12 (w.heap.size) (0) (Y.val) := (Sets.others hC12 h15 (by omega))
  replace h23 : Fe w12 (w1.heap.size) (0) (R1.val) := (Sets.others hC12 h23 (by omega))
  replace hf5_2 : Fe w12 (b5_2) (0) ((1 : Fp).val) := (Sets.others hC12 hf5_2 (by omega))
  replace h26 : Fe w12 (w2.heap.size) (0) (R2.val) := (Sets.others hC12 h26 (by omega))
  replace hf6_2 : Fe w12 (b6_2) (0) ((fp dN).val) := (Sets.others hC12 hf6_2 (by omega))
  replace hf7_2 : Fe w12 (b7_2) (0) ((1 : Fp).val) := (Sets.others hC12 hf7_2 (by omega))
  replace h30 : Fe w12 (w4.heap.size) (0) (R4.val) := (Sets.others hC12 h30 (by omega))
  replace h48 : Fe w12 (w9.heap.size) (0) (R5.val) := (Sets.others hC12 h48 (by omega))
  replace h39 : Fe w12 (w8.heap.size) (0) (R5.val) := (Sets.others hC12 h39 (by omega))
  replace hv0 : Fe w12 (vb) (vo) (R5.val) := (Sets.fe' hC12 hv0)
  have hBw12 : Hid (Fr (vb) w w12) := Lib.hid (Fr.sets hBw11.out hC12 (by omega))
  clear hC12
  go_wp2_with fail
  refine (set_fe (vb) (vo + 5) (w.heap.size) (0) _ _ _ hv1 h15).mono ?_
  rintro e w13 ⟨rfl, hC13⟩
  have hs13 : w12.heap.size ≤ w13.heap.size := by have := hC13.size; (try simp only [alloc_size, setRow_size] at this); omega
  replace hx : Row w13 (xb) (xo) 32 (byV N) := (Sets.rows hC13 hx (by omega))
  replace hv2 : Fe w13 (vb) (vo + 10) (v2) := (Sets.others hC13 hv2 (by omega))
  replace hv3 : Fe w13 (vb) (vo + 15) (v3) := (Sets.others hC13 hv3 (by omega))
  replace h15 : Fe w13 (w.heap.size) (0) (Y.val) := (Sets.others hC13 h15 (by omega))
  replace h23 : Fe w13 (w1.heap.size) (0) (R1.val) := (Sets.others hC13 h23 (by omega))
  replace hf5_2 : Fe w13 (b5_2) (0) ((1 : Fp).val) := (Sets.others hC13 hf5_2 (by omega))
  replace h26 : Fe w13 (w2.heap.size) (0) (R2.val) := (Sets.others hC13 h26 (by omega))
  replace hf6_2 : Fe w13 (b6_2) (0) ((fp dN).val) := (Sets.others hC13 hf6_2 (by omega))
  replace hf7_2 : Fe w13 (b7_2) (0) ((1 : Fp).val) := (Sets.others hC13 hf7_2 (by omega))
  replace h30 : Fe w13 (w4.heap.size) (0) (R4.val) := (Sets.others hC13 h30 (by omega))
  replace h48 : Fe w13 (w9.heap.size) (0) (R5.val) := (Sets.others hC13 h48 (by omega))
  replace h39 : Fe w13 (w8.heap.size) (0) (R5.val) := (Sets.others hC13 h39 (by omega))
  replace hv0 : Fe w13 (vb) (vo) (R5.val) := (Sets.others hC13 hv0 (by omega))
  replace hv1 : Fe w13 (vb) (vo + 5) (Y.val) := (Sets.fe' hC13 hv1)
  have hBw13 : Hid (Fr (vb) w w13) := Lib.hid (Fr.sets hBw12.out hC13 (by omega))
  clear hC13
  go_wp2_with fail
  refine (one_ff (vb) (vo + 10) _ B _ (hD2.below (Fr.below hBw13.out (by omega) (by omega))) (by omega) hv2).mono ?_
  rintro e w14 ⟨rfl, hC14⟩
  have hs14 : w13.heap.size ≤ w14.heap.size := by have := hC14.size; (try simp only [alloc_size, setRow_size] at this); omega
  replace hx : Row w14 (xb) (xo) 32 (byV N) := (Sets.rows hC14 hx (by omega))
  replace hv3 : Fe w14 (vb) (vo + 15) (v3) := (Sets.others hC14 hv3 (by omega))
  replace h15 : Fe w14 (w.heap.size) (0) (Y.val) := (Sets.others hC14 h15 (by omega))
  replace h23 : Fe w14 (w1.heap.size) (0) (R1.val) := (Sets.others hC14 h23 (by omega))
  replace hf5_2 : Fe w14 (b5_2) (0) ((1 : Fp).val) := (Sets.others hC14 hf5_2 (by omega))
  replace h26 : Fe w14 (w2.heap.size) (0) (R2.val) := (Sets.others hC14 h26 (by omega))
  replace hf6_2 : Fe w14 (b6_2) (0) ((fp dN).val) := (Sets.others hC14 hf6_2 (by omega))
  replace hf7_2 : Fe w14 (b7_2) (0) ((1 : Fp).val) := (Sets.others hC14 hf7_2 (by omega))
  replace h30 : Fe w14 (w4.heap.size) (0) (R4.val) := (Sets.others hC14 h30 (by omega))
  replace h48 : Fe w14 (w9.heap.size) (0) (R5.val) := (Sets.others hC14 h48 (by omega))
  replace h39 : Fe w14 (w8.heap.size) (0) (R5.val) := (Sets.others hC14 h39 (by omega))
  replace hv0 : Fe w14 (vb) (vo) (R5.val) := (Sets.others hC14 hv0 (by omega))
  replace hv1 : Fe w14 (vb) (vo + 5) (Y.val) := (Sets.others hC14 hv1 (by omega))
  replace hv2 : Fe w14 (vb) (vo + 10) ((1 : Fp).val) := (Sets.fe' hC14 hv2)
  have hBw14 : Hid (Fr (vb) w w14) := Lib.hid (Fr.sets hBw13.out hC14 (by omega))
  clear hC14
  go_wp2_with fail
  obtain ⟨R6, qR6⟩ : ∃ uu : Fp, uu = R5 * Y := ⟨_, rfl⟩
  have HR6 := Lib.hid qR6; clear qR6
  refine (mul_ff (vb) (vo + 15) (w8.heap.size) (0) (w.heap.size) (0) _ _ _ _ hv3 h39 h15 R6 HR6).mono ?_
  rintro e w15 ⟨rfl, hC15⟩
  have hs15 : w14.heap.size ≤ w15.heap.size := by have := hC15.size; (try simp only [alloc_size, setRow_size] at this); omega
  replace hx : Row w15 (xb) (xo) 32 (byV N) := (Sets.rows hC15 hx (by omega))
  replace h15 : Fe w15 (w.heap.size) (0) (Y.val) := (Sets.others hC15 h15 (by omega))
  replace h23 : Fe w15 (w1.heap.size) (0) (R1.val) := (Sets.others hC15 h23 (by omega))
  replace hf5_2 : Fe w15 (b5_2) (0) ((1 : Fp).val) := (Sets.others hC15 hf5_2 (by omega))
  replace h26 : Fe w15 (w2.heap.size) (0) (R2.val) := (Sets.others hC15 h26 (by omega))
  replace hf6_2 : Fe w15 (b6_2) (0) ((fp dN).val) := (Sets.others hC15 hf6_2 (by omega))
  replace hf7_2 : Fe w15 (b7_2) (0) ((1 : Fp).val) := (Sets.others hC15 hf7_2 (by omega))
  replace h30 : Fe w15 (w4.heap.size) (0) (R4.val) := (Sets.others hC15 h30 (by omega))
  replace h48 : Fe w15 (w9.heap.size) (0) (R5.val) := (Sets.others hC15 h48 (by omega))
  replace h39 : Fe w15 (w8.heap.size) (0) (R5.val) := (Sets.others hC15 h39 (by omega))
  replace hv0 : Fe w15 (vb) (vo) (R5.val) := (Sets.others hC15 hv0 (by omega))
  replace hv1 : Fe w15 (vb) (vo + 5) (Y.val) := (Sets.others hC15 hv1 (by omega))
  replace hv2 : Fe w15 (vb) (vo + 10) ((1 : Fp).val) := (Sets.others hC15 hv2 (by omega))
  replace hv3 : Fe w15 (vb) (vo + 15) (R6.val) := (Sets.fe' hC15 hv3)
  have hBw15 : Hid (Fr (vb) w w15) := Lib.hid (Fr.sets hBw14.out hC15 (by omega))
  clear hC15
  go_wp2
  go_ret2
  refine ⟨rfl, hBw15.out, R5, Y, (1 : Fp), R6, ?_, hv0, hv1, hv2, hv3⟩
  have eX : R5 = P.x := by rw [HR5.out]; exact eP.out
  rw [HR6.out, eX, eY.out]
  exact Rq.one P
theorem pt_setBytes_none (vb vo xb xo N cap v0 v1 v2 v3 : Nat) (h : decP N = none) (hcap : 32 ≤ cap) (hne : xb ≠ vb) (B : Nat) (w : World) (hD0 : Var 1 z5 B w) (hD1 : Var 0 i5 B w) (hD2 : Var 2 o5 B w) (hvB : B ≤ vb) (hv0 : Fe w vb (vo) v0) (hv1 : Fe w vb (vo + 5) v1) (hv2 : Fe w vb (vo + 10) v2) (hv3 : Fe w vb (vo + 15) v3) (hx : Row w xb xo 32 (byV N)) :
    Calls Tryd.prog 30 #[.pointer (some ⟨vb, vo, none⟩), .slice (some ⟨xb, xo, none⟩) 32 cap] w fun e w' => ∃ u, e = .returned (.tuple #[.pointer none, .iface 108 u]) ∧ Below w.heap.size w w' := by
  have hv : (fp (valN N)).val = valN N := fp_lt (Nat.mod_lt _ pF_pos)
  exact setBytes_none vb vo xb xo N cap v0 v1 v2 v3 (fp (valN N)) (fp (dcR (fp (valN N)).val)) (Lib.hid hv) (Lib.hid (by rw [hv]; exact decP_none h)) (Lib.hid (fp_lt (dcR_lt _))) hcap hne B w hD0 hD1 hD2 hvB hv0 hv1 hv2 hv3 hx
theorem pt_setBytes_some (vb vo xb xo N cap v0 v1 v2 v3 : Nat) (P : CP) (lN : N < 256 ^ 32) (h : decP N = some P) (hcap : 32 ≤ cap) (hne : xb ≠ vb) (B : Nat) (w : World) (hD0 : Var 1 z5 B w) (hD1 : Var 0 i5 B w) (hD2 : Var 2 o5 B w) (hvB : B ≤ vb) (hv0 : Fe w vb (vo) v0) (hv1 : Fe w vb (vo + 5) v1) (hv2 : Fe w vb (vo + 10) v2) (hv3 : Fe w vb (vo + 15) v3) (hx : Row w xb xo 32 (byV N)) :
    Calls Tryd.prog 30 #[.pointer (some ⟨vb, vo, none⟩), .slice (some ⟨xb, xo, none⟩) 32 cap] w fun e w' => e = .returned (.tuple #[.pointer (some ⟨vb, vo, none⟩), .nilIface]) ∧ Fr vb w w' ∧ ∃ r0 r1 r2 r3 : Fp, Rq P r0 r1 r2 r3 ∧ Fe w' vb (vo) r0.val ∧ Fe w' vb (vo + 5) r1.val ∧ Fe w' vb (vo + 10) r2.val ∧ Fe w' vb (vo + 15) r3.val := by
  obtain ⟨h1, h2, h3⟩ := decP_some h
  rw [h3] at h1 h2
  by_cases hs : N / 57896044618658097711785492504343953926634992332820282019728792003956564819968 = 1
  · have e : - fp (dcR P.y.val) = P.x := by
      apply Fin.ext
      rw [← h2, hs]
      unfold dcX
      rw [if_pos rfl, fneg_val, fp_lt (dcR_lt _)]
    exact setBytes_neg vb vo xb xo N cap v0 v1 v2 v3 P.y (fp (dcR P.y.val)) (Lib.hid h3.symm) (Lib.hid h1) (Lib.hid (fp_lt (dcR_lt _))) hcap hne P lN (Lib.hid hs) (Lib.hid e) (Lib.hid rfl) B w hD0 hD1 hD2 hvB hv0 hv1 hv2 hv3 hx
  · have e : P.x.val = dcR P.y.val := by
      rw [← h2]; unfold dcX; rw [if_neg hs]
    exact setBytes_pos vb vo xb xo N cap v0 v1 v2 v3 P.y P.x (Lib.hid h3.symm) (Lib.hid h1) (Lib.hid e) hcap hne P lN (Lib.hid hs) (Lib.hid rfl) (Lib.hid rfl) B w hD0 hD1 hD2 hvB hv0 hv1 hv2 hv3 hx
end

end Go.Proofs.YtcenlinpbpbpoaaDoor
