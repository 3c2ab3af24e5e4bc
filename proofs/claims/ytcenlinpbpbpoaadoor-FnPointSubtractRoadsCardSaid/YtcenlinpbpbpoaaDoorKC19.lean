/- laws.FnPointSubtractRoads returns true for all p and q, feZero, feOne and sqrtM1 being laid by the program's text. -/
import Derived.BigRegion
import Derived.ChangeBears2
import Derived.ChangeKeysEq
import Derived.ChangeVars
import Derived.Deep.DeepCutAuto
import Derived.Deep.Draws
import Derived.Deep.Fields
import Derived.Deep.MidRow
import Derived.Deep.Quiet
import Derived.Deep.RegionHeld3
import Derived.Deep.WholeRow
import Derived.Great.BuildSlice
import Derived.LaidMore
import Derived.Laws.AppendOwn
import Derived.Laws.Bits64b
import Derived.Laws.CopyOwn
import Derived.Laws.CopyRow
import Derived.Laws.Externs
import Derived.Laws.StructEq
import Derived.Laws.Tables
import Derived.Lib.Hide
import Derived.LoopTactic
import Derived.OpenShut
import Derived.ProofKit
import Derived.StillTailTactics
import Derived.Stop.Joined
import Derived.Test.YtcenlinpbpbpoaaDoorCards
import Derived.Test.YtcenlinpbpbpoaaDoorProg
import Derived.Test.YtcenlinpbpbpoaaDoorRows
import Derived.Test.YtcenlinpbpbpoaaDoorTie
import Derived.WalkKit
import Derived.WalkLawsBesides
import Derived.WalkSpells
import Derived.WideKeyArgs
import Derived.Test.YtcenlinpbpbpoaaDoorKC0
import Derived.Test.YtcenlinpbpbpoaaDoorKC1
import Derived.Test.YtcenlinpbpbpoaaDoorKC10
import Derived.Test.YtcenlinpbpbpoaaDoorKC12
import Derived.Test.YtcenlinpbpbpoaaDoorKC14
import Derived.Test.YtcenlinpbpbpoaaDoorKC17
import Derived.Test.YtcenlinpbpbpoaaDoorKC2
import Derived.Test.YtcenlinpbpbpoaaDoorKC3
import Derived.Test.YtcenlinpbpbpoaaDoorKC4
import Derived.Test.YtcenlinpbpbpoaaDoorKC5
import Derived.Test.YtcenlinpbpbpoaaDoorKC6
import Derived.Test.YtcenlinpbpbpoaaDoorKC7
import Derived.Test.YtcenlinpbpbpoaaDoorKC8
import Derived.Test.YtcenlinpbpbpoaaDoorKC9
import Derived.Test.YtcenlinpbpbpoaaDoorKHF1
import Derived.Test.YtcenlinpbpbpoaaDoorKHF3
import Derived.Test.YtcenlinpbpbpoaaDoorKHGr
import Derived.Test.YtcenlinpbpbpoaaDoorKHPI
import Derived.Test.YtcenlinpbpbpoaaDoorKHPO
import Derived.Test.YtcenlinpbpbpoaaDoorKHPP
import Derived.Test.YtcenlinpbpbpoaaDoorKHPS
import Derived.Test.YtcenlinpbpbpoaaDoorKHS8
import Derived.Test.YtcenlinpbpbpoaaDoorKHSQ
import Derived.Test.YtcenlinpbpbpoaaDoorKHSQB
import Derived.Test.YtcenlinpbpbpoaaDoorKHSQN
import Derived.Test.YtcenlinpbpbpoaaDoorKHSRD
import Derived.Test.YtcenlinpbpbpoaaDoorKHU1
import Derived.Test.YtcenlinpbpbpoaaDoorKHUM
import Derived.Test.YtcenlinpbpbpoaaDoorKHUN
import Derived.Test.YtcenlinpbpbpoaaDoorKHUS
import Derived.Test.YtcenlinpbpbpoaaDoorKHUSR
import Derived.Test.YtcenlinpbpbpoaaDoorKHUSe
import Derived.Test.YtcenlinpbpbpoaaDoorKL0
import Derived.Test.YtcenlinpbpbpoaaDoorKL1
import Derived.Test.YtcenlinpbpbpoaaDoorKL2
import Derived.Test.YtcenlinpbpbpoaaDoorKL3
import Derived.Test.YtcenlinpbpbpoaaDoorKL4
namespace Go.Proofs.YtcenlinpbpbpoaaDoor
set_option maxRecDepth 4000
set_option linter.unusedSimpArgs false
set_option linter.unusedVariables false
section
set_option maxRecDepth 100000 in
set_option maxHeartbeats 4000000 in
theorem assoc_num {d x1 y1 x2 y2 x3 y3 : Fp} (h1 : y1 * y1 - x1 * x1 = 1 + d * (x1 * x1 * (y1 * y1))) (h2 : y2 * y2 - x2 * x2 = 1 + d * (x2 * x2 * (y2 * y2))) (h3 : y3 * y3 - x3 * x3 = 1 + d * (x3 * x3 * (y3 * y3))) :
   ((x1 * y2 + x2 * y1) * (1 - d * (x1 * x2 * (y1 * y2))) * y3 + x3 * (y1 * y2 + x1 * x2) * (1 + d * (x1 * x2 * (y1 * y2)))) * ((1 + d * (x2 * x3 * (y2 * y3))) * (1 - d * (x2 * x3 * (y2 * y3))) + d * x1 * y1 * (x2 * y3 + x3 * y2) * (y2 * y3 + x2 * x3)) =
   (x1 * (y2 * y3 + x2 * x3) * (1 + d * (x2 * x3 * (y2 * y3))) + (x2 * y3 + x3 * y2) * (1 - d * (x2 * x3 * (y2 * y3))) * y1) * ((1 + d * (x1 * x2 * (y1 * y2))) * (1 - d * (x1 * x2 * (y1 * y2))) + d * x3 * y3 * (x1 * y2 + x2 * y1) * (y1 * y2 + x1 * x2)) := by
  grind (ringSteps := 10000000)
set_option maxRecDepth 100000 in
set_option maxHeartbeats 4000000 in
theorem assoc_num_y {d x1 y1 x2 y2 x3 y3 : Fp} (h1 : y1 * y1 - x1 * x1 = 1 + d * (x1 * x1 * (y1 * y1))) (h2 : y2 * y2 - x2 * x2 = 1 + d * (x2 * x2 * (y2 * y2))) (h3 : y3 * y3 - x3 * x3 = 1 + d * (x3 * x3 * (y3 * y3))) :
   ((y1 * y2 + x1 * x2) * (1 + d * (x1 * x2 * (y1 * y2))) * y3 + (x1 * y2 + x2 * y1) * (1 - d * (x1 * x2 * (y1 * y2))) * x3) * ((1 + d * (x2 * x3 * (y2 * y3))) * (1 - d * (x2 * x3 * (y2 * y3))) - d * x1 * y1 * (x2 * y3 + x3 * y2) * (y2 * y3 + x2 * x3)) =
   (y1 * (y2 * y3 + x2 * x3) * (1 + d * (x2 * x3 * (y2 * y3))) + x1 * (x2 * y3 + x3 * y2) * (1 - d * (x2 * x3 * (y2 * y3)))) * ((1 + d * (x1 * x2 * (y1 * y2))) * (1 - d * (x1 * x2 * (y1 * y2))) - d * x3 * y3 * (x1 * y2 + x2 * y1) * (y1 * y2 + x1 * x2)) := by
  grind (ringSteps := 10000000)
theorem assoc_lift_x {d x1 y1 x2 y2 x3 y3 xa ya xb yb : Fp} (a1 : xa * (1 + d * (x1 * x2 * (y1 * y2))) = x1 * y2 + x2 * y1) (a2 : ya * (1 - d * (x1 * x2 * (y1 * y2))) = y1 * y2 + x1 * x2)
    (b1 : xb * (1 + d * (x2 * x3 * (y2 * y3))) = x2 * y3 + x3 * y2) (b2 : yb * (1 - d * (x2 * x3 * (y2 * y3))) = y2 * y3 + x2 * x3)
    (s : ((x1 * y2 + x2 * y1) * (1 - d * (x1 * x2 * (y1 * y2))) * y3 + x3 * (y1 * y2 + x1 * x2) * (1 + d * (x1 * x2 * (y1 * y2)))) * ((1 + d * (x2 * x3 * (y2 * y3))) * (1 - d * (x2 * x3 * (y2 * y3))) + d * x1 * y1 * (x2 * y3 + x3 * y2) * (y2 * y3 + x2 * x3)) =
      (x1 * (y2 * y3 + x2 * x3) * (1 + d * (x2 * x3 * (y2 * y3))) + (x2 * y3 + x3 * y2) * (1 - d * (x2 * x3 * (y2 * y3))) * y1) * ((1 + d * (x1 * x2 * (y1 * y2))) * (1 - d * (x1 * x2 * (y1 * y2))) + d * x3 * y3 * (x1 * y2 + x2 * y1) * (y1 * y2 + x1 * x2))) :
    (1 + d * (x1 * x2 * (y1 * y2))) * (1 - d * (x1 * x2 * (y1 * y2))) * ((1 + d * (x2 * x3 * (y2 * y3))) * (1 - d * (x2 * x3 * (y2 * y3)))) * ((xa * y3 + x3 * ya) * (1 + d * (x1 * xb * (y1 * yb)))) =
    (1 + d * (x1 * x2 * (y1 * y2))) * (1 - d * (x1 * x2 * (y1 * y2))) * ((1 + d * (x2 * x3 * (y2 * y3))) * (1 - d * (x2 * x3 * (y2 * y3)))) * ((x1 * yb + xb * y1) * (1 + d * (xa * x3 * (ya * y3)))) := by
  generalize 1 + d * (x1 * x2 * (y1 * y2)) = p1 at *
  generalize 1 - d * (x1 * x2 * (y1 * y2)) = m1 at *
  generalize 1 + d * (x2 * x3 * (y2 * y3)) = p2 at *
  generalize 1 - d * (x2 * x3 * (y2 * y3)) = m2 at *
  have l : p1 * m1 * (p2 * m2) * ((xa * y3 + x3 * ya) * (1 + d * (x1 * xb * (y1 * yb)))) = ((xa * p1) * m1 * y3 + x3 * (ya * m1) * p1) * (p2 * m2 + d * x1 * y1 * (xb * p2) * (yb * m2)) := by grind
  have r : p1 * m1 * (p2 * m2) * ((x1 * yb + xb * y1) * (1 + d * (xa * x3 * (ya * y3)))) = (x1 * (yb * m2) * p2 + (xb * p2) * m2 * y1) * (p1 * m1 + d * x3 * y3 * (xa * p1) * (ya * m1)) := by grind
  rw [l, r, a1, a2, b1, b2]
  exact s
theorem assoc_lift_y {d x1 y1 x2 y2 x3 y3 xa ya xb yb : Fp} (a1 : xa * (1 + d * (x1 * x2 * (y1 * y2))) = x1 * y2 + x2 * y1) (a2 : ya * (1 - d * (x1 * x2 * (y1 * y2))) = y1 * y2 + x1 * x2)
    (b1 : xb * (1 + d * (x2 * x3 * (y2 * y3))) = x2 * y3 + x3 * y2) (b2 : yb * (1 - d * (x2 * x3 * (y2 * y3))) = y2 * y3 + x2 * x3)
    (s : ((y1 * y2 + x1 * x2) * (1 + d * (x1 * x2 * (y1 * y2))) * y3 + (x1 * y2 + x2 * y1) * (1 - d * (x1 * x2 * (y1 * y2))) * x3) * ((1 + d * (x2 * x3 * (y2 * y3))) * (1 - d * (x2 * x3 * (y2 * y3))) - d * x1 * y1 * (x2 * y3 + x3 * y2) * (y2 * y3 + x2 * x3)) =
      (y1 * (y2 * y3 + x2 * x3) * (1 + d * (x2 * x3 * (y2 * y3))) + x1 * (x2 * y3 + x3 * y2) * (1 - d * (x2 * x3 * (y2 * y3)))) * ((1 + d * (x1 * x2 * (y1 * y2))) * (1 - d * (x1 * x2 * (y1 * y2))) - d * x3 * y3 * (x1 * y2 + x2 * y1) * (y1 * y2 + x1 * x2))) :
    (1 + d * (x1 * x2 * (y1 * y2))) * (1 - d * (x1 * x2 * (y1 * y2))) * ((1 + d * (x2 * x3 * (y2 * y3))) * (1 - d * (x2 * x3 * (y2 * y3)))) * ((ya * y3 + xa * x3) * (1 - d * (x1 * xb * (y1 * yb)))) =
    (1 + d * (x1 * x2 * (y1 * y2))) * (1 - d * (x1 * x2 * (y1 * y2))) * ((1 + d * (x2 * x3 * (y2 * y3))) * (1 - d * (x2 * x3 * (y2 * y3)))) * ((y1 * yb + x1 * xb) * (1 - d * (xa * x3 * (ya * y3)))) := by
  generalize 1 + d * (x1 * x2 * (y1 * y2)) = p1 at *
  generalize 1 - d * (x1 * x2 * (y1 * y2)) = m1 at *
  generalize 1 + d * (x2 * x3 * (y2 * y3)) = p2 at *
  generalize 1 - d * (x2 * x3 * (y2 * y3)) = m2 at *
  have l : p1 * m1 * (p2 * m2) * ((ya * y3 + xa * x3) * (1 - d * (x1 * xb * (y1 * yb)))) = ((ya * m1) * p1 * y3 + (xa * p1) * m1 * x3) * (p2 * m2 - d * x1 * y1 * (xb * p2) * (yb * m2)) := by grind
  have r : p1 * m1 * (p2 * m2) * ((y1 * yb + x1 * xb) * (1 - d * (xa * x3 * (ya * y3)))) = (y1 * (yb * m2) * p2 + x1 * (xb * p2) * m2) * (p1 * m1 - d * x3 * y3 * (xa * p1) * (ya * m1)) := by grind
  rw [l, r, a1, a2, b1, b2]
  exact s
theorem CP.neg_add (P : CP) : P.neg.add P = CP.zero := by
  have hp := P.on
  refine CP.ext' (fp_cancel (P.neg.np P) ?_) (fp_cancel (P.neg.nm P) ?_)
  · have h1 := P.neg.hx P
    show (1 + P.neg.e P) * P.neg.ax P = (1 + P.neg.e P) * 0
    unfold CP.neg at *
    simp only at h1
    grind
  · have h1 := P.neg.hy P
    show (1 - P.neg.e P) * P.neg.ay P = (1 - P.neg.e P) * 1
    unfold onC at hp
    unfold CP.neg CP.e at *
    simp only at h1
    grind
theorem fcross {n1 d1 n2 d2 r1 r2 : Fp} (h1 : r1 * d1 = n1) (h2 : r2 * d2 = n2) (k1 : d1 ≠ 0) (k2 : d2 ≠ 0) (h : n1 * d2 = n2 * d1) : r1 = r2 := by
  refine fp_cancel (fne_mul k1 k2) ?_
  grind
theorem CP.add_assoc (P Q R : CP) : (P.add Q).add R = P.add (Q.add R) := by
  have sx := assoc_num P.on Q.on R.on
  have sy := assoc_num_y P.on Q.on R.on
  have a1 := P.hx Q
  have a2 := P.hy Q
  have b1 := Q.hx R
  have b2 := Q.hy R
  have np1 := P.np Q
  have nm1 := P.nm Q
  have np2 := Q.np R
  have nm2 := Q.nm R
  have c1 := (P.add Q).hx R
  have c2 := (P.add Q).hy R
  have d1 := P.hx (Q.add R)
  have d2 := P.hy (Q.add R)
  have n1 := (P.add Q).np R
  have n2 := (P.add Q).nm R
  have n3 := P.np (Q.add R)
  have n4 := P.nm (Q.add R)
  have ea : (P.add Q).e R = fp dN * (P.ax Q * R.x * (P.ay Q * R.y)) := rfl
  have eb : P.e (Q.add R) = fp dN * (P.x * Q.ax R * (P.y * Q.ay R)) := rfl
  have e1 : P.e Q = fp dN * (P.x * Q.x * (P.y * Q.y)) := rfl
  have e2 : Q.e R = fp dN * (Q.x * R.x * (Q.y * R.y)) := rfl
  rw [ea] at c1 c2 n1 n2
  rw [eb] at d1 d2 n3 n4
  rw [e1] at a1 a2 np1 nm1
  rw [e2] at b1 b2 np2 nm2
  refine CP.ext' (fcross c1 d1 n1 n3 ?_) (fcross c2 d2 n2 n4 ?_)
  · show (P.ax Q * R.y + R.x * P.ay Q) * _ = (P.x * Q.ay R + Q.ax R * P.y) * _
    refine fp_cancel (fne_mul (fne_mul np1 nm1) (fne_mul np2 nm2)) ?_
    clear c1 c2 d1 d2 n1 n2 n3 n4 ea eb e1 e2 np1 nm1 np2 nm2 sy
    generalize P.ax Q = xa at *
    generalize P.ay Q = ya at *
    generalize Q.ax R = xb at *
    generalize Q.ay R = yb at *
    generalize P.x = x1 at *
    generalize P.y = y1 at *
    generalize Q.x = x2 at *
    generalize Q.y = y2 at *
    generalize R.x = x3 at *
    generalize R.y = y3 at *
    generalize fp dN = d at *
    exact assoc_lift_x a1 a2 b1 b2 sx
  · show (P.ay Q * R.y + P.ax Q * R.x) * _ = (P.y * Q.ay R + P.x * Q.ax R) * _
    refine fp_cancel (fne_mul (fne_mul np1 nm1) (fne_mul np2 nm2)) ?_
    clear c1 c2 d1 d2 n1 n2 n3 n4 ea eb e1 e2 np1 nm1 np2 nm2 sx
    generalize P.ax Q = xa at *
    generalize P.ay Q = ya at *
    generalize Q.ax R = xb at *
    generalize Q.ay R = yb at *
    generalize P.x = x1 at *
    generalize P.y = y1 at *
    generalize Q.x = x2 at *
    generalize Q.y = y2 at *
    generalize R.x = x3 at *
    generalize R.y = y3 at *
    generalize fp dN = d at *
    exact assoc_lift_y a1 a2 b1 b2 sy
end

section
open Go.RowKit
set_option maxHeartbeats 4000000 in
theorem pt_neg (vb vo pb po v0 v1 v2 v3 : Nat) (X Y Z T : Fp) (p : CP) (hP : Rq p X Y Z T) (dpb : pb ≠ vb) (B : Nat) (w : World) (hD0 : Var 1 z5 B w) (hD1 : Var 0 i5 B w) (hD2 : Var 2 o5 B w) (hvB : B ≤ vb) (hv0 : Fe w vb (vo) v0) (hv1 : Fe w vb (vo + 5) v1) (hv2 : Fe w vb (vo + 10) v2) (hv3 : Fe w vb (vo + 15) v3) (hp0 : Fe w pb (po) X.val) (hp1 : Fe w pb (po + 5) Y.val) (hp2 : Fe w pb (po + 10) Z.val) (hp3 : Fe w pb (po + 15) T.val) :
    Calls Tryd.prog 40 #[.pointer (some ⟨vb, vo, none⟩), .pointer (some ⟨pb, po, none⟩)] w fun e w' => e = .returned (.pointer (some ⟨vb, vo, none⟩)) ∧ Fr vb w w' ∧ ∃ r0 r1 r2 r3 : Fp, Rq p.neg r0 r1 r2 r3 ∧ Fe w' vb (vo) r0.val ∧ Fe w' vb (vo + 5) r1.val ∧ Fe w' vb (vo + 10) r2.val ∧ Fe w' vb (vo + 15) r3.val := by
  have hvl := hv0.lt
  have hlhp := hp0.lt
  have hBl := hD0.1
  go_enter Tryd.func40, Tryd.ntmps40
  go_wp2_with fail
  refine (checkInit1 (w.heap.size) (pb) (po) _ X Y Z hP.1 _ _ (heap_new_at _ _ _ rfl) (Fe.alloc hp0 _) (Fe.alloc hp1 _)).mono ?_
  rintro e w1 ⟨rfl, hC1⟩
  have hs1 : w.heap.size + 1 ≤ w1.heap.size := by have := hC1.size; (try simp only [alloc_size, setRow_size] at this); omega
  replace hp0 : Fe w1 (pb) (po) (X.val) := (Fe.below_all (Fe.alloc hp0 _) hC1)
  replace hp1 : Fe w1 (pb) (po + 5) (Y.val) := (Fe.below_all (Fe.alloc hp1 _) hC1)
  replace hp2 : Fe w1 (pb) (po + 10) (Z.val) := (Fe.below_all (Fe.alloc hp2 _) hC1)
  replace hp3 : Fe w1 (pb) (po + 15) (T.val) := (Fe.below_all (Fe.alloc hp3 _) hC1)
  replace hv0 : Fe w1 (vb) (vo) (v0) := (Fe.below_all (Fe.alloc hv0 _) hC1)
  replace hv1 : Fe w1 (vb) (vo + 5) (v1) := (Fe.below_all (Fe.alloc hv1 _) hC1)
  replace hv2 : Fe w1 (vb) (vo + 10) (v2) := (Fe.below_all (Fe.alloc hv2 _) hC1)
  replace hv3 : Fe w1 (vb) (vo + 15) (v3) := (Fe.below_all (Fe.alloc hv3 _) hC1)
  replace h6 : w1.heap[w.heap.size]? = some (.cells (#[.pointer (some ⟨pb, po, none⟩)]) 37 (0, 0)) := (heap_call hC1 (heap_new_at _ _ _ rfl))
  have hBw1 : Hid (Fr (vb) w w1) := Lib.hid (Fr.call (Fr.alloc (Fr.refl _ w) _) hC1)
  clear hC1
  go_wp2_with fail
  try simp only [Act.put]
  refine wp_named ?_
  intro w2 ew2
  have hs2 : w1.heap.size ≤ w2.heap.size := by rw [ew2]; (try simp only [alloc_size, setRow_size]); omega
  replace hp0 : Fe w2 (pb) (po) (X.val) := by rw [ew2]; exact hp0
  replace hp1 : Fe w2 (pb) (po + 5) (Y.val) := by rw [ew2]; exact hp1
  replace hp2 : Fe w2 (pb) (po + 10) (Z.val) := by rw [ew2]; exact hp2
  replace hp3 : Fe w2 (pb) (po + 15) (T.val) := by rw [ew2]; exact hp3
  replace hv0 : Fe w2 (vb) (vo) (v0) := by rw [ew2]; exact hv0
  replace hv1 : Fe w2 (vb) (vo + 5) (v1) := by rw [ew2]; exact hv1
  replace hv2 : Fe w2 (vb) (vo + 10) (v2) := by rw [ew2]; exact hv2
  replace hv3 : Fe w2 (vb) (vo + 15) (v3) := by rw [ew2]; exact hv3
  have hBw2 : Hid (Fr (vb) w w2) := Lib.hid (by rw [ew2]; exact hBw1.out)
  clear ew2
  obtain ⟨R1, qR1⟩ : ∃ uu : Fp, uu = -X := ⟨_, rfl⟩
  have HR1 := Lib.hid qR1; clear qR1
  refine wp_region_noPanic ?_
  refine wp_region_held_drew (S := Keep (vb) w2) (by kernel_rfl) (Keep.start _ _) ?_
  intro hS
  obtain ⟨w3, ed⟩ : ∃ u : World, u = w2.drew := ⟨_, rfl⟩
  rw [← ed] at hS ⊢
  have xhp0 : Fe w3 (pb) (po) (X.val) := by rw [ed]; exact hp0
  have xhp1 : Fe w3 (pb) (po + 5) (Y.val) := by rw [ed]; exact hp1
  have xhp2 : Fe w3 (pb) (po + 10) (Z.val) := by rw [ed]; exact hp2
  have xhp3 : Fe w3 (pb) (po + 15) (T.val) := by rw [ed]; exact hp3
  have xhv0 : Fe w3 (vb) (vo) (v0) := by rw [ed]; exact hv0
  have xhv1 : Fe w3 (vb) (vo + 5) (v1) := by rw [ed]; exact hv1
  have xhv2 : Fe w3 (vb) (vo + 10) (v2) := by rw [ed]; exact hv2
  have xhv3 : Fe w3 (vb) (vo + 15) (v3) := by rw [ed]; exact hv3
  clear ed
  have hSz := hS.size
  refine takeAtK (i := 0) (v := .pointer (some ⟨vb, vo, none⟩)) rfl (some 8) rfl (take_run rfl (fun _ _ => by go_simp)) hS ?_
  simp only [Act.put, sia, sc0, scs]
  refine takeAtK (i := 1) (v := .pointer (some ⟨vb, vo, none⟩)) rfl (some 9) rfl (take_run rfl (fun _ _ => by go_simp)) hS ?_
  simp only [Act.put, sia, sc0, scs]
  refine takeAtK (i := 2) (v := .pointer (some ⟨vb, vo, none⟩)) rfl (some 10) rfl (take_run rfl (fun _ _ => by go_simp)) hS ?_
  simp only [Act.put, sia, sc0, scs]
  refine takeAtK (i := 3) (v := .pointer (some ⟨pb, po, none⟩)) rfl (some 11) rfl (take_run rfl (fun _ _ => by go_simp)) hS ?_
  simp only [Act.put, sia, sc0, scs]
  refine takeAtK (i := 4) (v := .pointer (some ⟨pb, po, none⟩)) rfl (some 12) rfl (take_run rfl (fun _ _ => by go_simp)) hS ?_
  simp only [Act.put, sia, sc0, scs]
  refine takeAtK (i := 5) (v := .pointer (some ⟨pb, po, none⟩)) rfl (some 13) rfl (take_run rfl (fun _ _ => by go_simp)) hS ?_
  simp only [Act.put, sia, sc0, scs]
  refine wpAnyH_ready (rs := [6]) (by kernel_rfl) (by simp) ?_
  refine (AllReadyH.cons rfl ?_ AllReadyH.nil)
  intro K hK
  refine ready_call rfl (some 14) rfl 62 #[.pointer (some ⟨vb, vo, none⟩), .pointer (some ⟨pb, po, none⟩)] (by go_simp) ?_
  refine (neg_ff (vb) (vo) (pb) (po) _ _ B _ (hD0.below (Fr.below (Fr.keep hBw2.out hS (by first | exact Or.inl rfl | exact Or.inr (by omega))) (by omega) (by omega))) (by omega) xhv0 xhp0 (apart_blk _ _ _ _ (by omega)) R1 HR1).mono ?_
  rintro e w4 ⟨rfl, hC⟩
  refine ⟨_, rfl, ?_⟩
  simp only [Act.put, sia, sc0, scs]
  have hz4 := hC.size
  have xhp0 : Fe w4 (pb) (po) (X.val) := (Sets.others hC xhp0 (by omega))
  have xhp1 : Fe w4 (pb) (po + 5) (Y.val) := (Sets.others hC xhp1 (by omega))
  have xhp2 : Fe w4 (pb) (po + 10) (Z.val) := (Sets.others hC xhp2 (by omega))
  have xhp3 : Fe w4 (pb) (po + 15) (T.val) := (Sets.others hC xhp3 (by omega))
  have xhv0 : Fe w4 (vb) (vo) (R1.val) := (Sets.fe' hC xhv0)
  have xhv1 : Fe w4 (vb) (vo + 5) (v1) := (Sets.others hC xhv1 (by omega))
  have xhv2 : Fe w4 (vb) (vo + 10) (v2) := (Sets.others hC xhv2 (by omega))
  have xhv3 : Fe w4 (vb) (vo + 15) (v3) := (Sets.others hC xhv3 (by omega))
  have hS := hS.setsR hC
  clear hC
  refine hK.out _ _ hS ?_
  clear hK K
  intro _
  have hSz := hS.size
  refine wpAnyH_done (by kernel_rfl) ?_ _
  refine NoPanic.normal ?_
  have hsz := hS.size
  have hp0 := xhp0
  have hp1 := xhp1
  have hp2 := xhp2
  have hp3 := xhp3
  have hv0 := xhv0
  have hv1 := xhv1
  have hv2 := xhv2
  have hv3 := xhv3
  have hBw4 : Hid (Fr (vb) w w4) := Lib.hid (Fr.keep hBw2.out hS (by first | exact Or.inl rfl | exact Or.inr (by omega)))
  clear hS
  go_wp2_with fail
  try simp only [Act.put]
  refine wp_named ?_
  intro w6 ew6
  have hs6 : w4.heap.size ≤ w6.heap.size := by rw [ew6]; (try simp only [alloc_size, setRow_size]); omega
  replace hp0 : Fe w6 (pb) (po) (X.val) := by rw [ew6]; exact hp0
  replace hp1 : Fe w6 (pb) (po + 5) (Y.val) := by rw [ew6]; exact hp1
  replace hp2 : Fe w6 (pb) (po + 10) (Z.val) := by rw [ew6]; exact hp2
  replace hp3 : Fe w6 (pb) (po + 15) (T.val) := by rw [ew6]; exact hp3
  replace hv0 : Fe w6 (vb) (vo) (R1.val) := by rw [ew6]; exact hv0
  replace hv1 : Fe w6 (vb) (vo + 5) (v1) := by rw [ew6]; exact hv1
  replace hv2 : Fe w6 (vb) (vo + 10) (v2) := by rw [ew6]; exact hv2
  replace hv3 : Fe w6 (vb) (vo + 15) (v3) := by rw [ew6]; exact hv3
  have hBw6 : Hid (Fr (vb) w w6) := Lib.hid (by rw [ew6]; exact hBw4.out)
  clear ew6
  refine wp_region_noPanic ?_
  refine wp_region_held_drew (S := Keep (vb) w6) (by kernel_rfl) (Keep.start _ _) ?_
  intro hS
  obtain ⟨w7, ed⟩ : ∃ u : World, u = w6.drew := ⟨_, rfl⟩
  rw [← ed] at hS ⊢
  have xhp0 : Fe w7 (pb) (po) (X.val) := by rw [ed]; exact hp0
  have xhp1 : Fe w7 (pb) (po + 5) (Y.val) := by rw [ed]; exact hp1
  have xhp2 : Fe w7 (pb) (po + 10) (Z.val) := by rw [ed]; exact hp2
  have xhp3 : Fe w7 (pb) (po + 15) (T.val) := by rw [ed]; exact hp3
  have xhv0 : Fe w7 (vb) (vo) (R1.val) := by rw [ed]; exact hv0
  have xhv1 : Fe w7 (vb) (vo + 5) (v1) := by rw [ed]; exact hv1
  have xhv2 : Fe w7 (vb) (vo + 10) (v2) := by rw [ed]; exact hv2
  have xhv3 : Fe w7 (vb) (vo + 15) (v3) := by rw [ed]; exact hv3
  clear ed
  have hSz := hS.size
  refine takeAtK (i := 0) (v := .pointer (some ⟨vb, vo, none⟩)) rfl (some 15) rfl (take_run rfl (fun _ _ => by go_simp)) hS ?_
  simp only [Act.put, sia, sc0, scs]
  refine takeAtK (i := 1) (v := .pointer (some ⟨vb, vo, none⟩)) rfl (some 16) rfl (take_run rfl (fun _ _ => by go_simp)) hS ?_
  simp only [Act.put, sia, sc0, scs]
  refine takeAtK (i := 2) (v := .pointer (some ⟨vb, vo + 5, none⟩)) rfl (some 17) rfl (take_run rfl (fun _ _ => by go_simp)) hS ?_
  simp only [Act.put, sia, sc0, scs]
  refine takeAtK (i := 3) (v := .pointer (some ⟨pb, po, none⟩)) rfl (some 18) rfl (take_run rfl (fun _ _ => by go_simp)) hS ?_
  simp only [Act.put, sia, sc0, scs]
  refine takeAtK (i := 4) (v := .pointer (some ⟨pb, po, none⟩)) rfl (some 19) rfl (take_run rfl (fun _ _ => by go_simp)) hS ?_
  simp only [Act.put, sia, sc0, scs]
  refine takeAtK (i := 5) (v := .pointer (some ⟨pb, po + 5, none⟩)) rfl (some 20) rfl (take_run rfl (fun _ _ => by go_simp)) hS ?_
  simp only [Act.put, sia, sc0, scs]
  refine wpAnyH_ready (rs := [6]) (by kernel_rfl) (by simp) ?_
  refine (AllReadyH.cons rfl ?_ AllReadyH.nil)
  intro K hK
  refine ready_call rfl (some 21) rfl 64 #[.pointer (some ⟨vb, vo + 5, none⟩), .pointer (some ⟨pb, po + 5, none⟩)] (by go_simp) ?_
  refine (set_fe (vb) (vo + 5) (pb) (po + 5) _ _ _ xhv1 xhp1).mono ?_
  rintro e w8 ⟨rfl, hC⟩
  refine ⟨_, rfl, ?_⟩
  simp only [Act.put, sia, sc0, scs]
  have hz8 := hC.size
  have xhp0 : Fe w8 (pb) (po) (X.val) := (Sets.others hC xhp0 (by omega))
  have xhp1 : Fe w8 (pb) (po + 5) (Y.val) := (Sets.others hC xhp1 (by omega))
  have xhp2 : Fe w8 (pb) (po + 10) (Z.val) := (Sets.others hC xhp2 (by omega))
  have xhp3 : Fe w8 (pb) (po + 15) (T.val) := (Sets.others hC xhp3 (by omega))
  have xhv0 : Fe w8 (vb) (vo) (R1.val) := (Sets.others hC xhv0 (by omega))
  have xhv1 : Fe w8 (vb) (vo + 5) (Y.val) := (Sets.fe' hC xhv1)
  have xhv2 : Fe w8 (vb) (vo + 10) (v2) := (Sets.others hC xhv2 (by omega))
  have xhv3 : Fe w8 (vb) (vo + 15) (v3) := (Sets.others hC xhv3 (by omega))
  have hS := hS.setsR hC
  clear hC
  refine hK.out _ _ hS ?_
  clear hK K
  intro _
  have hSz := hS.size
  refine wpAnyH_done (by kernel_rfl) ?_ _
  refine NoPanic.normal ?_
  have hsz := hS.size
  have hp0 := xhp0
  have hp1 := xhp1
  have hp2 := xhp2
  have hp3 := xhp3
  have hv0 := xhv0
  have hv1 := xhv1
  have hv2 := xhv2
  have hv3 := xhv3
  have hBw8 : Hid (Fr (vb) w w8) := Lib.hid (Fr.keep hBw6.out hS (by first | exact Or.inl rfl | exact Or.inr (by omega)))
  clear hS
  go_wp2_with fail
  try simp only [Act.put]
  refine wp_named ?_
  intro w10 ew10
  have hs10 : w8.heap.size ≤ w10.heap.size := by rw [ew10]; (try simp only [alloc_size, setRow_size]); omega
  replace hp0 : Fe w10 (pb) (po) (X.val) := by rw [ew10]; exact hp0
  replace hp1 : Fe w10 (pb) (po + 5) (Y.val) := by rw [ew10]; exact hp1
  replace hp2 : Fe w10 (pb) (po + 10) (Z.val) := by rw [ew10]; exact hp2
  replace hp3 : Fe w10 (pb) (po + 15) (T.val) := by rw [ew10]; exact hp3
  replace hv0 : Fe w10 (vb) (vo) (R1.val) := by rw [ew10]; exact hv0
  replace hv1 : Fe w10 (vb) (vo + 5) (Y.val) := by rw [ew10]; exact hv1
  replace hv2 : Fe w10 (vb) (vo + 10) (v2) := by rw [ew10]; exact hv2
  replace hv3 : Fe w10 (vb) (vo + 15) (v3) := by rw [ew10]; exact hv3
  have hBw10 : Hid (Fr (vb) w w10) := Lib.hid (by rw [ew10]; exact hBw8.out)
  clear ew10
  refine wp_region_noPanic ?_
  refine wp_region_held_drew (S := Keep (vb) w10) (by kernel_rfl) (Keep.start _ _) ?_
  intro hS
  obtain ⟨w11, ed⟩ : ∃ u : World, u = w10.drew := ⟨_, rfl⟩
  rw [← ed] at hS ⊢
  have xhp0 : Fe w11 (pb) (po) (X.val) := by rw [ed]; exact hp0
  have xhp1 : Fe w11 (pb) (po + 5) (Y.val) := by rw [ed]; exact hp1
  have xhp2 : Fe w11 (pb) (po + 10) (Z.val) := by rw [ed]; exact hp2
  have xhp3 : Fe w11 (pb) (po + 15) (T.val) := by rw [ed]; exact hp3
  have xhv0 : Fe w11 (vb) (vo) (R1.val) := by rw [ed]; exact hv0
  have xhv1 : Fe w11 (vb) (vo + 5) (Y.val) := by rw [ed]; exact hv1
  have xhv2 : Fe w11 (vb) (vo + 10) (v2) := by rw [ed]; exact hv2
  have xhv3 : Fe w11 (vb) (vo + 15) (v3) := by rw [ed]; exact hv3
  clear ed
  have hSz := hS.size
  refine takeAtK (i := 0) (v := .pointer (some ⟨vb, vo, none⟩)) rfl (some 22) rfl (take_run rfl (fun _ _ => by go_simp)) hS ?_
  simp only [Act.put, sia, sc0, scs]
  refine takeAtK (i := 1) (v := .pointer (some ⟨vb, vo, none⟩)) rfl (some 23) rfl (take_run rfl (fun _ _ => by go_simp)) hS ?_
  simp only [Act.put, sia, sc0, scs]
  refine takeAtK (i := 2) (v := .pointer (some ⟨vb, vo + 10, none⟩)) rfl (some 24) rfl (take_run rfl (fun _ _ => by go_simp)) hS ?_
  simp only [Act.put, sia, sc0, scs]
  refine takeAtK (i := 3) (v := .pointer (some ⟨pb, po, none⟩)) rfl (some 25) rfl (take_run rfl (fun _ _ => by go_simp)) hS ?_
  simp only [Act.put, sia, sc0, scs]
  refine takeAtK (i := 4) (v := .pointer (some ⟨pb, po, none⟩)) rfl (some 26) rfl (take_run rfl (fun _ _ => by go_simp)) hS ?_
  simp only [Act.put, sia, sc0, scs]
  refine takeAtK (i := 5) (v := .pointer (some ⟨pb, po + 10, none⟩)) rfl (some 27) rfl (take_run rfl (fun _ _ => by go_simp)) hS ?_
  simp only [Act.put, sia, sc0, scs]
  refine wpAnyH_ready (rs := [6]) (by kernel_rfl) (by simp) ?_
  refine (AllReadyH.cons rfl ?_ AllReadyH.nil)
  intro K hK
  refine ready_call rfl (some 28) rfl 64 #[.pointer (some ⟨vb, vo + 10, none⟩), .pointer (some ⟨pb, po + 10, none⟩)] (by go_simp) ?_
  refine (set_fe (vb) (vo + 10) (pb) (po + 10) _ _ _ xhv2 xhp2).mono ?_
  rintro e w12 ⟨rfl, hC⟩
  refine ⟨_, rfl, ?_⟩
  simp only [Act.put, sia, sc0, scs]
  have hz12 := hC.size
  have xhp0 : Fe w12 (pb) (po) (X.val) := (Sets.others hC xhp0 (by omega))
  have xhp1 : Fe w12 (pb) (po + 5) (Y.val) := (Sets.others hC xhp1 (by omega))
  have xhp2 : Fe w12 (pb) (po + 10) (Z.val) := (Sets.others hC xhp2 (by omega))
  have xhp3 : Fe w12 (pb) (po + 15) (T.val) := (Sets.others hC xhp3 (by omega))
  have xhv0 : Fe w12 (vb) (vo) (R1.val) := (Sets.others hC xhv0 (by omega))
  have xhv1 : Fe w12 (vb) (vo + 5) (Y.val) := (Sets.others hC xhv1 (by omega))
  have xhv2 : Fe w12 (vb) (vo + 10) (Z.val) := (Sets.fe' hC xhv2)
  have xhv3 : Fe w12 (vb) (vo + 15) (v3) := (Sets.others hC xhv3 (by omega))
  have hS := hS.setsR hC
  clear hC
  refine hK.out _ _ hS ?_
  clear hK K
  intro _
  have hSz := hS.size
  refine wpAnyH_done (by kernel_rfl) ?_ _
  refine NoPanic.normal ?_
  have hsz := hS.size
  have hp0 := xhp0
  have hp1 := xhp1
  have hp2 := xhp2
  have hp3 := xhp3
  have hv0 := xhv0
  have hv1 := xhv1
  have hv2 := xhv2
  have hv3 := xhv3
  have hBw12 : Hid (Fr (vb) w w12) := Lib.hid (Fr.keep hBw10.out hS (by first | exact Or.inl rfl | exact Or.inr (by omega)))
  clear hS
  go_wp2_with fail
  try simp only [Act.put]
  refine wp_named ?_
  intro w14 ew14
  have hs14 : w12.heap.size ≤ w14.heap.size := by rw [ew14]; (try simp only [alloc_size, setRow_size]); omega
  replace hp0 : Fe w14 (pb) (po) (X.val) := by rw [ew14]; exact hp0
  replace hp1 : Fe w14 (pb) (po + 5) (Y.val) := by rw [ew14]; exact hp1
  replace hp2 : Fe w14 (pb) (po + 10) (Z.val) := by rw [ew14]; exact hp2
  replace hp3 : Fe w14 (pb) (po + 15) (T.val) := by rw [ew14]; exact hp3
  replace hv0 : Fe w14 (vb) (vo) (R1.val) := by rw [ew14]; exact hv0
  replace hv1 : Fe w14 (vb) (vo + 5) (Y.val) := by rw [ew14]; exact hv1
  replace hv2 : Fe w14 (vb) (vo + 10) (Z.val) := by rw [ew14]; exact hv2
  replace hv3 : Fe w14 (vb) (vo + 15) (v3) := by rw [ew14]; exact hv3
  have hBw14 : Hid (Fr (vb) w w14) := Lib.hid (by rw [ew14]; exact hBw12.out)
  clear ew14
  obtain ⟨R2, qR2⟩ : ∃ uu : Fp, uu = -T := ⟨_, rfl⟩
  have HR2 := Lib.hid qR2; clear qR2
  refine wp_region_noPanic ?_
  refine wp_region_held_drew (S := Keep (vb) w14) (by kernel_rfl) (Keep.start _ _) ?_
  intro hS
  obtain ⟨w15, ed⟩ : ∃ u : World, u = w14.drew := ⟨_, rfl⟩
  rw [← ed] at hS ⊢
  have xhp0 : Fe w15 (pb) (po) (X.val) := by rw [ed]; exact hp0
  have xhp1 : Fe w15 (pb) (po + 5) (Y.val) := by rw [ed]; exact hp1
  have xhp2 : Fe w15 (pb) (po + 10) (Z.val) := by rw [ed]; exact hp2
  have xhp3 : Fe w15 (pb) (po + 15) (T.val) := by rw [ed]; exact hp3
  have xhv0 : Fe w15 (vb) (vo) (R1.val) := by rw [ed]; exact hv0
  have xhv1 : Fe w15 (vb) (vo + 5) (Y.val) := by rw [ed]; exact hv1
  have xhv2 : Fe w15 (vb) (vo + 10) (Z.val) := by rw [ed]; exact hv2
  have xhv3 : Fe w15 (vb) (vo + 15) (v3) := by rw [ed]; exact hv3
  clear ed
  have hSz := hS.size
  refine takeAtK (i := 0) (v := .pointer (some ⟨vb, vo, none⟩)) rfl (some 29) rfl (take_run rfl (fun _ _ => by go_simp)) hS ?_
  simp only [Act.put, sia, sc0, scs]
  refine takeAtK (i := 1) (v := .pointer (some ⟨vb, vo, none⟩)) rfl (some 30) rfl (take_run rfl (fun _ _ => by go_simp)) hS ?_
  simp only [Act.put, sia, sc0, scs]
  refine takeAtK (i := 2) (v := .pointer (some ⟨vb, vo + 15, none⟩)) rfl (some 31) rfl (take_run rfl (fun _ _ => by go_simp)) hS ?_
  simp only [Act.put, sia, sc0, scs]
  refine takeAtK (i := 3) (v := .pointer (some ⟨pb, po, none⟩)) rfl (some 32) rfl (take_run rfl (fun _ _ => by go_simp)) hS ?_
  simp only [Act.put, sia, sc0, scs]
  refine takeAtK (i := 4) (v := .pointer (some ⟨pb, po, none⟩)) rfl (some 33) rfl (take_run rfl (fun _ _ => by go_simp)) hS ?_
  simp only [Act.put, sia, sc0, scs]
  refine takeAtK (i := 5) (v := .pointer (some ⟨pb, po + 15, none⟩)) rfl (some 34) rfl (take_run rfl (fun _ _ => by go_simp)) hS ?_
  simp only [Act.put, sia, sc0, scs]
  refine wpAnyH_ready (rs := [6]) (by kernel_rfl) (by simp) ?_
  refine (AllReadyH.cons rfl ?_ AllReadyH.nil)
  intro K hK
  refine ready_call rfl (some 35) rfl 62 #[.pointer (some ⟨vb, vo + 15, none⟩), .pointer (some ⟨pb, po + 15, none⟩)] (by go_simp) ?_
  refine (neg_ff (vb) (vo + 15) (pb) (po + 15) _ _ B _ (hD0.below (Fr.below (Fr.keep hBw14.out hS (by first | exact Or.inl rfl | exact Or.inr (by omega))) (by omega) (by omega))) (by omega) xhv3 xhp3 (apart_blk _ _ _ _ (by omega)) R2 HR2).mono ?_
  rintro e w16 ⟨rfl, hC⟩
  refine ⟨_, rfl, ?_⟩
  simp only [Act.put, sia, sc0, scs]
  have hz16 := hC.size
  have xhp0 : Fe w16 (pb) (po) (X.val) := (Sets.others hC xhp0 (by omega))
  have xhp1 : Fe w16 (pb) (po + 5) (Y.val) := (Sets.others hC xhp1 (by omega))
  have xhp2 : Fe w16 (pb) (po + 10) (Z.val) := (Sets.others hC xhp2 (by omega))
  have xhp3 : Fe w16 (pb) (po + 15) (T.val) := (Sets.others hC xhp3 (by omega))
  have xhv0 : Fe w16 (vb) (vo) (R1.val) := (Sets.others hC xhv0 (by omega))
  have xhv1 : Fe w16 (vb) (vo + 5) (Y.val) := (Sets.others hC xhv1 (by omega))
  have xhv2 : Fe w16 (vb) (vo + 10) (Z.val) := (Sets.others hC xhv2 (by omega))
  have xhv3 : Fe w16 (vb) (vo + 15) (R2.val) := (Sets.fe' hC xhv3)
  have hS := hS.setsR hC
  clear hC
  refine hK.out _ _ hS ?_
  clear hK K
  intro _
  have hSz := hS.size
  refine wpAnyH_done (by kernel_rfl) ?_ _
  refine NoPanic.normal ?_
  have hsz := hS.size
  have hp0 := xhp0
  have hp1 := xhp1
  have hp2 := xhp2
  have hp3 := xhp3
  have hv0 := xhv0
  have hv1 := xhv1
  have hv2 := xhv2
  have hv3 := xhv3
  have hBw16 : Hid (Fr (vb) w w16) := Lib.hid (Fr.keep hBw14.out hS (by first | exact Or.inl rfl | exact Or.inr (by omega)))
  clear hS
  go_wp2
  go_ret
  refine ⟨rfl, hBw16.out, R1, Y, Z, R2, ?_, hv0, hv1, hv2, hv3⟩
  simp only [HR2.out, HR1.out]
  exact Rq.neg hP
end

section
open Go.RowKit
set_option maxHeartbeats 4000000 in
theorem iNeg_s (N : Nat) (P : CP) (lN : N < 256 ^ 32) (hN : Hid (decP N = some P)) (B : Nat) (w : World) (hD0 : Var 1 z5 B w) (hD1 : Var 0 i5 B w) (hD2 : Var 2 o5 B w) :
    Calls Tryd.prog 25 #[.agg (arrC N)] w fun e w' => e = .returned (.tuple #[.agg (arrC (encN P.neg)), .bool true]) ∧ Below w.heap.size w w' := by
  have hBl := hD0.1
  go_enter Tryd.func25, Tryd.ntmps25
  go_wp2_with (first
    | ((with_reducible refine at_dst 7 ?_); refine wpList_load_row rfl 22 _ rfl (w.heap.size) rfl 22 (arrC N) (0, 0) _ (heap_old _ (heap_new_at _ _ _ rfl)) under32 rfl (info32_of (arrC N) (arrC_size _)) ?_))
  refine (pointOf_some N P lN hN B _ (hD0.later (below_alloc (below_alloc (Below.refl _ w) _) _)) (hD1.later (below_alloc (below_alloc (Below.refl _ w) _) _)) (hD2.later (below_alloc (below_alloc (Below.refl _ w) _) _))).mono ?_
  rintro e w1 ⟨b1_1, x1_1_0, x1_1_1, x1_1_2, x1_1_3, rfl, hlb1_1, hC1, hq1_1, xhf1_1_0, xhf1_1_1, xhf1_1_2, xhf1_1_3⟩
  have hs1 : w.heap.size + 1 + 1 ≤ w1.heap.size := by have := hC1.size; (try simp only [alloc_size, setRow_size] at this); omega
  replace h1 : w1.heap[w.heap.size]? = some (.cells (arrC N) 22 (0, 0)) := (heap_call hC1 (heap_old _ (heap_new_at _ _ _ rfl)))
  replace h2 : w1.heap[w.heap.size + 1]? = some (.cells (zL) 22 (0, 0)) := (heap_call hC1 (heap_new_at _ _ _ (by simp only [alloc_size, setRow_size])))
  have hBw1 : Hid (Below w.heap.size w w1) := Lib.hid (below_call (below_alloc (below_alloc (Below.refl _ w) _) _) hC1)
  clear hC1
  have hlb1_1 : w.heap.size + 1 + 1 ≤ b1_1 := by (try simp only [alloc_size, setRow_size] at hlb1_1); omega
  have hub1_1 := xhf1_1_0.lt
  go_wp2_with fail
  refine (pt_neg (w1.heap.size) (0) (b1_1) (0) _ _ _ _ x1_1_0 x1_1_1 x1_1_2 x1_1_3 _ hq1_1 (by omega) B _ (hD0.later (below_alloc hBw1.out _)) (hD1.later (below_alloc hBw1.out _)) (hD2.later (below_alloc hBw1.out _)) (by omega) (Fe.news_at _ _ _ _ 0 rfl rfl rfl rfl rfl (by first | rfl | simp only [alloc_size, setRow_size])) (Fe.news_at _ _ _ _ 5 rfl rfl rfl rfl rfl (by first | rfl | simp only [alloc_size, setRow_size])) (Fe.news_at _ _ _ _ 10 rfl rfl rfl rfl rfl (by first | rfl | simp only [alloc_size, setRow_size])) (Fe.news_at _ _ _ _ 15 rfl rfl rfl rfl rfl (by first | rfl | simp only [alloc_size, setRow_size])) (Fe.alloc xhf1_1_0 _) (Fe.alloc xhf1_1_1 _) (Fe.alloc xhf1_1_2 _) (Fe.alloc xhf1_1_3 _)).mono ?_
  rintro e w2 ⟨rfl, hC2, k4_2_0, k4_2_1, k4_2_2, k4_2_3, hK4_2, y4_2_0, y4_2_1, y4_2_2, y4_2_3⟩
  have hs2 : w1.heap.size + 1 ≤ w2.heap.size := by have := hC2.size; (try simp only [alloc_size, setRow_size] at this); omega
  replace h1 : w2.heap[w.heap.size]? = some (.cells (arrC N) 22 (0, 0)) := Fr.keepB hC2 (heap_old _ h1) (by omega)
  replace h2 : w2.heap[w.heap.size + 1]? = some (.cells (zL) 22 (0, 0)) := Fr.keepB hC2 (heap_old _ h2) (by omega)
  replace hf1_1_0 : Fe w2 (b1_1) (0) (x1_1_0.val) := Fr.keepF hC2 (Fe.alloc xhf1_1_0 _) (by omega)
  replace hf1_1_1 : Fe w2 (b1_1) (5) (x1_1_1.val) := Fr.keepF hC2 (Fe.alloc xhf1_1_1 _) (by omega)
  replace hf1_1_2 : Fe w2 (b1_1) (10) (x1_1_2.val) := Fr.keepF hC2 (Fe.alloc xhf1_1_2 _) (by omega)
  replace hf1_1_3 : Fe w2 (b1_1) (15) (x1_1_3.val) := Fr.keepF hC2 (Fe.alloc xhf1_1_3 _) (by omega)
  replace h14_0 : Fe w2 (w1.heap.size) (0) (k4_2_0.val) := y4_2_0
  replace h14_5 : Fe w2 (w1.heap.size) (5) (k4_2_1.val) := y4_2_1
  replace h14_10 : Fe w2 (w1.heap.size) (10) (k4_2_2.val) := y4_2_2
  replace h14_15 : Fe w2 (w1.heap.size) (15) (k4_2_3.val) := y4_2_3
  have hBw2 : Hid (Below w.heap.size w w2) := Lib.hid ((below_alloc hBw1.out _).trans (hC2.below (by omega) (below_alloc hBw1.out _).size))
  clear hC2
  go_wp2_with fail
  refine (pointBytes_to (w1.heap.size) (0) k4_2_0 k4_2_1 k4_2_2 k4_2_3 (P.neg) hK4_2 _ h14_0 h14_5 h14_10 h14_15).mono ?_
  rintro e w3 ⟨rfl, hC3⟩
  have hs3 : w2.heap.size ≤ w3.heap.size := by have := hC3.size; (try simp only [alloc_size, setRow_size] at this); omega
  replace h1 : w3.heap[w.heap.size]? = some (.cells (arrC N) 22 (0, 0)) := (heap_call hC3 h1)
  replace h2 : w3.heap[w.heap.size + 1]? = some (.cells (zL) 22 (0, 0)) := (heap_call hC3 h2)
  replace hf1_1_0 : Fe w3 (b1_1) (0) (x1_1_0.val) := (Fe.below_all hf1_1_0 hC3)
  replace hf1_1_1 : Fe w3 (b1_1) (5) (x1_1_1.val) := (Fe.below_all hf1_1_1 hC3)
  replace hf1_1_2 : Fe w3 (b1_1) (10) (x1_1_2.val) := (Fe.below_all hf1_1_2 hC3)
  replace hf1_1_3 : Fe w3 (b1_1) (15) (x1_1_3.val) := (Fe.below_all hf1_1_3 hC3)
  replace h14_0 : Fe w3 (w1.heap.size) (0) (k4_2_0.val) := (Fe.below_all h14_0 hC3)
  replace h14_5 : Fe w3 (w1.heap.size) (5) (k4_2_1.val) := (Fe.below_all h14_5 hC3)
  replace h14_10 : Fe w3 (w1.heap.size) (10) (k4_2_2.val) := (Fe.below_all h14_10 hC3)
  replace h14_15 : Fe w3 (w1.heap.size) (15) (k4_2_3.val) := (Fe.below_all h14_15 hC3)
  have hBw3 : Hid (Below w.heap.size w w3) := Lib.hid (below_call hBw2.out hC3)
  clear hC3
  go_wp2_with (first
    | ((with_reducible refine at_store 2 ?_); refine wpList_store_row rfl 22 _ _ rfl (w.heap.size + 1) (arrC (encN (P.neg))) rfl rfl 22 (zL) h2 (info32_of (arrC (encN (P.neg))) (arrC_size _)) (zL_size.trans (arrC_size _).symm) (arrC_one _) ?_))
  refine bodyPost_ret (results_row_tmp rfl _ _ (w.heap.size + 1) 22 (arrC (encN (P.neg))) (0, 0) _ rfl (setRow_heap _ _ _ _ _ _ h2) under32 rfl (info32_of (arrC (encN (P.neg))) (arrC_size _))) rfl ⟨rfl, (below_setRow hBw3.out (by omega) _)⟩
theorem iNeg_se (P : CP) (E : Nat) (HE : Hid (E = encN P.neg)) (N : Nat) (lN : N < 256 ^ 32) (hN : Hid (decP N = some P)) (B : Nat) (w : World) (hD0 : Var 1 z5 B w) (hD1 : Var 0 i5 B w) (hD2 : Var 2 o5 B w) :
    Calls Tryd.prog 25 #[.agg (arrC N)] w fun e w' => e = .returned (.tuple #[.agg (arrC E), .bool true]) ∧ Below w.heap.size w w' := by
  rw [HE.out]
  exact iNeg_s N P lN hN B w hD0 hD1 hD2
end

section
open Go.RowKit
theorem CP.sub_add (P Q : CP) : (P.add Q.neg).add Q = P := by rw [CP.add_assoc, CP.neg_add, CP.add_zero]
set_option maxRecDepth 100000 in
set_option maxHeartbeats 4000000 in
theorem PtSR_ss (N : Nat) (M : Nat) (P : CP) (Q : CP) (lN : N < 256 ^ 32) (hN : Hid (decP N = some P)) (lM : M < 256 ^ 32) (hM : Hid (decP M = some Q)) (B : Nat) (w : World) (hD0 : Var 1 z5 B w) (hD1 : Var 0 i5 B w) (hD2 : Var 2 o5 B w) :
    Calls Tryd.prog 10 #[.agg (arrC N), .agg (arrC M)] w fun e w' => e = .returned (.bool true) ∧ Below w.heap.size w w' := by
  have hBl := hD0.1
  obtain ⟨E1, qE1⟩ : ∃ u : Nat, u = encN (P.add Q.neg) := ⟨_, rfl⟩
  have HE1 := Lib.hid qE1
  have lE1 : E1 < 256 ^ 32 := by rw [qE1]; exact encN_lt _
  clear qE1
  obtain ⟨E2, qE2⟩ : ∃ u : Nat, u = encN (Q.neg) := ⟨_, rfl⟩
  have HE2 := Lib.hid qE2
  have lE2 : E2 < 256 ^ 32 := by rw [qE2]; exact encN_lt _
  clear qE2
  obtain ⟨E3, qE3⟩ : ∃ u : Nat, u = encN (P) := ⟨_, rfl⟩
  have HE3 := Lib.hid qE3
  have lE3 : E3 < 256 ^ 32 := by rw [qE3]; exact encN_lt _
  have HE3_0 : Hid (E3 = encN ((P.add Q.neg).add Q)) := Lib.hid (by rw [qE3, CP.sub_add P Q])
  clear qE3
  go_enter Tryd.func10, Tryd.ntmps10
  go_wp2_with (first
    | ((with_reducible refine at_dst 14 ?_); refine wpList_load_row rfl 22 _ rfl (w.heap.size) rfl 22 (arrC N) (0, 0) _ (heap_old _ (heap_new_at _ _ _ rfl)) under32 rfl (info32_of (arrC N) (arrC_size _)) ?_)
    | ((with_reducible refine at_dst 15 ?_); refine wpList_load_row rfl 22 _ rfl (w.heap.size + 1) rfl 22 (arrC M) (0, 0) _ (heap_new_at _ _ _ (by simp only [alloc_size, setRow_size])) under32 rfl (info32_of (arrC M) (arrC_size _)) ?_))
  refine (iSub_sse P Q E1 HE1 N M  lN hN lM hM B _ (hD0.later (below_alloc (below_alloc (Below.refl _ w) _) _)) (hD1.later (below_alloc (below_alloc (Below.refl _ w) _) _)) (hD2.later (below_alloc (below_alloc (Below.refl _ w) _) _))).mono ?_
  rintro e w1 ⟨rfl, hC1⟩
  have hs1 : w.heap.size + 1 + 1 ≤ w1.heap.size := by have := hC1.size; (try simp only [alloc_size, setRow_size] at this); omega
  replace h2 : w1.heap[w.heap.size]? = some (.cells (arrC N) 22 (0, 0)) := (heap_call hC1 (heap_old _ (heap_new_at _ _ _ rfl)))
  replace h3 : w1.heap[w.heap.size + 1]? = some (.cells (arrC M) 22 (0, 0)) := (heap_call hC1 (heap_new_at _ _ _ (by simp only [alloc_size, setRow_size])))
  have hBw1 : Hid (Below w.heap.size w w1) := Lib.hid (below_call (below_alloc (below_alloc (Below.refl _ w) _) _) hC1)
  clear hC1
  go_upto_region 2 with (first
    | ((with_reducible refine at_store 5 ?_); refine wpList_store_row rfl 22 _ _ rfl (w1.heap.size) (arrC E1) rfl rfl 22 (zL) (heap_new_at _ _ _ rfl) (info32_of (arrC E1) (arrC_size _)) (zL_size.trans (arrC_size _).symm) (arrC_one _) ?_))
  try simp only [Act.put]
  refine wp_named ?_
  intro w2 ew2
  have hs2 : w1.heap.size + 1 ≤ w2.heap.size := by rw [ew2]; (try simp only [alloc_size, setRow_size]); omega
  replace h2 : w2.heap[w.heap.size]? = some (.cells (arrC N) 22 (0, 0)) := by rw [ew2]; exact (heap_row _ (by omega) (heap_old _ h2))
  replace h3 : w2.heap[w.heap.size + 1]? = some (.cells (arrC M) 22 (0, 0)) := by rw [ew2]; exact (heap_row _ (by omega) (heap_old _ h3))
  replace h5 : w2.heap[w1.heap.size]? = some (.cells (arrC E1) 22 (0, 0)) := by rw [ew2]; exact (setRow_heap _ _ _ _ _ _ (heap_new_at _ _ _ rfl))
  have hBw2 : Hid (Below w.heap.size w w2) := Lib.hid (by rw [ew2]; exact (below_setRow (below_alloc hBw1.out _) (by omega) _))
  clear ew2
  go_wp2_with (first
    | ((with_reducible refine at_dst 19 ?_); refine wpList_load_row rfl 22 _ rfl (w.heap.size) rfl 22 (arrC N) (0, 0) _ h2 under32 rfl (info32_of (arrC N) (arrC_size _)) ?_))
  refine (isPoint_s N P lN hN _).mono ?_
  rintro e w3 ⟨rfl, hC3⟩
  have hs3 : w2.heap.size ≤ w3.heap.size := by have := hC3.size; (try simp only [alloc_size, setRow_size] at this); omega
  replace h2 : w3.heap[w.heap.size]? = some (.cells (arrC N) 22 (0, 0)) := (heap_call hC3 h2)
  replace h3 : w3.heap[w.heap.size + 1]? = some (.cells (arrC M) 22 (0, 0)) := (heap_call hC3 h3)
  replace h5 : w3.heap[w1.heap.size]? = some (.cells (arrC E1) 22 (0, 0)) := (heap_call hC3 h5)
  have hBw3 : Hid (Below w.heap.size w w3) := Lib.hid (below_call hBw2.out hC3)
  clear hC3
  go_wp2_with (first
    | ((with_reducible refine at_dst 23 ?_); refine load_guarded rfl 22 _ rfl (w.heap.size + 1) rfl 22 (arrC M) (0, 0) _ h3 under32 rfl (info32_of (arrC M) (arrC_size _)) ?_))
  refine (isPoint_s M Q lM hM _).mono ?_
  rintro e w4 ⟨rfl, hC4⟩
  have hs4 : w3.heap.size ≤ w4.heap.size := by have := hC4.size; (try simp only [alloc_size, setRow_size] at this); omega
  replace h2 : w4.heap[w.heap.size]? = some (.cells (arrC N) 22 (0, 0)) := (heap_call hC4 h2)
  replace h3 : w4.heap[w.heap.size + 1]? = some (.cells (arrC M) 22 (0, 0)) := (heap_call hC4 h3)
  replace h5 : w4.heap[w1.heap.size]? = some (.cells (arrC E1) 22 (0, 0)) := (heap_call hC4 h5)
  have hBw4 : Hid (Below w.heap.size w w4) := Lib.hid (below_call hBw3.out hC4)
  clear hC4
  go_wp2_with (first
    | ((with_reducible refine at_dst 30 ?_); refine wpList_load_row rfl 22 _ rfl (w.heap.size + 1) rfl 22 (arrC M) (0, 0) _ h3 under32 rfl (info32_of (arrC M) (arrC_size _)) ?_))
  refine (iNeg_se Q E2 HE2 M lM hM B _ (hD0.later hBw4.out) (hD1.later hBw4.out) (hD2.later hBw4.out)).mono ?_
  rintro e w5 ⟨rfl, hC5⟩
  have hs5 : w4.heap.size ≤ w5.heap.size := by have := hC5.size; (try simp only [alloc_size, setRow_size] at this); omega
  replace h2 : w5.heap[w.heap.size]? = some (.cells (arrC N) 22 (0, 0)) := (heap_call hC5 h2)
  replace h3 : w5.heap[w.heap.size + 1]? = some (.cells (arrC M) 22 (0, 0)) := (heap_call hC5 h3)
  replace h5 : w5.heap[w1.heap.size]? = some (.cells (arrC E1) 22 (0, 0)) := (heap_call hC5 h5)
  have hBw5 : Hid (Below w.heap.size w w5) := Lib.hid (below_call hBw4.out hC5)
  clear hC5
  go_upto_region 5 with (first
    | ((with_reducible refine at_store 7 ?_); refine wpList_store_row rfl 22 _ _ rfl (w5.heap.size) (arrC E2) rfl rfl 22 (zL) (heap_new_at _ _ _ rfl) (info32_of (arrC E2) (arrC_size _)) (zL_size.trans (arrC_size _).symm) (arrC_one _) ?_))
  try simp only [Act.put]
  refine wp_named ?_
  intro w6 ew6
  have hs6 : w5.heap.size + 1 ≤ w6.heap.size := by rw [ew6]; (try simp only [alloc_size, setRow_size]); omega
  replace h2 : w6.heap[w.heap.size]? = some (.cells (arrC N) 22 (0, 0)) := by rw [ew6]; exact (heap_row _ (by omega) (heap_old _ h2))
  replace h3 : w6.heap[w.heap.size + 1]? = some (.cells (arrC M) 22 (0, 0)) := by rw [ew6]; exact (heap_row _ (by omega) (heap_old _ h3))
  replace h5 : w6.heap[w1.heap.size]? = some (.cells (arrC E1) 22 (0, 0)) := by rw [ew6]; exact (heap_row _ (by omega) (heap_old _ h5))
  replace h7 : w6.heap[w5.heap.size]? = some (.cells (arrC E2) 22 (0, 0)) := by rw [ew6]; exact (setRow_heap _ _ _ _ _ _ (heap_new_at _ _ _ rfl))
  have hBw6 : Hid (Below w.heap.size w w6) := Lib.hid (by rw [ew6]; exact (below_setRow (below_alloc hBw5.out _) (by omega) _))
  clear ew6
  go_wp2_with (first
    | ((with_reducible refine at_dst 35 ?_); refine wpList_load_row rfl 22 _ rfl (w.heap.size) rfl 22 (arrC N) (0, 0) _ h2 under32 rfl (info32_of (arrC N) (arrC_size _)) ?_)
    | ((with_reducible refine at_dst 36 ?_); refine wpList_load_row rfl 22 _ rfl (w5.heap.size) rfl 22 (arrC E2) (0, 0) _ h7 under32 rfl (info32_of (arrC E2) (arrC_size _)) ?_))
  refine (iAdd_sse P (Q.neg) E1 HE1 N E2  lN hN lE2 (Lib.hid (by rw [HE2.out]; exact dec_enc _)) B _ (hD0.later hBw6.out) (hD1.later hBw6.out) (hD2.later hBw6.out)).mono ?_
  rintro e w7 ⟨rfl, hC7⟩
  have hs7 : w6.heap.size ≤ w7.heap.size := by have := hC7.size; (try simp only [alloc_size, setRow_size] at this); omega
  replace h2 : w7.heap[w.heap.size]? = some (.cells (arrC N) 22 (0, 0)) := (heap_call hC7 h2)
  replace h3 : w7.heap[w.heap.size + 1]? = some (.cells (arrC M) 22 (0, 0)) := (heap_call hC7 h3)
  replace h5 : w7.heap[w1.heap.size]? = some (.cells (arrC E1) 22 (0, 0)) := (heap_call hC7 h5)
  replace h7 : w7.heap[w5.heap.size]? = some (.cells (arrC E2) 22 (0, 0)) := (heap_call hC7 h7)
  have hBw7 : Hid (Below w.heap.size w w7) := Lib.hid (below_call hBw6.out hC7)
  clear hC7
  go_upto_region 6 with (first
    | ((with_reducible refine at_store 9 ?_); refine wpList_store_row rfl 22 _ _ rfl (w7.heap.size) (arrC E1) rfl rfl 22 (zL) (heap_new_at _ _ _ rfl) (info32_of (arrC E1) (arrC_size _)) (zL_size.trans (arrC_size _).symm) (arrC_one _) ?_))
  try simp only [Act.put]
  refine wp_named ?_
  intro w8 ew8
  have hs8 : w7.heap.size + 1 ≤ w8.heap.size := by rw [ew8]; (try simp only [alloc_size, setRow_size]); omega
  replace h2 : w8.heap[w.heap.size]? = some (.cells (arrC N) 22 (0, 0)) := by rw [ew8]; exact (heap_row _ (by omega) (heap_old _ h2))
  replace h3 : w8.heap[w.heap.size + 1]? = some (.cells (arrC M) 22 (0, 0)) := by rw [ew8]; exact (heap_row _ (by omega) (heap_old _ h3))
  replace h5 : w8.heap[w1.heap.size]? = some (.cells (arrC E1) 22 (0, 0)) := by rw [ew8]; exact (heap_row _ (by omega) (heap_old _ h5))
  replace h7 : w8.heap[w5.heap.size]? = some (.cells (arrC E2) 22 (0, 0)) := by rw [ew8]; exact (heap_row _ (by omega) (heap_old _ h7))
  replace h9 : w8.heap[w7.heap.size]? = some (.cells (arrC E1) 22 (0, 0)) := by rw [ew8]; exact (setRow_heap _ _ _ _ _ _ (heap_new_at _ _ _ rfl))
  have hBw8 : Hid (Below w.heap.size w w8) := Lib.hid (by rw [ew8]; exact (below_setRow (below_alloc hBw7.out _) (by omega) _))
  clear ew8
  go_wp2_with (first
    | ((with_reducible refine at_dst 41 ?_); refine wpList_load_row rfl 22 _ rfl (w1.heap.size) rfl 22 (arrC E1) (0, 0) _ h5 under32 rfl (info32_of (arrC E1) (arrC_size _)) ?_)
    | ((with_reducible refine at_dst 42 ?_); refine wpList_load_row rfl 22 _ rfl (w.heap.size + 1) rfl 22 (arrC M) (0, 0) _ h3 under32 rfl (info32_of (arrC M) (arrC_size _)) ?_))
  refine (iAdd_sse (P.add Q.neg) Q E3 HE3_0 E1 M  lE1 (Lib.hid (by rw [HE1.out]; exact dec_enc _)) lM hM B _ (hD0.later hBw8.out) (hD1.later hBw8.out) (hD2.later hBw8.out)).mono ?_
  rintro e w9 ⟨rfl, hC9⟩
  have hs9 : w8.heap.size ≤ w9.heap.size := by have := hC9.size; (try simp only [alloc_size, setRow_size] at this); omega
  replace h2 : w9.heap[w.heap.size]? = some (.cells (arrC N) 22 (0, 0)) := (heap_call hC9 h2)
  replace h3 : w9.heap[w.heap.size + 1]? = some (.cells (arrC M) 22 (0, 0)) := (heap_call hC9 h3)
  replace h5 : w9.heap[w1.heap.size]? = some (.cells (arrC E1) 22 (0, 0)) := (heap_call hC9 h5)
  replace h7 : w9.heap[w5.heap.size]? = some (.cells (arrC E2) 22 (0, 0)) := (heap_call hC9 h7)
  replace h9 : w9.heap[w7.heap.size]? = some (.cells (arrC E1) 22 (0, 0)) := (heap_call hC9 h9)
  have hBw9 : Hid (Below w.heap.size w w9) := Lib.hid (below_call hBw8.out hC9)
  clear hC9
  go_wp2_with (first
    | ((with_reducible refine at_store 11 ?_); refine wpList_store_row rfl 22 _ _ rfl (w9.heap.size) (arrC E3) rfl rfl 22 (zL) (heap_new_at _ _ _ rfl) (info32_of (arrC E3) (arrC_size _)) (zL_size.trans (arrC_size _).symm) (arrC_one _) ?_))
  try simp only [Act.put]
  refine wp_named ?_
  intro w10 ew10
  have hs10 : w9.heap.size + 1 ≤ w10.heap.size := by rw [ew10]; (try simp only [alloc_size, setRow_size]); omega
  replace h2 : w10.heap[w.heap.size]? = some (.cells (arrC N) 22 (0, 0)) := by rw [ew10]; exact (heap_row _ (by omega) (heap_old _ h2))
  replace h3 : w10.heap[w.heap.size + 1]? = some (.cells (arrC M) 22 (0, 0)) := by rw [ew10]; exact (heap_row _ (by omega) (heap_old _ h3))
  replace h5 : w10.heap[w1.heap.size]? = some (.cells (arrC E1) 22 (0, 0)) := by rw [ew10]; exact (heap_row _ (by omega) (heap_old _ h5))
  replace h7 : w10.heap[w5.heap.size]? = some (.cells (arrC E2) 22 (0, 0)) := by rw [ew10]; exact (heap_row _ (by omega) (heap_old _ h7))
  replace h9 : w10.heap[w7.heap.size]? = some (.cells (arrC E1) 22 (0, 0)) := by rw [ew10]; exact (heap_row _ (by omega) (heap_old _ h9))
  replace h11 : w10.heap[w9.heap.size]? = some (.cells (arrC E3) 22 (0, 0)) := by rw [ew10]; exact (setRow_heap _ _ _ _ _ _ (heap_new_at _ _ _ rfl))
  have hBw10 : Hid (Below w.heap.size w w10) := Lib.hid (by rw [ew10]; exact (below_setRow (below_alloc hBw9.out _) (by omega) _))
  clear ew10
  refine wp_region_noPanic ?_
  refine wp_region_held_drew (S := Keep (w10.heap.size) w10) (by kernel_rfl) (Keep.start _ _) ?_
  intro hS
  obtain ⟨w11, ed⟩ : ∃ u : World, u = w10.drew := ⟨_, rfl⟩
  rw [← ed] at hS ⊢
  have xh2 : w11.heap[w.heap.size]? = some (.cells (arrC N) 22 (0, 0)) := by rw [ed]; exact h2
  have xh3 : w11.heap[w.heap.size + 1]? = some (.cells (arrC M) 22 (0, 0)) := by rw [ed]; exact h3
  have xh5 : w11.heap[w1.heap.size]? = some (.cells (arrC E1) 22 (0, 0)) := by rw [ed]; exact h5
  have xh7 : w11.heap[w5.heap.size]? = some (.cells (arrC E2) 22 (0, 0)) := by rw [ed]; exact h7
  have xh9 : w11.heap[w7.heap.size]? = some (.cells (arrC E1) 22 (0, 0)) := by rw [ed]; exact h9
  have xh11 : w11.heap[w9.heap.size]? = some (.cells (arrC E3) 22 (0, 0)) := by rw [ed]; exact h11
  clear ed
  have hSz := hS.size
  clear xh2
  clear xh3
  clear xh5
  clear xh7
  clear xh9
  clear xh11
  refine takeAtK (i := 0) (v := .bool true) rfl (some 46) rfl (take_run rfl (fun _ _ => by go_simp)) hS ?_
  simp only [Act.put, sia, sc0, scs]
  refine takeAtK (i := 1) (v := .bool true) rfl (some 47) rfl (take_run rfl (fun _ _ => by go_simp)) hS ?_
  simp only [Act.put, sia, sc0, scs]
  refine takeAtK (i := 2) (v := .bool true) rfl (some 48) rfl (take_run rfl (fun _ _ => by go_simp)) hS ?_
  simp only [Act.put, sia, sc0, scs]
  refine takeAtK (i := 3) (v := .bool true) rfl (some 49) rfl (take_run rfl (fun _ _ => by go_simp)) hS ?_
  simp only [Act.put, sia, sc0, scs]
  refine takeAtK (i := 4) (v := .bool true) rfl (some 50) rfl (take_run rfl (fun _ _ => by go_simp)) hS ?_
  simp only [Act.put, sia, sc0, scs]
  refine takeAtK (i := 5) (v := .bool true) rfl (some 51) rfl (take_run rfl (fun _ _ => by go_simp)) hS ?_
  simp only [Act.put, sia, sc0, scs]
  refine takeAtK (i := 6) (v := .bool true) rfl (some 52) rfl (take_run rfl (fun _ _ => by go_simp)) hS ?_
  simp only [Act.put, sia, sc0, scs]
  refine takeAtK (i := 7) (v := .bool true) rfl (some 53) rfl (take_run rfl (fun _ _ => by go_simp)) hS ?_
  simp only [Act.put, sia, sc0, scs]
  refine takeAtK (i := 8) (v := .agg (arrC E1)) rfl (some 54) rfl (take_row rfl _ _ rfl (w1.heap.size) rfl _ _ _ h5 (Nat.ne_of_lt (heap_lt h5)) under32 rfl (info32_of (arrC E1) (arrC_size _))) hS ?_
  simp only [Act.put, sia, sc0, scs]
  refine takeAtK (i := 9) (v := .agg (arrC E1)) rfl (some 55) rfl (take_row rfl _ _ rfl (w7.heap.size) rfl _ _ _ h9 (Nat.ne_of_lt (heap_lt h9)) under32 rfl (info32_of (arrC E1) (arrC_size _))) hS ?_
  simp only [Act.put, sia, sc0, scs]
  refine takeAtK (i := 10) (v := .bool true) rfl (some 56) rfl (take_run rfl (fun _ _ => by go_simp; rw [run_eq_arr _ _ lE1 lE1]; simp)) hS ?_
  simp only [Act.put, sia, sc0, scs]
  refine takeAtK (i := 11) (v := .bool true) rfl (some 57) rfl (take_run rfl (fun _ _ => by go_simp)) hS ?_
  simp only [Act.put, sia, sc0, scs]
  refine takeAtK (i := 12) (v := .bool true) rfl (some 58) rfl (take_run rfl (fun _ _ => by go_simp)) hS ?_
  simp only [Act.put, sia, sc0, scs]
  refine takeAtK (i := 13) (v := .agg (arrC E3)) rfl (some 59) rfl (take_row rfl _ _ rfl (w9.heap.size) rfl _ _ _ h11 (Nat.ne_of_lt (heap_lt h11)) under32 rfl (info32_of (arrC E3) (arrC_size _))) hS ?_
  simp only [Act.put, sia, sc0, scs]
  refine takeAtK (i := 14) (v := .agg (arrC N)) rfl (some 60) rfl (take_row rfl _ _ rfl (w.heap.size) rfl _ _ _ h2 (Nat.ne_of_lt (heap_lt h2)) under32 rfl (info32_of (arrC N) (arrC_size _))) hS ?_
  simp only [Act.put, sia, sc0, scs]
  refine wpAnyH_ready (rs := [15]) (by kernel_rfl) (by simp) ?_
  refine (AllReadyH.cons rfl ?_ AllReadyH.nil)
  intro K hK
  refine ready_call rfl (some 61) rfl 24 #[.agg (arrC N)] (by go_simp) ?_
  refine (told_toe P E3 HE3 N lN hN B _ (hD0.later (hBw10.out.trans (hS.below (by omega) hBw10.out.size))) (hD1.later (hBw10.out.trans (hS.below (by omega) hBw10.out.size))) (hD2.later (hBw10.out.trans (hS.below (by omega) hBw10.out.size)))).mono ?_
  rintro e w12 ⟨rfl, hC⟩
  refine ⟨_, rfl, ?_⟩
  simp only [Act.put, sia, sc0, scs]
  have hS := hS.call hC
  have hz12 := hC.size
  clear hC
  refine hK.out _ _ hS ?_
  clear hK K
  intro _
  have hSz := hS.size
  refine takeAtK (i := 16) (v := .bool true) rfl (some 62) rfl (take_run rfl (fun _ _ => by go_simp; rw [run_eq_arr _ _ lE3 lE3]; simp)) hS ?_
  simp only [Act.put, sia, sc0, scs]
  refine takeAtK (i := 17) (v := .bool true) rfl (some 63) rfl (take_run rfl (fun _ _ => by go_simp)) hS ?_
  simp only [Act.put, sia, sc0, scs]
  refine takeAtK (i := 18) (v := .bool true) rfl (some 4) rfl (take_run rfl (fun _ _ => by go_simp)) hS ?_
  simp only [Act.put, sia, sc0, scs]
  refine wpAnyH_done (by kernel_rfl) ?_ _
  refine NoPanic.normal ?_
  have hsz := hS.size
  have h2 : w12.heap[w.heap.size]? = some (.cells (arrC N) 22 (0, 0)) := hS.old h2 (Nat.ne_of_lt (heap_lt h2))
  have h3 : w12.heap[w.heap.size + 1]? = some (.cells (arrC M) 22 (0, 0)) := hS.old h3 (Nat.ne_of_lt (heap_lt h3))
  have h5 : w12.heap[w1.heap.size]? = some (.cells (arrC E1) 22 (0, 0)) := hS.old h5 (Nat.ne_of_lt (heap_lt h5))
  have h7 : w12.heap[w5.heap.size]? = some (.cells (arrC E2) 22 (0, 0)) := hS.old h7 (Nat.ne_of_lt (heap_lt h7))
  have h9 : w12.heap[w7.heap.size]? = some (.cells (arrC E1) 22 (0, 0)) := hS.old h9 (Nat.ne_of_lt (heap_lt h9))
  have h11 : w12.heap[w9.heap.size]? = some (.cells (arrC E3) 22 (0, 0)) := hS.old h11 (Nat.ne_of_lt (heap_lt h11))
  have hBw12 : Hid (Below w.heap.size w w12) := Lib.hid (hBw10.out.trans (hS.below (by omega) hBw10.out.size))
  clear hS
  go_wp2
  go_ret
  exact ⟨rfl, hBw12.out⟩
set_option maxRecDepth 100000 in
set_option maxHeartbeats 4000000 in
theorem PtSR_sn (N : Nat) (M : Nat) (P : CP) (lN : N < 256 ^ 32) (hN : Hid (decP N = some P)) (lM : M < 256 ^ 32) (hM : Hid (decP M = none)) (B : Nat) (w : World) (hD0 : Var 1 z5 B w) (hD1 : Var 0 i5 B w) (hD2 : Var 2 o5 B w) :
    Calls Tryd.prog 10 #[.agg (arrC N), .agg (arrC M)] w fun e w' => e = .returned (.bool true) ∧ Below w.heap.size w w' := by
  have hBl := hD0.1
  go_enter Tryd.func10, Tryd.ntmps10
  go_wp2_with (first
    | ((with_reducible refine at_dst 14 ?_); refine wpList_load_row rfl 22 _ rfl (w.heap.size) rfl 22 (arrC N) (0, 0) _ (heap_old _ (heap_new_at _ _ _ rfl)) under32 rfl (info32_of (arrC N) (arrC_size _)) ?_)
    | ((with_reducible refine at_dst 15 ?_); refine wpList_load_row rfl 22 _ rfl (w.heap.size + 1) rfl 22 (arrC M) (0, 0) _ (heap_new_at _ _ _ (by simp only [alloc_size, setRow_size])) under32 rfl (info32_of (arrC M) (arrC_size _)) ?_))
  refine (iSub_sn N M P  lN hN lM hM B _ (hD0.later (below_alloc (below_alloc (Below.refl _ w) _) _)) (hD1.later (below_alloc (below_alloc (Below.refl _ w) _) _)) (hD2.later (below_alloc (below_alloc (Below.refl _ w) _) _))).mono ?_
  rintro e w1 ⟨rfl, hC1⟩
  have hs1 : w.heap.size + 1 + 1 ≤ w1.heap.size := by have := hC1.size; (try simp only [alloc_size, setRow_size] at this); omega
  replace h2 : w1.heap[w.heap.size]? = some (.cells (arrC N) 22 (0, 0)) := (heap_call hC1 (heap_old _ (heap_new_at _ _ _ rfl)))
  replace h3 : w1.heap[w.heap.size + 1]? = some (.cells (arrC M) 22 (0, 0)) := (heap_call hC1 (heap_new_at _ _ _ (by simp only [alloc_size, setRow_size])))
  have hBw1 : Hid (Below w.heap.size w w1) := Lib.hid (below_call (below_alloc (below_alloc (Below.refl _ w) _) _) hC1)
  clear hC1
  go_upto_region 2 with (first
    | ((with_reducible refine at_store 5 ?_); refine wpList_store_row rfl 22 _ _ rfl (w1.heap.size) (zL) rfl rfl 22 (zL) (heap_new_at _ _ _ rfl) (info32_of (zL) zL_size) (zL_size.trans zL_size.symm) zL_one ?_))
  try simp only [Act.put]
  refine wp_named ?_
  intro w2 ew2
  have hs2 : w1.heap.size + 1 ≤ w2.heap.size := by rw [ew2]; (try simp only [alloc_size, setRow_size]); omega
  replace h2 : w2.heap[w.heap.size]? = some (.cells (arrC N) 22 (0, 0)) := by rw [ew2]; exact (heap_row _ (by omega) (heap_old _ h2))
  replace h3 : w2.heap[w.heap.size + 1]? = some (.cells (arrC M) 22 (0, 0)) := by rw [ew2]; exact (heap_row _ (by omega) (heap_old _ h3))
  replace h5 : w2.heap[w1.heap.size]? = some (.cells (zL) 22 (0, 0)) := by rw [ew2]; exact (setRow_heap _ _ _ _ _ _ (heap_new_at _ _ _ rfl))
  have hBw2 : Hid (Below w.heap.size w w2) := Lib.hid (by rw [ew2]; exact (below_setRow (below_alloc hBw1.out _) (by omega) _))
  clear ew2
  go_wp2_with (first
    | ((with_reducible refine at_dst 19 ?_); refine wpList_load_row rfl 22 _ rfl (w.heap.size) rfl 22 (arrC N) (0, 0) _ h2 under32 rfl (info32_of (arrC N) (arrC_size _)) ?_))
  refine (isPoint_s N P lN hN _).mono ?_
  rintro e w3 ⟨rfl, hC3⟩
  have hs3 : w2.heap.size ≤ w3.heap.size := by have := hC3.size; (try simp only [alloc_size, setRow_size] at this); omega
  replace h2 : w3.heap[w.heap.size]? = some (.cells (arrC N) 22 (0, 0)) := (heap_call hC3 h2)
  replace h3 : w3.heap[w.heap.size + 1]? = some (.cells (arrC M) 22 (0, 0)) := (heap_call hC3 h3)
  replace h5 : w3.heap[w1.heap.size]? = some (.cells (zL) 22 (0, 0)) := (heap_call hC3 h5)
  have hBw3 : Hid (Below w.heap.size w w3) := Lib.hid (below_call hBw2.out hC3)
  clear hC3
  go_wp2_with (first
    | ((with_reducible refine at_dst 23 ?_); refine load_guarded rfl 22 _ rfl (w.heap.size + 1) rfl 22 (arrC M) (0, 0) _ h3 under32 rfl (info32_of (arrC M) (arrC_size _)) ?_))
  refine (isPoint_n M  lM hM _).mono ?_
  rintro e w4 ⟨rfl, hC4⟩
  have hs4 : w3.heap.size ≤ w4.heap.size := by have := hC4.size; (try simp only [alloc_size, setRow_size] at this); omega
  replace h2 : w4.heap[w.heap.size]? = some (.cells (arrC N) 22 (0, 0)) := (heap_call hC4 h2)
  replace h3 : w4.heap[w.heap.size + 1]? = some (.cells (arrC M) 22 (0, 0)) := (heap_call hC4 h3)
  replace h5 : w4.heap[w1.heap.size]? = some (.cells (zL) 22 (0, 0)) := (heap_call hC4 h5)
  have hBw4 : Hid (Below w.heap.size w w4) := Lib.hid (below_call hBw3.out hC4)
  clear hC4
  go_wp2
  go_ret
  exact ⟨rfl, hBw4.out⟩
set_option maxRecDepth 100000 in
set_option maxHeartbeats 4000000 in
theorem PtSR_ns (N : Nat) (M : Nat) (Q : CP) (lN : N < 256 ^ 32) (hN : Hid (decP N = none)) (lM : M < 256 ^ 32) (hM : Hid (decP M = some Q)) (B : Nat) (w : World) (hD0 : Var 1 z5 B w) (hD1 : Var 0 i5 B w) (hD2 : Var 2 o5 B w) :
    Calls Tryd.prog 10 #[.agg (arrC N), .agg (arrC M)] w fun e w' => e = .returned (.bool true) ∧ Below w.heap.size w w' := by
  have hBl := hD0.1
  go_enter Tryd.func10, Tryd.ntmps10
  go_wp2_with (first
    | ((with_reducible refine at_dst 14 ?_); refine wpList_load_row rfl 22 _ rfl (w.heap.size) rfl 22 (arrC N) (0, 0) _ (heap_old _ (heap_new_at _ _ _ rfl)) under32 rfl (info32_of (arrC N) (arrC_size _)) ?_)
    | ((with_reducible refine at_dst 15 ?_); refine wpList_load_row rfl 22 _ rfl (w.heap.size + 1) rfl 22 (arrC M) (0, 0) _ (heap_new_at _ _ _ (by simp only [alloc_size, setRow_size])) under32 rfl (info32_of (arrC M) (arrC_size _)) ?_))
  refine (iSub_ns N M Q  lN hN lM hM B _ (hD0.later (below_alloc (below_alloc (Below.refl _ w) _) _)) (hD1.later (below_alloc (below_alloc (Below.refl _ w) _) _)) (hD2.later (below_alloc (below_alloc (Below.refl _ w) _) _))).mono ?_
  rintro e w1 ⟨rfl, hC1⟩
  have hs1 : w.heap.size + 1 + 1 ≤ w1.heap.size := by have := hC1.size; (try simp only [alloc_size, setRow_size] at this); omega
  replace h2 : w1.heap[w.heap.size]? = some (.cells (arrC N) 22 (0, 0)) := (heap_call hC1 (heap_old _ (heap_new_at _ _ _ rfl)))
  replace h3 : w1.heap[w.heap.size + 1]? = some (.cells (arrC M) 22 (0, 0)) := (heap_call hC1 (heap_new_at _ _ _ (by simp only [alloc_size, setRow_size])))
  have hBw1 : Hid (Below w.heap.size w w1) := Lib.hid (below_call (below_alloc (below_alloc (Below.refl _ w) _) _) hC1)
  clear hC1
  go_upto_region 2 with (first
    | ((with_reducible refine at_store 5 ?_); refine wpList_store_row rfl 22 _ _ rfl (w1.heap.size) (zL) rfl rfl 22 (zL) (heap_new_at _ _ _ rfl) (info32_of (zL) zL_size) (zL_size.trans zL_size.symm) zL_one ?_))
  try simp only [Act.put]
  refine wp_named ?_
  intro w2 ew2
  have hs2 : w1.heap.size + 1 ≤ w2.heap.size := by rw [ew2]; (try simp only [alloc_size, setRow_size]); omega
  replace h2 : w2.heap[w.heap.size]? = some (.cells (arrC N) 22 (0, 0)) := by rw [ew2]; exact (heap_row _ (by omega) (heap_old _ h2))
  replace h3 : w2.heap[w.heap.size + 1]? = some (.cells (arrC M) 22 (0, 0)) := by rw [ew2]; exact (heap_row _ (by omega) (heap_old _ h3))
  replace h5 : w2.heap[w1.heap.size]? = some (.cells (zL) 22 (0, 0)) := by rw [ew2]; exact (setRow_heap _ _ _ _ _ _ (heap_new_at _ _ _ rfl))
  have hBw2 : Hid (Below w.heap.size w w2) := Lib.hid (by rw [ew2]; exact (below_setRow (below_alloc hBw1.out _) (by omega) _))
  clear ew2
  go_wp2_with (first
    | ((with_reducible refine at_dst 19 ?_); refine wpList_load_row rfl 22 _ rfl (w.heap.size) rfl 22 (arrC N) (0, 0) _ h2 under32 rfl (info32_of (arrC N) (arrC_size _)) ?_))
  refine (isPoint_n N  lN hN _).mono ?_
  rintro e w3 ⟨rfl, hC3⟩
  have hs3 : w2.heap.size ≤ w3.heap.size := by have := hC3.size; (try simp only [alloc_size, setRow_size] at this); omega
  replace h2 : w3.heap[w.heap.size]? = some (.cells (arrC N) 22 (0, 0)) := (heap_call hC3 h2)
  replace h3 : w3.heap[w.heap.size + 1]? = some (.cells (arrC M) 22 (0, 0)) := (heap_call hC3 h3)
  replace h5 : w3.heap[w1.heap.size]? = some (.cells (zL) 22 (0, 0)) := (heap_call hC3 h5)
  have hBw3 : Hid (Below w.heap.size w w3) := Lib.hid (below_call hBw2.out hC3)
  clear hC3
  go_wp2
  go_ret
  exact ⟨rfl, hBw3.out⟩
set_option maxRecDepth 100000 in
set_option maxHeartbeats 4000000 in
theorem PtSR_nn (N : Nat) (M : Nat) (lN : N < 256 ^ 32) (hN : Hid (decP N = none)) (lM : M < 256 ^ 32) (hM : Hid (decP M = none)) (B : Nat) (w : World) (hD0 : Var 1 z5 B w) (hD1 : Var 0 i5 B w) (hD2 : Var 2 o5 B w) :
    Calls Tryd.prog 10 #[.agg (arrC N), .agg (arrC M)] w fun e w' => e = .returned (.bool true) ∧ Below w.heap.size w w' := by
  have hBl := hD0.1
  go_enter Tryd.func10, Tryd.ntmps10
  go_wp2_with (first
    | ((with_reducible refine at_dst 14 ?_); refine wpList_load_row rfl 22 _ rfl (w.heap.size) rfl 22 (arrC N) (0, 0) _ (heap_old _ (heap_new_at _ _ _ rfl)) under32 rfl (info32_of (arrC N) (arrC_size _)) ?_)
    | ((with_reducible refine at_dst 15 ?_); refine wpList_load_row rfl 22 _ rfl (w.heap.size + 1) rfl 22 (arrC M) (0, 0) _ (heap_new_at _ _ _ (by simp only [alloc_size, setRow_size])) under32 rfl (info32_of (arrC M) (arrC_size _)) ?_))
  refine (iSub_nn N M   lN hN lM hM B _ (hD0.later (below_alloc (below_alloc (Below.refl _ w) _) _)) (hD1.later (below_alloc (below_alloc (Below.refl _ w) _) _)) (hD2.later (below_alloc (below_alloc (Below.refl _ w) _) _))).mono ?_
  rintro e w1 ⟨rfl, hC1⟩
  have hs1 : w.heap.size + 1 + 1 ≤ w1.heap.size := by have := hC1.size; (try simp only [alloc_size, setRow_size] at this); omega
  replace h2 : w1.heap[w.heap.size]? = some (.cells (arrC N) 22 (0, 0)) := (heap_call hC1 (heap_old _ (heap_new_at _ _ _ rfl)))
  replace h3 : w1.heap[w.heap.size + 1]? = some (.cells (arrC M) 22 (0, 0)) := (heap_call hC1 (heap_new_at _ _ _ (by simp only [alloc_size, setRow_size])))
  have hBw1 : Hid (Below w.heap.size w w1) := Lib.hid (below_call (below_alloc (below_alloc (Below.refl _ w) _) _) hC1)
  clear hC1
  go_upto_region 2 with (first
    | ((with_reducible refine at_store 5 ?_); refine wpList_store_row rfl 22 _ _ rfl (w1.heap.size) (zL) rfl rfl 22 (zL) (heap_new_at _ _ _ rfl) (info32_of (zL) zL_size) (zL_size.trans zL_size.symm) zL_one ?_))
  try simp only [Act.put]
  refine wp_named ?_
  intro w2 ew2
  have hs2 : w1.heap.size + 1 ≤ w2.heap.size := by rw [ew2]; (try simp only [alloc_size, setRow_size]); omega
  replace h2 : w2.heap[w.heap.size]? = some (.cells (arrC N) 22 (0, 0)) := by rw [ew2]; exact (heap_row _ (by omega) (heap_old _ h2))
  replace h3 : w2.heap[w.heap.size + 1]? = some (.cells (arrC M) 22 (0, 0)) := by rw [ew2]; exact (heap_row _ (by omega) (heap_old _ h3))
  replace h5 : w2.heap[w1.heap.size]? = some (.cells (zL) 22 (0, 0)) := by rw [ew2]; exact (setRow_heap _ _ _ _ _ _ (heap_new_at _ _ _ rfl))
  have hBw2 : Hid (Below w.heap.size w w2) := Lib.hid (by rw [ew2]; exact (below_setRow (below_alloc hBw1.out _) (by omega) _))
  clear ew2
  go_wp2_with (first
    | ((with_reducible refine at_dst 19 ?_); refine wpList_load_row rfl 22 _ rfl (w.heap.size) rfl 22 (arrC N) (0, 0) _ h2 under32 rfl (info32_of (arrC N) (arrC_size _)) ?_))
  refine (isPoint_n N  lN hN _).mono ?_
  rintro e w3 ⟨rfl, hC3⟩
  have hs3 : w2.heap.size ≤ w3.heap.size := by have := hC3.size; (try simp only [alloc_size, setRow_size] at this); omega
  replace h2 : w3.heap[w.heap.size]? = some (.cells (arrC N) 22 (0, 0)) := (heap_call hC3 h2)
  replace h3 : w3.heap[w.heap.size + 1]? = some (.cells (arrC M) 22 (0, 0)) := (heap_call hC3 h3)
  replace h5 : w3.heap[w1.heap.size]? = some (.cells (zL) 22 (0, 0)) := (heap_call hC3 h5)
  have hBw3 : Hid (Below w.heap.size w w3) := Lib.hid (below_call hBw2.out hC3)
  clear hC3
  go_wp2
  go_ret
  exact ⟨rfl, hBw3.out⟩
theorem PtSR_walk (N : Nat) (lN : N < 256 ^ 32) (M : Nat) (lM : M < 256 ^ 32) (B : Nat) (w : World) (hD0 : Var 1 z5 B w) (hD1 : Var 0 i5 B w) (hD2 : Var 2 o5 B w) : Calls Tryd.prog 10 #[.agg (arrC N), .agg (arrC M)] w fun e w' => e = .returned (.bool true) ∧ Below w.heap.size w w' := by
  cases hP : decP N with
  | none =>
    cases hQ : decP M with
    | none => exact PtSR_nn N M lN (Lib.hid hP) lM (Lib.hid hQ) B w hD0 hD1 hD2
    | some Q => exact PtSR_ns N M Q lN (Lib.hid hP) lM (Lib.hid hQ) B w hD0 hD1 hD2
  | some P =>
    cases hQ : decP M with
    | none => exact PtSR_sn N M P lN (Lib.hid hP) lM (Lib.hid hQ) B w hD0 hD1 hD2
    | some Q => exact PtSR_ss N M P Q lN (Lib.hid hP) lM (Lib.hid hQ) B w hD0 hD1 hD2
end

section
open Go.ChangeShapes Go.WideShapes Go.ChangeAt Go.RowKit
set_option maxRecDepth 100000 in
theorem fnPointSubtractRoads_laid {W : World} (h : laidMetH Tryd.prog Rows.fnPointSubtractRoadsRow.laid W) : Var 1 z5 W.heap.size W ∧ Var 2 o5 W.heap.size W ∧ Var 0 i5 W.heap.size W := by
  rw [MakeChecks.laidMetH_plain _ _ _ (by kernel_rfl)] at h
  obtain ⟨ps, ⟨g0, t0, cs0, f0, q0, r0, hg0, ht0, hv0, hd0, ⟨g1, t1, cs1, f1, q1, r1, hg1, ht1, hv1, hd1, ⟨g2, t2, cs2, f2, q2, r2, hg2, ht2, hv2, hd2, hlast, hp2⟩, hp1⟩, hp0⟩, _, hfr⟩ := h
  obtain rfl := Option.some.inj ((show Tryd.prog.globalNamed "loop.example/pub-g03328/pub/field.feZero" = some 1 by kernel_rfl).symm.trans hg0)
  obtain rfl := Option.some.inj ((show (Tryd.prog.globals[1]?).map (·.type) = some 68 by kernel_rfl).symm.trans ht0)
  obtain rfl := Option.some.inj ((show Tryd.prog.globalNamed "loop.example/pub-g03328/pub/field.feOne" = some 2 by kernel_rfl).symm.trans hg1)
  obtain rfl := Option.some.inj ((show (Tryd.prog.globals[2]?).map (·.type) = some 68 by kernel_rfl).symm.trans ht1)
  obtain rfl := Option.some.inj ((show Tryd.prog.globalNamed "loop.example/pub-g03328/pub/field.sqrtM1" = some 0 by kernel_rfl).symm.trans hg2)
  obtain rfl := Option.some.inj ((show (Tryd.prog.globals[0]?).map (·.type) = some 68 by kernel_rfl).symm.trans ht2)
  have hin0 : ∀ x, x ∈ q0 → x ∈ ps := by
    intro x hx
    rw [hp0]
    simp [hx]
  have hD0 := laid_el 0 0 0 0 0 hg0 hv0 hd0 (fun b off hm => (hfr b off (hin0 _ hm)).1)
  have hin1 : ∀ x, x ∈ q1 → x ∈ ps := by
    intro x hx
    rw [hp0, hp1]
    simp [hx]
  have hD1 := laid_el 1 0 0 0 0 hg1 hv1 hd1 (fun b off hm => (hfr b off (hin1 _ hm)).1)
  have hin2 : ∀ x, x ∈ q2 → x ∈ ps := by
    intro x hx
    rw [hp0, hp1, hp2]
    simp [hx]
  have hD2 := laid_el 1718705420411056 234908883556509 2233514472574048 2117202627021982 765476049583133 hg2 hv2 hd2 (fun b off hm => (hfr b off (hin2 _ hm)).1)
  exact ⟨hD0, hD1, hD2⟩
theorem fnPointSubtractRoads_met (os : Os) (args : Array Value) : laidMetH Tryd.prog Rows.fnPointSubtractRoadsRow.laid ((World.doorLaid Tryd.prog 400 os).forCall (fun _ _ => 0) ⟨#[], args, []⟩).memory :=
  laidMetH_of_parts3 (fuel := 8) (laidMet_of_run' 8 (by kernel_rfl) (by kernel_rfl)) (by kernel_rfl) (by kernel_rfl)
set_option maxRecDepth 100000 in
theorem fnPointSubtractRoads_lifted (os : Os) (started : os.Started) (H : Type) (enc : TypeId × Value → H) :
    ReturnsInHanded {} Tryd.checked os 10 .any (fun w args => (Rows.fnPointSubtractRoadsSpec.pre enc Tryd.prog Tryd.f10 [] false w args ∧ laidMetH Tryd.prog Rows.fnPointSubtractRoadsRow.laid w) ∧ sizedMet enc Tryd.prog Tryd.f10 (OpenSpec.ofChange Rows.fnPointSubtractRoadsSpec) false w args)
      (Rows.fnPointSubtractRoadsSpec.post enc Tryd.prog Tryd.f10 false true false false) := by
  refine returnsInHanded_of_change_and (C := Tryd.checked) (X := fun w _ => laidMetH Tryd.prog Rows.fnPointSubtractRoadsRow.laid w) (fun _ _ _ hh h => h.of_heap hh) Tryd.own started (by kernel_rfl) Tryd.func10
    (ChangeSpec.witness_shaped (enc := enc) (C := Tryd.checked) (os := os) (X := fun w _ => laidMetH Tryd.prog Rows.fnPointSubtractRoadsRow.laid w) false (World.doorLaid Tryd.prog 400 os) #[.agg #[.int .u8 0, .int .u8 0, .int .u8 0, .int .u8 0, .int .u8 0, .int .u8 0, .int .u8 0, .int .u8 0, .int .u8 0, .int .u8 0, .int .u8 0, .int .u8 0, .int .u8 0, .int .u8 0, .int .u8 0, .int .u8 0, .int .u8 0, .int .u8 0, .int .u8 0, .int .u8 0, .int .u8 0, .int .u8 0, .int .u8 0, .int .u8 0, .int .u8 0, .int .u8 0, .int .u8 0, .int .u8 0, .int .u8 0, .int .u8 0, .int .u8 0, .int .u8 0], .agg #[.int .u8 0, .int .u8 0, .int .u8 0, .int .u8 0, .int .u8 0, .int .u8 0, .int .u8 0, .int .u8 0, .int .u8 0, .int .u8 0, .int .u8 0, .int .u8 0, .int .u8 0, .int .u8 0, .int .u8 0, .int .u8 0, .int .u8 0, .int .u8 0, .int .u8 0, .int .u8 0, .int .u8 0, .int .u8 0, .int .u8 0, .int .u8 0, .int .u8 0, .int .u8 0, .int .u8 0, .int .u8 0, .int .u8 0, .int .u8 0, .int .u8 0, .int .u8 0]] 8 rfl (World.shaped_of_RefB (by kernel_rfl) (by kernel_rfl)) (by kernel_rfl) (by kernel_rfl) (by kernel_rfl) (fnPointSubtractRoads_met os _)) ?_
  intro W base args ds gs before hval0 hW _ _ hL _
  have hval : ∀ (j : Nat) t v, Tryd.f10.params[j]? = some t → args[j]? = some v → Value.okWide Tryd.prog W .any base t v := hval0
  have hW' := hW
  obtain ⟨p, q, hA0, hV, rfl, hfz, hnd⟩ := hW
  have hA : DataW.TrodAll enc Tryd.prog W 0 (fun _ => true) true Tryd.f10.params.toList args.toList ds p := hA0
  rw [Tryd.params10] at hA hval
  obtain ⟨v0, v1, d0, d1, p0, p1, rfl, rfl, rfl, h0, h1⟩ := trodAll_two hA
  obtain ⟨X, bX, rfl, rfl, sX⟩ := open32 (hval 0 22 v0 rfl rfl) h0
  obtain ⟨Y, bY, rfl, rfl, sY⟩ := open32 (hval 1 22 v1 rfl rfl) h1
  clear hA0 hval0 hA
  have hVV : DataW.TrodVars enc Tryd.prog W (fun _ => true) ["loop.example/pub-g03328/pub/field.feOne", "loop.example/pub-g03328/pub/field.sqrtM1", "loop.example/pub-g03328/pub/field.feZero"] gs q := hV
  have hVs := fun W' (hB : Below W.heap.size W W') => vars_stay hB (ns := ["loop.example/pub-g03328/pub/field.feOne", "loop.example/pub-g03328/pub/field.sqrtM1", "loop.example/pub-g03328/pub/field.feZero"]) (gs := gs) (q := q) (by
    intro n hn g t hg ht
    simp only [List.mem_cons, List.not_mem_nil, or_false] at hn
    rcases hn with rfl | rfl | rfl
    · obtain rfl := Option.some.inj ((show Tryd.prog.globalNamed "loop.example/pub-g03328/pub/field.feOne" = some 2 by kernel_rfl).symm.trans hg)
      obtain rfl := Option.some.inj ((show (Tryd.prog.globals[2]?).map (·.type) = some 68 by kernel_rfl).symm.trans ht)
      exact ⟨by kernel_rfl, of_decide_eq_true (by kernel_rfl)⟩
    · obtain rfl := Option.some.inj ((show Tryd.prog.globalNamed "loop.example/pub-g03328/pub/field.sqrtM1" = some 0 by kernel_rfl).symm.trans hg)
      obtain rfl := Option.some.inj ((show (Tryd.prog.globals[0]?).map (·.type) = some 68 by kernel_rfl).symm.trans ht)
      exact ⟨by kernel_rfl, of_decide_eq_true (by kernel_rfl)⟩
    · obtain rfl := Option.some.inj ((show Tryd.prog.globalNamed "loop.example/pub-g03328/pub/field.feZero" = some 1 by kernel_rfl).symm.trans hg)
      obtain rfl := Option.some.inj ((show (Tryd.prog.globals[1]?).map (·.type) = some 68 by kernel_rfl).symm.trans ht)
      exact ⟨by kernel_rfl, of_decide_eq_true (by kernel_rfl)⟩) hVV
  obtain ⟨y0, y1, y2, hgs⟩ := list_len3 (trodVars_len hVV)
  subst hgs
  obtain ⟨hD0, hD1, hD2⟩ := fnPointSubtractRoads_laid hL
  refine (PtSR_walk X bX Y bY W.heap.size W hD0 hD2 hD1).mono fun e W' ⟨he, hB⟩ => ?_
  subst he
  exact ⟨_, rfl, _, _, _, [], [], q, hW', trodAll_mk1 (shut_bool (by kernel_rfl) true), trodAll_mk2 (sX W' _) (sY W' _), hVs W' hB, hB.frame _, fun h => by cases h⟩
theorem fnPointSubtractRoads_holds : Rows.FnPointSubtractRoadsSaid :=
  OpenClaim.holds_of_wide 10 Tryd.f10 rfl rfl rfl rfl rfl rfl rfl ⟨rfl, rfl, rfl, rfl, rfl⟩ rfl rfl rfl rfl rfl (by kernel_rfl) Tryd.func10 (by kernel_rfl)
    (of_decide_eq_true (by kernel_rfl)) (by unfold Func.isWrapper; first | (rw [if_pos (by decide +kernel)]; kernel_rfl) | (rw [if_neg (by decide +kernel)]; exact ⟨rfl, rfl⟩))
    (fun os started H enc _ => fnPointSubtractRoads_lifted os started H enc)
theorem fnPointSubtractRoads_card : Rows.FnPointSubtractRoadsCardSaid :=
  Claim7.holds_tied_plain_at .later [] [.widerDeep, .widerDeep, .widerDeep] true Rows.fnPointSubtractRoadsCard.stood.harness false
    fnPointSubtractRoads_holds (fun _ h => by cases h) (by kernel_rfl) (fun _ h => by cases h) fnPointSubtractRoads_row_tie rfl ⟨rfl, rfl⟩ (by kernel_rfl) rfl
    (fun f fn hf hfn => by
      obtain rfl : f = 10 := Option.some.inj ((show Tryd.prog.funcNamed "loop.example/pub-g03328/laws.FnPointSubtractRoads" = some 10 by kernel_rfl).symm.trans hf) |>.symm
      obtain rfl : fn = Tryd.f10 := (Option.some.inj (Tryd.func10.symm.trans hfn)).symm
      exact ⟨by kernel_rfl, fun j t ht => by
        rw [Tryd.params10] at ht
        have h3 : t = 22 := by
          rcases j with _ | _ | j
          · simp at ht; subst ht; simp
          · simp at ht; subst ht; simp
          · simp at ht
        subst h3
        exact (show Tryd.prog.wantsStandIn 22 = false by kernel_rfl)⟩)
    (by kernel_rfl)
end

end Go.Proofs.YtcenlinpbpbpoaaDoor
