/- The points of the curve are a commutative group. No program in sight. -/
import Derived.Test.YtemgflkecflhmaaDoorKL0
set_option maxRecDepth 4000
set_option linter.unusedSimpArgs false
set_option linter.unusedVariables false
namespace Go.Proofs.YtemgflkecflhmaaDoor
theorem sub_add_x {x1 y1 x2 y2 x3 y3 : Fp} (h1 : onC x1 y1) (h2 : onC x2 y2) (hx : x3 * (1 - fp dN * (x1 * x2 * (y1 * y2))) = x1 * y2 - x2 * y1) (hy : y3 * (1 + fp dN * (x1 * x2 * (y1 * y2))) = y1 * y2 - x1 * x2) :
    x1 * (1 + fp dN * (x3 * x2 * (y3 * y2))) = x3 * y2 + x2 * y3 := by
  have n1 := comp_plus h1 h2
  have n2 := comp_minus h1 h2
  unfold onC at h1 h2
  refine fp_cancel (fne_mul n1 n2) ?_
  clear n1 n2
  generalize fp dN = d at *
  have a1 : (1 + d * (x1 * x2 * (y1 * y2))) * (1 - d * (x1 * x2 * (y1 * y2))) * (x1 * (1 + d * (x3 * x2 * (y3 * y2)))) = x1 * ((1 + d * (x1 * x2 * (y1 * y2))) * (1 - d * (x1 * x2 * (y1 * y2))) + d * x2 * y2 * (x3 * (1 - d * (x1 * x2 * (y1 * y2)))) * (y3 * (1 + d * (x1 * x2 * (y1 * y2))))) := by grind
  have a2 : (1 + d * (x1 * x2 * (y1 * y2))) * (1 - d * (x1 * x2 * (y1 * y2))) * (x3 * y2 + x2 * y3) = (1 + d * (x1 * x2 * (y1 * y2))) * y2 * (x3 * (1 - d * (x1 * x2 * (y1 * y2)))) + (1 - d * (x1 * x2 * (y1 * y2))) * x2 * (y3 * (1 + d * (x1 * x2 * (y1 * y2)))) := by grind
  rw [a1, a2, hx, hy]
  clear a1 a2 hx hy
  grind
theorem sub_add_y {x1 y1 x2 y2 x3 y3 : Fp} (h1 : onC x1 y1) (h2 : onC x2 y2) (hx : x3 * (1 - fp dN * (x1 * x2 * (y1 * y2))) = x1 * y2 - x2 * y1) (hy : y3 * (1 + fp dN * (x1 * x2 * (y1 * y2))) = y1 * y2 - x1 * x2) :
    y1 * (1 - fp dN * (x3 * x2 * (y3 * y2))) = y3 * y2 + x3 * x2 := by
  have n1 := comp_plus h1 h2
  have n2 := comp_minus h1 h2
  unfold onC at h1 h2
  refine fp_cancel (fne_mul n1 n2) ?_
  clear n1 n2
  generalize fp dN = d at *
  have a1 : (1 + d * (x1 * x2 * (y1 * y2))) * (1 - d * (x1 * x2 * (y1 * y2))) * (y1 * (1 - d * (x3 * x2 * (y3 * y2)))) = y1 * ((1 + d * (x1 * x2 * (y1 * y2))) * (1 - d * (x1 * x2 * (y1 * y2))) - d * x2 * y2 * (x3 * (1 - d * (x1 * x2 * (y1 * y2)))) * (y3 * (1 + d * (x1 * x2 * (y1 * y2))))) := by grind
  have a2 : (1 + d * (x1 * x2 * (y1 * y2))) * (1 - d * (x1 * x2 * (y1 * y2))) * (y3 * y2 + x3 * x2) = (1 - d * (x1 * x2 * (y1 * y2))) * y2 * (y3 * (1 + d * (x1 * x2 * (y1 * y2)))) + (1 + d * (x1 * x2 * (y1 * y2))) * x2 * (x3 * (1 - d * (x1 * x2 * (y1 * y2)))) := by grind
  rw [a1, a2, hx, hy]
  clear a1 a2 hx hy
  grind
set_option maxRecDepth 100000 in
set_option maxHeartbeats 4000000 in
theorem assoc_num {d x1 y1 x2 y2 x3 y3 : Fp} (h1 : y1 * y1 - x1 * x1 = 1 + d * (x1 * x1 * (y1 * y1))) (h2 : y2 * y2 - x2 * x2 = 1 + d * (x2 * x2 * (y2 * y2))) (h3 : y3 * y3 - x3 * x3 = 1 + d * (x3 * x3 * (y3 * y3))) :
   ((x1 * y2 + x2 * y1) * (1 - d * (x1 * x2 * (y1 * y2))) * y3 + x3 * (y1 * y2 + x1 * x2) * (1 + d * (x1 * x2 * (y1 * y2)))) * ((1 + d * (x2 * x3 * (y2 * y3))) * (1 - d * (x2 * x3 * (y2 * y3))) + d * x1 * y1 * (x2 * y3 + x3 * y2) * (y2 * y3 + x2 * x3)) =
   (x1 * (y2 * y3 + x2 * x3) * (1 + d * (x2 * x3 * (y2 * y3))) + (x2 * y3 + x3 * y2) * (1 - d * (x2 * x3 * (y2 * y3))) * y1) * ((1 + d * (x1 * x2 * (y1 * y2))) * (1 - d * (x1 * x2 * (y1 * y2))) + d * x3 * y3 * (x1 * y2 + x2 * y1) * (y1 * y2 + x1 * x2)) := by
  grind (ringSteps := 10000000)
set_option maxRecDepth 100000 in
set_option maxHeartbeats 4000000 in
theorem assoc_num_y {d x1 y1 x2 y2 x3 y3 : Fp} (h1 : y1 * y1 - x1 * x1 = 1 + d * (x1 * x1 * (y1 * y1))) (h2 : y2 * y2 - x2 * x2 = 1 + d * (x2 * x2 * (y2 * y2))) (h3 : y3 * y3 - x3 * x3 = 1 + d * (x3 * x3 * (y3 * y3))) :
   ((y1 * y2 + x1 * x2) * (1 + d * (x1 * x2 * (y1 * y2))) * y3 + (x1 * y2 + x2 * y1) * (1 - d * (x1 * x2 * (y1 * y2))) * x3) * ((1 + d * (x2 * x3 * (y2 * y3))) * (1 - d * (x2 * x3 * (y2 * y3))) - d * x1 * y1 * (x2 * y3 + x3 * y2) * (y2 * y3 + x2 * x3)) =
   (y1 * (y2 * y3 + x2 * x3) * (1 + d * (x2 * x3 * (y2 * y3))) + x1 * (x2 * y3 + x3 * y2) * (1 - d * (x2 * x3 * (y2 * y3)))) * ((1 + d * (x1 * x2 * (y1 * y2))) * (1 - d * (x1 * x2 * (y1 * y2))) - d * x3 * y3 * (x1 * y2 + x2 * y1) * (y1 * y2 + x1 * x2)) := by
  grind (ringSteps := 10000000)

theorem assoc_lift_x {d x1 y1 x2 y2 x3 y3 xa ya xb yb : Fp} (a1 : xa * (1 + d * (x1 * x2 * (y1 * y2))) = x1 * y2 + x2 * y1) (a2 : ya * (1 - d * (x1 * x2 * (y1 * y2))) = y1 * y2 + x1 * x2)
    (b1 : xb * (1 + d * (x2 * x3 * (y2 * y3))) = x2 * y3 + x3 * y2) (b2 : yb * (1 - d * (x2 * x3 * (y2 * y3))) = y2 * y3 + x2 * x3)
    (s : ((x1 * y2 + x2 * y1) * (1 - d * (x1 * x2 * (y1 * y2))) * y3 + x3 * (y1 * y2 + x1 * x2) * (1 + d * (x1 * x2 * (y1 * y2)))) * ((1 + d * (x2 * x3 * (y2 * y3))) * (1 - d * (x2 * x3 * (y2 * y3))) + d * x1 * y1 * (x2 * y3 + x3 * y2) * (y2 * y3 + x2 * x3)) =
      (x1 * (y2 * y3 + x2 * x3) * (1 + d * (x2 * x3 * (y2 * y3))) + (x2 * y3 + x3 * y2) * (1 - d * (x2 * x3 * (y2 * y3))) * y1) * ((1 + d * (x1 * x2 * (y1 * y2))) * (1 - d * (x1 * x2 * (y1 * y2))) + d * x3 * y3 * (x1 * y2 + x2 * y1) * (y1 * y2 + x1 * x2))) :
    (1 + d * (x1 * x2 * (y1 * y2))) * (1 - d * (x1 * x2 * (y1 * y2))) * ((1 + d * (x2 * x3 * (y2 * y3))) * (1 - d * (x2 * x3 * (y2 * y3)))) * ((xa * y3 + x3 * ya) * (1 + d * (x1 * xb * (y1 * yb)))) =
    (1 + d * (x1 * x2 * (y1 * y2))) * (1 - d * (x1 * x2 * (y1 * y2))) * ((1 + d * (x2 * x3 * (y2 * y3))) * (1 - d * (x2 * x3 * (y2 * y3)))) * ((x1 * yb + xb * y1) * (1 + d * (xa * x3 * (ya * y3)))) := by
  generalize 1 + d * (x1 * x2 * (y1 * y2)) = p1 at *
  generalize 1 - d * (x1 * x2 * (y1 * y2)) = m1 at *
  generalize 1 + d * (x2 * x3 * (y2 * y3)) = p2 at *
  generalize 1 - d * (x2 * x3 * (y2 * y3)) = m2 at *
  have l : p1 * m1 * (p2 * m2) * ((xa * y3 + x3 * ya) * (1 + d * (x1 * xb * (y1 * yb)))) = ((xa * p1) * m1 * y3 + x3 * (ya * m1) * p1) * (p2 * m2 + d * x1 * y1 * (xb * p2) * (yb * m2)) := by grind
  have r : p1 * m1 * (p2 * m2) * ((x1 * yb + xb * y1) * (1 + d * (xa * x3 * (ya * y3)))) = (x1 * (yb * m2) * p2 + (xb * p2) * m2 * y1) * (p1 * m1 + d * x3 * y3 * (xa * p1) * (ya * m1)) := by grind
  rw [l, r, a1, a2, b1, b2]
  exact s
theorem assoc_lift_y {d x1 y1 x2 y2 x3 y3 xa ya xb yb : Fp} (a1 : xa * (1 + d * (x1 * x2 * (y1 * y2))) = x1 * y2 + x2 * y1) (a2 : ya * (1 - d * (x1 * x2 * (y1 * y2))) = y1 * y2 + x1 * x2)
    (b1 : xb * (1 + d * (x2 * x3 * (y2 * y3))) = x2 * y3 + x3 * y2) (b2 : yb * (1 - d * (x2 * x3 * (y2 * y3))) = y2 * y3 + x2 * x3)
    (s : ((y1 * y2 + x1 * x2) * (1 + d * (x1 * x2 * (y1 * y2))) * y3 + (x1 * y2 + x2 * y1) * (1 - d * (x1 * x2 * (y1 * y2))) * x3) * ((1 + d * (x2 * x3 * (y2 * y3))) * (1 - d * (x2 * x3 * (y2 * y3))) - d * x1 * y1 * (x2 * y3 + x3 * y2) * (y2 * y3 + x2 * x3)) =
      (y1 * (y2 * y3 + x2 * x3) * (1 + d * (x2 * x3 * (y2 * y3))) + x1 * (x2 * y3 + x3 * y2) * (1 - d * (x2 * x3 * (y2 * y3)))) * ((1 + d * (x1 * x2 * (y1 * y2))) * (1 - d * (x1 * x2 * (y1 * y2))) - d * x3 * y3 * (x1 * y2 + x2 * y1) * (y1 * y2 + x1 * x2))) :
    (1 + d * (x1 * x2 * (y1 * y2))) * (1 - d * (x1 * x2 * (y1 * y2))) * ((1 + d * (x2 * x3 * (y2 * y3))) * (1 - d * (x2 * x3 * (y2 * y3)))) * ((ya * y3 + xa * x3) * (1 - d * (x1 * xb * (y1 * yb)))) =
    (1 + d * (x1 * x2 * (y1 * y2))) * (1 - d * (x1 * x2 * (y1 * y2))) * ((1 + d * (x2 * x3 * (y2 * y3))) * (1 - d * (x2 * x3 * (y2 * y3)))) * ((y1 * yb + x1 * xb) * (1 - d * (xa * x3 * (ya * y3)))) := by
  generalize 1 + d * (x1 * x2 * (y1 * y2)) = p1 at *
  generalize 1 - d * (x1 * x2 * (y1 * y2)) = m1 at *
  generalize 1 + d * (x2 * x3 * (y2 * y3)) = p2 at *
  generalize 1 - d * (x2 * x3 * (y2 * y3)) = m2 at *
  have l : p1 * m1 * (p2 * m2) * ((ya * y3 + xa * x3) * (1 - d * (x1 * xb * (y1 * yb)))) = ((ya * m1) * p1 * y3 + (xa * p1) * m1 * x3) * (p2 * m2 - d * x1 * y1 * (xb * p2) * (yb * m2)) := by grind
  have r : p1 * m1 * (p2 * m2) * ((y1 * yb + x1 * xb) * (1 - d * (xa * x3 * (ya * y3)))) = (y1 * (yb * m2) * p2 + x1 * (xb * p2) * m2) * (p1 * m1 - d * x3 * y3 * (xa * p1) * (ya * m1)) := by grind
  rw [l, r, a1, a2, b1, b2]
  exact s
/-- points of the curve -/
structure CP where
  x : Fp
  y : Fp
  on : onC x y
theorem CP.ext' {P Q : CP} (hx : P.x = Q.x) (hy : P.y = Q.y) : P = Q := by
  cases P; cases Q; simp only at hx hy; subst hx; subst hy; rfl
def CP.e (P Q : CP) : Fp := fp dN * (P.x * Q.x * (P.y * Q.y))
theorem CP.np (P Q : CP) : 1 + P.e Q ≠ 0 := comp_plus P.on Q.on
theorem CP.nm (P Q : CP) : 1 - P.e Q ≠ 0 := comp_minus P.on Q.on
def CP.ax (P Q : CP) : Fp := (P.x * Q.y + Q.x * P.y) * fpInv (1 + P.e Q)
def CP.ay (P Q : CP) : Fp := (P.y * Q.y + P.x * Q.x) * fpInv (1 - P.e Q)
theorem inv_cancel {a b : Fp} (h : b ≠ 0) : a * fpInv b * b = a := by
  have := fpInv_mul b h
  grind
theorem CP.hx (P Q : CP) : P.ax Q * (1 + P.e Q) = P.x * Q.y + Q.x * P.y := inv_cancel (P.np Q)
theorem CP.hy (P Q : CP) : P.ay Q * (1 - P.e Q) = P.y * Q.y + P.x * Q.x := inv_cancel (P.nm Q)
def CP.add (P Q : CP) : CP := ⟨P.ax Q, P.ay Q, add_on P.on Q.on (P.hx Q) (P.hy Q)⟩
theorem on_zero : onC 0 1 := by unfold onC; grind
def CP.zero : CP := ⟨0, 1, on_zero⟩
def CP.neg (P : CP) : CP := ⟨- P.x, P.y, by have := P.on; unfold onC at *; grind⟩
theorem CP.add_comm (P Q : CP) : P.add Q = Q.add P := by
  refine CP.ext' (fp_cancel (P.np Q) ?_) (fp_cancel (P.nm Q) ?_)
  · have h1 := P.hx Q
    have h2 := Q.hx P
    have e : Q.e P = P.e Q := by unfold CP.e; grind
    rw [e] at h2
    show (1 + P.e Q) * P.ax Q = (1 + P.e Q) * Q.ax P
    grind
  · have h1 := P.hy Q
    have h2 := Q.hy P
    have e : Q.e P = P.e Q := by unfold CP.e; grind
    rw [e] at h2
    show (1 - P.e Q) * P.ay Q = (1 - P.e Q) * Q.ay P
    grind
theorem CP.add_zero (P : CP) : P.add CP.zero = P := by
  have e : P.e CP.zero = 0 := by unfold CP.e CP.zero; grind
  refine CP.ext' ?_ ?_
  · have h1 := P.hx CP.zero
    rw [e] at h1
    show P.ax CP.zero = P.x
    unfold CP.zero at *
    simp only at h1
    grind
  · have h1 := P.hy CP.zero
    rw [e] at h1
    show P.ay CP.zero = P.y
    unfold CP.zero at *
    simp only at h1
    grind
theorem CP.neg_add (P : CP) : P.neg.add P = CP.zero := by
  have hp := P.on
  refine CP.ext' (fp_cancel (P.neg.np P) ?_) (fp_cancel (P.neg.nm P) ?_)
  · have h1 := P.neg.hx P
    show (1 + P.neg.e P) * P.neg.ax P = (1 + P.neg.e P) * 0
    unfold CP.neg at *
    simp only at h1
    grind
  · have h1 := P.neg.hy P
    show (1 - P.neg.e P) * P.neg.ay P = (1 - P.neg.e P) * 1
    unfold onC at hp
    unfold CP.neg CP.e at *
    simp only at h1
    grind
theorem fcross {n1 d1 n2 d2 r1 r2 : Fp} (h1 : r1 * d1 = n1) (h2 : r2 * d2 = n2) (k1 : d1 ≠ 0) (k2 : d2 ≠ 0) (h : n1 * d2 = n2 * d1) : r1 = r2 := by
  refine fp_cancel (fne_mul k1 k2) ?_
  grind
theorem CP.add_assoc (P Q R : CP) : (P.add Q).add R = P.add (Q.add R) := by
  have sx := assoc_num P.on Q.on R.on
  have sy := assoc_num_y P.on Q.on R.on
  have a1 := P.hx Q
  have a2 := P.hy Q
  have b1 := Q.hx R
  have b2 := Q.hy R
  have np1 := P.np Q
  have nm1 := P.nm Q
  have np2 := Q.np R
  have nm2 := Q.nm R
  have c1 := (P.add Q).hx R
  have c2 := (P.add Q).hy R
  have d1 := P.hx (Q.add R)
  have d2 := P.hy (Q.add R)
  have n1 := (P.add Q).np R
  have n2 := (P.add Q).nm R
  have n3 := P.np (Q.add R)
  have n4 := P.nm (Q.add R)
  have ea : (P.add Q).e R = fp dN * (P.ax Q * R.x * (P.ay Q * R.y)) := rfl
  have eb : P.e (Q.add R) = fp dN * (P.x * Q.ax R * (P.y * Q.ay R)) := rfl
  have e1 : P.e Q = fp dN * (P.x * Q.x * (P.y * Q.y)) := rfl
  have e2 : Q.e R = fp dN * (Q.x * R.x * (Q.y * R.y)) := rfl
  rw [ea] at c1 c2 n1 n2
  rw [eb] at d1 d2 n3 n4
  rw [e1] at a1 a2 np1 nm1
  rw [e2] at b1 b2 np2 nm2
  refine CP.ext' (fcross c1 d1 n1 n3 ?_) (fcross c2 d2 n2 n4 ?_)
  · show (P.ax Q * R.y + R.x * P.ay Q) * _ = (P.x * Q.ay R + Q.ax R * P.y) * _
    refine fp_cancel (fne_mul (fne_mul np1 nm1) (fne_mul np2 nm2)) ?_
    clear c1 c2 d1 d2 n1 n2 n3 n4 ea eb e1 e2 np1 nm1 np2 nm2 sy
    generalize P.ax Q = xa at *
    generalize P.ay Q = ya at *
    generalize Q.ax R = xb at *
    generalize Q.ay R = yb at *
    generalize P.x = x1 at *
    generalize P.y = y1 at *
    generalize Q.x = x2 at *
    generalize Q.y = y2 at *
    generalize R.x = x3 at *
    generalize R.y = y3 at *
    generalize fp dN = d at *
    exact assoc_lift_x a1 a2 b1 b2 sx
  · show (P.ay Q * R.y + P.ax Q * R.x) * _ = (P.y * Q.ay R + P.x * Q.ax R) * _
    refine fp_cancel (fne_mul (fne_mul np1 nm1) (fne_mul np2 nm2)) ?_
    clear c1 c2 d1 d2 n1 n2 n3 n4 ea eb e1 e2 np1 nm1 np2 nm2 sx
    generalize P.ax Q = xa at *
    generalize P.ay Q = ya at *
    generalize Q.ax R = xb at *
    generalize Q.ay R = yb at *
    generalize P.x = x1 at *
    generalize P.y = y1 at *
    generalize Q.x = x2 at *
    generalize Q.y = y2 at *
    generalize R.x = x3 at *
    generalize R.y = y3 at *
    generalize fp dN = d at *
    exact assoc_lift_y a1 a2 b1 b2 sy
end Go.Proofs.YtemgflkecflhmaaDoor
