/- Parts of texts for several laws: The points of the curve are a commutative group. -/
import Derived.Deep.Draws
import Derived.Laws.Bits64b
import Derived.WalkKit
import Derived.WalkSpells
import Derived.Test.YtcenlinpbpbpoaaDoorKL0
namespace Go.Proofs.YtcenlinpbpbpoaaDoor
set_option maxRecDepth 4000
set_option linter.unusedSimpArgs false
set_option linter.unusedVariables false
section
/-- points of the curve -/
structure CP where
  x : Fp
  y : Fp
  on : onC x y
theorem CP.ext' {P Q : CP} (hx : P.x = Q.x) (hy : P.y = Q.y) : P = Q := by
  cases P; cases Q; simp only at hx hy; subst hx; subst hy; rfl
def CP.e (P Q : CP) : Fp := fp dN * (P.x * Q.x * (P.y * Q.y))
theorem CP.np (P Q : CP) : 1 + P.e Q ≠ 0 := comp_plus P.on Q.on
theorem CP.nm (P Q : CP) : 1 - P.e Q ≠ 0 := comp_minus P.on Q.on
def CP.ax (P Q : CP) : Fp := (P.x * Q.y + Q.x * P.y) * fpInv (1 + P.e Q)
def CP.ay (P Q : CP) : Fp := (P.y * Q.y + P.x * Q.x) * fpInv (1 - P.e Q)
theorem inv_cancel {a b : Fp} (h : b ≠ 0) : a * fpInv b * b = a := by
  have := fpInv_mul b h
  grind
theorem CP.hx (P Q : CP) : P.ax Q * (1 + P.e Q) = P.x * Q.y + Q.x * P.y := inv_cancel (P.np Q)
theorem CP.hy (P Q : CP) : P.ay Q * (1 - P.e Q) = P.y * Q.y + P.x * Q.x := inv_cancel (P.nm Q)
def CP.add (P Q : CP) : CP := ⟨P.ax Q, P.ay Q, add_on P.on Q.on (P.hx Q) (P.hy Q)⟩
theorem on_zero : onC 0 1 := by unfold onC; grind
def CP.zero : CP := ⟨0, 1, on_zero⟩
theorem CP.add_zero (P : CP) : P.add CP.zero = P := by
  have e : P.e CP.zero = 0 := by unfold CP.e CP.zero; grind
  refine CP.ext' ?_ ?_
  · have h1 := P.hx CP.zero
    rw [e] at h1
    show P.ax CP.zero = P.x
    unfold CP.zero at *
    simp only at h1
    grind
  · have h1 := P.hy CP.zero
    rw [e] at h1
    show P.ay CP.zero = P.y
    unfold CP.zero at *
    simp only at h1
    grind
end

end Go.Proofs.YtcenlinpbpbpoaaDoor
