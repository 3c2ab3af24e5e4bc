/- Parts of texts for several laws: Points: what projective coordinates stand for, sums by both roads, what a point is told by. -/
import Derived.BigRegion
import Derived.Deep.Draws
import Derived.Laws.Bits64b
import Derived.Lib.Hide
import Derived.LoopTactic
import Derived.StillTailTactics
import Derived.Test.YtcenlinpbpbpoaaDoorProg
import Derived.WalkKit
import Derived.WalkLawsBesides
import Derived.WalkSpells
import Derived.Test.YtcenlinpbpbpoaaDoorKC0
import Derived.Test.YtcenlinpbpbpoaaDoorKHF1
import Derived.Test.YtcenlinpbpbpoaaDoorKHF3
import Derived.Test.YtcenlinpbpbpoaaDoorKHGr
import Derived.Test.YtcenlinpbpbpoaaDoorKHPI
import Derived.Test.YtcenlinpbpbpoaaDoorKHPO
import Derived.Test.YtcenlinpbpbpoaaDoorKHPP
import Derived.Test.YtcenlinpbpbpoaaDoorKHPS
import Derived.Test.YtcenlinpbpbpoaaDoorKHS8
import Derived.Test.YtcenlinpbpbpoaaDoorKHSQ
import Derived.Test.YtcenlinpbpbpoaaDoorKHSQB
import Derived.Test.YtcenlinpbpbpoaaDoorKHSQN
import Derived.Test.YtcenlinpbpbpoaaDoorKHSRD
import Derived.Test.YtcenlinpbpbpoaaDoorKHU1
import Derived.Test.YtcenlinpbpbpoaaDoorKHUM
import Derived.Test.YtcenlinpbpbpoaaDoorKHUN
import Derived.Test.YtcenlinpbpbpoaaDoorKHUS
import Derived.Test.YtcenlinpbpbpoaaDoorKHUSR
import Derived.Test.YtcenlinpbpbpoaaDoorKHUSe
import Derived.Test.YtcenlinpbpbpoaaDoorKL0
import Derived.Test.YtcenlinpbpbpoaaDoorKL1
import Derived.Test.YtcenlinpbpbpoaaDoorKL2
import Derived.Test.YtcenlinpbpbpoaaDoorKL3
import Derived.Test.YtcenlinpbpbpoaaDoorKL4
namespace Go.Proofs.YtcenlinpbpbpoaaDoor
set_option maxRecDepth 4000
set_option linter.unusedSimpArgs false
set_option linter.unusedVariables false
section
theorem i_z {d x1 y1 x2 y2 z1 z2 E : Fp} (hE : d * (x1 * x2 * (y1 * y2)) = E) : z1 * z2 + z1 * z2 + x1 * y1 * z1 * (x2 * y2 * z2 * (d + d)) = 2 * (z1 * z2) * (1 + E) := by grind
theorem i_t {d x1 y1 x2 y2 z1 z2 E : Fp} (hE : d * (x1 * x2 * (y1 * y2)) = E) : z1 * z2 + z1 * z2 - x1 * y1 * z1 * (x2 * y2 * z2 * (d + d)) = 2 * (z1 * z2) * (1 - E) := by grind
theorem i_x {x1 y1 x2 y2 z1 z2 E x3 : Fp} (hx : x3 * (1 + E) = x1 * y2 + x2 * y1) : (y1 * z1 + x1 * z1) * (y2 * z2 + x2 * z2) - (y1 * z1 - x1 * z1) * (y2 * z2 - x2 * z2) = x3 * (2 * (z1 * z2) * (1 + E)) := by grind
theorem i_y {x1 y1 x2 y2 z1 z2 E y3 : Fp} (hy : y3 * (1 - E) = y1 * y2 + x1 * x2) : (y1 * z1 + x1 * z1) * (y2 * z2 + x2 * z2) + (y1 * z1 - x1 * z1) * (y2 * z2 - x2 * z2) = y3 * (2 * (z1 * z2) * (1 - E)) := by grind
/-- (X : Y : Z : T) of the completed model: x = X / Z, y = Y / T -/
def Rc (P : CP) (X Y Z T : Fp) : Prop := Z ≠ 0 ∧ T ≠ 0 ∧ X = P.x * Z ∧ Y = P.y * T
/-- what is kept of a point to add it: Y + X, Y - X, Z, 2 d T -/
def Rk (P : CP) (A S Z D : Fp) : Prop := Z ≠ 0 ∧ A = P.y * Z + P.x * Z ∧ S = P.y * Z - P.x * Z ∧ D = P.x * P.y * Z * (fp dN + fp dN)
theorem Rc.add {P Q : CP} {X Y Z T A S Z2 D : Fp} (h1 : Rq P X Y Z T) (h2 : Rk Q A S Z2 D) :
    Rc (P.add Q) ((Y + X) * A - (Y - X) * S) ((Y + X) * A + (Y - X) * S) (Z * Z2 + Z * Z2 + T * D) (Z * Z2 + Z * Z2 - T * D) := by
  obtain ⟨⟨hz, rfl, rfl⟩, rfl⟩ := h1
  obtain ⟨hz2, rfl, rfl, rfl⟩ := h2
  have hE : fp dN * (P.x * Q.x * (P.y * Q.y)) = P.e Q := rfl
  have zz : 2 * (Z * Z2) ≠ 0 := fne_mul fp_two_ne (fne_mul hz hz2)
  rw [i_z hE, i_t hE]
  exact ⟨fne_mul zz (P.np Q), fne_mul zz (P.nm Q), i_x (P.hx Q), i_y (P.hy Q)⟩
end

end Go.Proofs.YtcenlinpbpbpoaaDoor
