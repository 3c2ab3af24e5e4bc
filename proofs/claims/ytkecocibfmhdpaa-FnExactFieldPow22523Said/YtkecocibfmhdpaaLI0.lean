/- The laws' kit: powers. -/
import Derived.Test.YtkecocibfmhdpaaLK
import Derived.Test.YtkecocibfmhdpaaXP
import Derived.Test.YtkecocibfmhdpaaFp
set_option linter.unusedSimpArgs false
set_option linter.unusedVariables false
namespace Go.Proofs.Ytkecocibfmhdpaa
open Go.RowKit

theorem xp_base_mul (x y E : Nat) : xp (x * y % pF) E = xp x E * xp y E % pF := by
  unfold xp; rw [← Nat.pow_mod, Nat.mul_pow, Nat.mul_mod]
theorem xp_base1 (E : Nat) : xp 1 E = 1 := by unfold xp; rw [Nat.one_pow]; exact Nat.mod_eq_of_lt (by unfold pF; omega)
theorem xp_base0 (E : Nat) (h : 0 < E) : xp 0 E = 0 := by unfold xp; rw [Nat.zero_pow h]; simp
theorem vl {x : Nat} (h : x < pF) : valN x = x := valN_of_lt x h
theorem v1 : valN 1 = 1 := vl (by unfold pF; omega)
theorem v0 : valN 0 = 0 := vl (by unfold pF; omega)

end Go.Proofs.Ytkecocibfmhdpaa
