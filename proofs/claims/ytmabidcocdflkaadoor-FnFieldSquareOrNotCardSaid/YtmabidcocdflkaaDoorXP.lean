/- Powers modulo 2^255 - 19. -/
import Derived.Test.YtmabidcocdflkaaDoorArith
set_option linter.unusedSimpArgs false
set_option linter.unusedVariables false
namespace Go.Proofs.YtmabidcocdflkaaDoor
open Go.RowKit

/-- x to the power of E, modulo p -/
def xp (x E : Nat) : Nat := x ^ E % pF
theorem xp_lt (x E : Nat) : xp x E < pF := Nat.mod_lt _ pF_pos
theorem xp_mul (x A B : Nat) : xp x A * xp x B % pF = xp x (A + B) := by
  unfold xp; rw [← Nat.mul_mod, ← Nat.pow_add]
theorem xp_to (x A B C : Nat) (h : A + B = C) : xp x C = xp x A * xp x B % pF := by rw [xp_mul, h]
theorem xp_two (x k : Nat) : xp x (2 ^ k) * xp x (2 ^ k) % pF = xp x (2 ^ (k + 1)) := by
  rw [xp_mul, Nat.pow_succ, Nat.mul_two]
theorem xp_one (x : Nat) (h : x < pF) : xp x 1 = x := by unfold xp; rw [Nat.pow_one, Nat.mod_eq_of_lt h]
theorem xp_xp (x A B : Nat) : xp (xp x A) B = xp x (A * B) := by
  unfold xp; rw [← Nat.pow_mod, Nat.pow_mul]
theorem xp_of (x A B C : Nat) (h : A * B = C) : xp x C = xp (xp x A) B := by rw [xp_xp, h]

end Go.Proofs.YtmabidcocdflkaaDoor
