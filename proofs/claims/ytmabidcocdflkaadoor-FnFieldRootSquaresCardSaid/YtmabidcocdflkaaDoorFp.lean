/- The field of 2^255 - 19 as Fin: no divisors of 0, inverses. No program in sight. -/
import Derived.Test.YtmabidcocdflkaaDoorPrim
import Derived.Test.YtmabidcocdflkaaDoorArith
set_option linter.unusedSimpArgs false
set_option linter.unusedVariables false
namespace Go.Proofs.YtmabidcocdflkaaDoor
instance pF_nz : NeZero pF := ⟨by unfold pF; omega⟩
abbrev Fp := Fin pF
/-- a number as an element of the field -/
def fp (x : Nat) : Fp := Fin.ofNat pF x
theorem fp_val (x : Nat) : (fp x).val = x % pF := rfl
theorem fp_mod (x : Nat) : fp (x % pF) = fp x := by apply Fin.ext; simp [fp_val]
theorem fp_eq {x y : Nat} : fp x = fp y ↔ x % pF = y % pF := by
  constructor
  · intro h; have := congrArg Fin.val h; simpa [fp_val] using this
  · intro h; apply Fin.ext; simpa [fp_val] using h
theorem fp_inj {x y : Nat} (hx : x < pF) (hy : y < pF) (h : fp x = fp y) : x = y := by
  have := fp_eq.1 h
  rwa [Nat.mod_eq_of_lt hx, Nat.mod_eq_of_lt hy] at this
theorem fp_add (x y : Nat) : fp (x + y) = fp x + fp y := by
  apply Fin.ext; simp [fp_val, Fin.val_add, Nat.add_mod]
theorem fp_mul (x y : Nat) : fp (x * y) = fp x * fp y := by
  apply Fin.ext; simp [fp_val, Fin.val_mul, Nat.mul_mod]
theorem fp_zero : fp 0 = 0 := rfl
theorem fp_one : fp 1 = 1 := rfl
theorem fp_p : fp pF = 0 := by apply Fin.ext; simp [fp_val]
theorem fp_sub (x y : Nat) (h : y ≤ pF) : fp (x + (pF - y)) = fp x - fp y := by
  have h1 : fp (x + (pF - y)) + fp y = fp x := by
    rw [← fp_add, show x + (pF - y) + y = x + pF by omega, fp_add, fp_p]; grind
  grind
theorem fp_neg (y : Nat) (h : y ≤ pF) : fp (pF - y) = - fp y := by
  have := fp_sub 0 y h
  rw [Nat.zero_add] at this
  rw [this, fp_zero]; grind
theorem fp_pow (x : Nat) : ∀ n, fp (x ^ n) = fp x ^ n
  | 0 => by rw [Nat.pow_zero, fp_one]; grind
  | n + 1 => by rw [Nat.pow_succ, fp_mul, fp_pow x n]; grind
theorem fp_of (a : Fp) : fp a.val = a := by apply Fin.ext; rw [fp_val]; exact Nat.mod_eq_of_lt a.isLt
theorem fp_ne (x : Nat) : fp x = 0 ↔ x % pF = 0 := by
  rw [← fp_zero, fp_eq, Nat.zero_mod]
theorem fp_dvd (x : Nat) : fp x = 0 ↔ pF ∣ x := by rw [fp_ne]; exact ⟨Nat.dvd_of_mod_eq_zero, Nat.mod_eq_zero_of_dvd⟩
theorem pr_pF : Pm.Pr pF := Pm.pr_p
theorem fp_nodiv {a b : Fp} (h : a * b = 0) : a = 0 ∨ b = 0 := by
  rw [← fp_of a, ← fp_of b, ← fp_mul, fp_dvd] at h
  rcases pr_pF.euclid h with h | h
  · left; rw [← fp_of a]; exact (fp_dvd _).2 h
  · right; rw [← fp_of b]; exact (fp_dvd _).2 h
theorem fp_cancel {a b c : Fp} (ha : a ≠ 0) (h : a * b = a * c) : b = c := by
  have : a * (b - c) = 0 := by grind
  rcases fp_nodiv this with h | h
  · exact absurd h ha
  · grind
theorem fp_fermat (a : Fp) (h : a ≠ 0) : a ^ (pF - 1) = 1 := by
  have h1 : ¬ pF ∣ a.val := fun hd => h (by rw [← fp_of a]; exact (fp_dvd _).2 hd)
  have := Pm.fermat pr_pF a.val h1
  rw [← fp_of a, ← fp_pow, ← fp_one]
  exact fp_eq.2 this
/-- 1 / a, and 0 of 0 -/
def fpInv (a : Fp) : Fp := a ^ (pF - 2)
theorem fpInv_mul (a : Fp) (h : a ≠ 0) : a * fpInv a = 1 := by
  rw [← fp_fermat a h]
  unfold fpInv
  rw [show pF - 1 = (pF - 2) + 1 by unfold pF; omega]
  generalize pF - 2 = e
  grind
theorem fpInv_zero : fpInv 0 = 0 := by
  unfold fpInv
  rw [show pF - 2 = (pF - 3) + 1 by unfold pF; omega]
  generalize pF - 3 = e
  grind
theorem fp_one_ne : (1 : Fp) ≠ 0 := by
  intro h
  have := congrArg Fin.val h
  revert this; decide +kernel
end Go.Proofs.YtmabidcocdflkaaDoor
