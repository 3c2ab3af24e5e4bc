/- What the laws of square roots need. No program in sight. -/
import Derived.Test.YtmabidcocdflkaaDoorSq
import Derived.Test.YtmabidcocdflkaaDoorArith
set_option linter.unusedSimpArgs false
set_option linter.unusedVariables false
namespace Go.Proofs.YtmabidcocdflkaaDoor

theorem sqz_one (a : Fp) : sqz a (fp 1) = a := by unfold sqz; rw [fp_one]; grind
theorem p1_lt : 1 < pF := by unfold pF; omega
theorem one_way : sqW 1 1 = true := by
  rcases sq_ways 1 1 p1_lt p1_lt (by omega) (by omega) with ⟨h, _⟩ | ⟨_, h, _⟩
  · exact h
  · exfalso
    rw [sqz_one, fp_one, fone_pow, fone_pow] at h
    exact fp_neg_ne 1 fp_one_ne h
theorem m1_fp : fp (pF - 1) = -1 := by rw [fp_neg 1 (by unfold pF; omega), fp_one]
theorem m1_sq (E : Nat) : ((-1 : Fp) ^ E) ^ 2 = 1 := by
  rw [← fpow_mul, Nat.mul_comm, fpow_mul]
  have : (-1 : Fp) ^ 2 = 1 := by grind
  rw [this, fone_pow]
theorem m1_way : sqW (pF - 1) 1 = true ∧ sqR (pF - 1) 1 = iN := by
  have hp : pF - 1 < pF := by unfold pF; omega
  rcases sq_ways (pF - 1) 1 hp p1_lt (by unfold pF; omega) (by omega) with ⟨h, _, h2⟩ | ⟨_, h, _⟩
  · refine ⟨h, even_root (sqR_lt _ _) iN_lt (sqR_even _ _) iN_even ?_⟩
    rw [m1_fp, fp_one] at h2
    rw [fi_sq, ← h2]; grind
  · exfalso
    rw [sqz_one, m1_fp, m1_sq] at h
    exact fp_neg_ne 1 fp_one_ne h
theorem sqR_u0 (v : Nat) : sqR 0 v = 0 := by
  have h : sqRR 0 v = 0 := by unfold sqRR; simp
  unfold sqR; rw [h]; simp [absN_zero]
/-- squares: the root times itself times v -/
theorem root_yes (u v : Nat) (hu : u < pF) (hv : v < pF) (v0 : v ≠ 0) (h : sqW u v = true) : sqR u v * sqR u v % pF * v % pF = u := by
  by_cases u0 : u = 0
  · subst u0; rw [sqR_u0]; simp
  · rcases sq_ways u v hu hv u0 v0 with ⟨_, _, h2⟩ | ⟨h1, _⟩
    · refine fp_inj (Nat.mod_lt _ pF_pos) hu ?_
      simp only [fp_mod, fp_mul]; exact h2
    · rw [h] at h1; exact absurd h1 (by decide)
theorem root_no (u v : Nat) (hu : u < pF) (hv : v < pF) (v0 : v ≠ 0) (h : sqW u v = false) : sqR u v * sqR u v % pF * v % pF = iN * u % pF := by
  by_cases u0 : u = 0
  · subst u0; rw [sqR_u0]; simp
  · rcases sq_ways u v hu hv u0 v0 with ⟨h1, _⟩ | ⟨_, _, h2⟩
    · rw [h] at h1; exact absurd h1 (by decide)
    · refine fp_inj (Nat.mod_lt _ pF_pos) (Nat.mod_lt _ pF_pos) ?_
      simp only [fp_mod, fp_mul]; exact h2

end Go.Proofs.YtmabidcocdflkaaDoor
