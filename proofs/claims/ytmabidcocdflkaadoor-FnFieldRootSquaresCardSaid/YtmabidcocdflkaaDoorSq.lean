/- Square roots of ratios modulo 2^255 - 19. No program in sight. -/
import Derived.Test.YtmabidcocdflkaaDoorFp
set_option linter.unusedSimpArgs false
set_option linter.unusedVariables false
namespace Go.Proofs.YtmabidcocdflkaaDoor
theorem fpow_succ (a : Fp) (n : Nat) : a ^ (n + 1) = a ^ n * a := by grind
theorem fpow_zero (a : Fp) : a ^ 0 = 1 := by grind
theorem fpow_one (a : Fp) : a ^ 1 = a := by grind
theorem fpow_add (a : Fp) (m : Nat) : ∀ n : Nat, a ^ (m + n) = a ^ m * a ^ n
  | 0 => by rw [Nat.add_zero, fpow_zero]; grind
  | n + 1 => by rw [← Nat.add_assoc, fpow_succ, fpow_add a m n, fpow_succ]; grind
theorem fpow_mul (a : Fp) (m : Nat) : ∀ n : Nat, a ^ (m * n) = (a ^ m) ^ n
  | 0 => by rw [Nat.mul_zero, fpow_zero, fpow_zero]
  | n + 1 => by rw [Nat.mul_succ, fpow_add, fpow_mul a m n, fpow_succ]
theorem fmul_pow (a b : Fp) : ∀ n : Nat, (a * b) ^ n = a ^ n * b ^ n
  | 0 => by rw [fpow_zero, fpow_zero, fpow_zero]; grind
  | n + 1 => by rw [fpow_succ, fmul_pow a b n, fpow_succ, fpow_succ]; grind
theorem fone_pow : ∀ n : Nat, (1 : Fp) ^ n = 1
  | 0 => fpow_zero _
  | n + 1 => by rw [fpow_succ, fone_pow n]; grind
theorem fzero_pow (n : Nat) : (0 : Fp) ^ (n + 1) = 0 := by rw [fpow_succ]; grind
theorem fpow_ne (a : Fp) (h : a ≠ 0) : ∀ n : Nat, a ^ n ≠ 0
  | 0 => by rw [fpow_zero]; exact fp_one_ne
  | n + 1 => by
    rw [fpow_succ]
    intro h0
    rcases fp_nodiv h0 with h1 | h1
    · exact fpow_ne a h n h1
    · exact h h1
theorem fp_two_ne : (2 : Fp) ≠ 0 := by
  intro h
  have := congrArg Fin.val h
  revert this; decide +kernel
theorem fp_neg_ne (a : Fp) (h : a ≠ 0) : a ≠ -a := by
  intro h0
  have : 2 * a = 0 := by grind
  rcases fp_nodiv this with h1 | h1
  · exact fp_two_ne h1
  · exact h h1
/-- (p - 5) / 8 -/
def eQ : Nat := 7237005577332262213973186563042994240829374041602535252466099000494570602493
theorem eQ_p : pF - 1 = (2 * eQ + 1) * 4 := by unfold pF eQ; omega
/-- the square root of -1 that is even -/
def iN : Nat := 19681161376707505956807079304988542015446066515923890162744021073123829784752
theorem iN_lt : iN < pF := by unfold iN pF; omega
theorem iN_even : iN % 2 = 0 := by unfold iN; omega
theorem iN_sq : iN * iN % pF = pF - 1 := by decide +kernel
theorem fi_sq : fp iN * fp iN = -1 := by
  rw [← fp_mul, ← fp_mod, iN_sq]
  have h := fp_neg 1 (by unfold pF; omega)
  rw [h, fp_one]
theorem two_non : (2 : Fp) ^ (2 * (2 * eQ + 1)) = -1 := by
  have h : 2 ^ (2 * (2 * eQ + 1)) % pF = pF - 1 := Pm.pw_pow (f := 256) (by decide +kernel) (by decide +kernel)
  have e : (2 : Fp) = fp 2 := rfl
  rw [e, ← fp_pow, ← fp_mod, h]
  have h := fp_neg 1 (by unfold pF; omega)
  rw [h, fp_one]
theorem four_roots {c i : Fp} (hi : i * i = -1) (h : c ^ 4 = 1) : c = 1 ∨ c = -1 ∨ c = i ∨ c = -i := by
  have h1 : (c - 1) * ((c + 1) * ((c - i) * (c + i))) = 0 := by grind
  rcases fp_nodiv h1 with h1 | h1
  · left; grind
  · rcases fp_nodiv h1 with h1 | h1
    · right; left; grind
    · rcases fp_nodiv h1 with h1 | h1
      · right; right; left; grind
      · right; right; right; grind
theorem chi_four (z : Fp) (h : z ≠ 0) : (z ^ (2 * eQ + 1)) ^ 4 = 1 := by
  rw [← fpow_mul, ← eQ_p]; exact fp_fermat z h
/-- the root before its sign is chosen, times v and squared -/
theorem check_val (u v : Fp) : v * ((u * (v * v * v) * (u * (v * v * v) * ((v * v) * (v * v))) ^ eQ) * (u * (v * v * v) * (u * (v * v * v) * ((v * v) * (v * v))) ^ eQ)) = u * (u * (v * v * v) * ((v * v) * (v * v))) ^ (2 * eQ + 1) := by
  rw [fpow_succ, Nat.mul_comm 2, fpow_mul]
  generalize (u * (v * v * v) * ((v * v) * (v * v))) ^ eQ = s
  grind
theorem z_ne {u v : Fp} (hu : u ≠ 0) (hv : v ≠ 0) : u * (v * v * v) * ((v * v) * (v * v)) ≠ 0 := by
  intro h
  rcases fp_nodiv h with h | h
  · rcases fp_nodiv h with h | h
    · exact hu h
    · rcases fp_nodiv h with h | h
      · rcases fp_nodiv h with h | h <;> exact hv h
      · exact hv h
  · rcases fp_nodiv h with h | h <;> (rcases fp_nodiv h with h | h <;> exact hv h)
/-- equal squares -/
theorem sq_eq {a b : Fp} (h : a * a = b * b) : a = b ∨ a = -b := by
  have : (a - b) * (a + b) = 0 := by grind
  rcases fp_nodiv this with h | h
  · left; grind
  · right; grind
/-- |x|: the even one of x and -x -/
def absN (x : Nat) : Nat := if x % 2 = 1 then (pF - x) % pF else x
theorem absN_lt (x : Nat) (h : x < pF) : absN x < pF := by
  unfold absN; split
  · exact Nat.mod_lt _ pF_pos
  · exact h
theorem absN_even (x : Nat) (h : x < pF) : absN x % 2 = 0 := by
  unfold absN
  have hp : pF % 2 = 1 := by unfold pF; omega
  split
  · rename_i h1; rw [Nat.mod_eq_of_lt (show pF - x < pF by omega)]; omega
  · omega
theorem absN_sq (x : Nat) (h : x < pF) : fp (absN x) * fp (absN x) = fp x * fp x := by
  unfold absN; split
  · rw [fp_mod, fp_neg _ (by omega)]; grind
  · rfl
theorem absN_zero : absN 0 = 0 := by unfold absN; simp
/-- the even root is one alone -/
theorem even_root {a b : Nat} (ha : a < pF) (hb : b < pF) (ea : a % 2 = 0) (eb : b % 2 = 0) (h : fp a * fp a = fp b * fp b) : a = b := by
  have hp : pF % 2 = 1 := by unfold pF; omega
  rcases sq_eq h with h | h
  · exact fp_inj ha hb h
  · rw [← fp_neg b (by omega), ← fp_mod (pF - b)] at h
    have := fp_inj ha (Nat.mod_lt _ pF_pos) h
    rcases Nat.eq_zero_or_pos b with rfl | h0
    · rw [Nat.sub_zero, Nat.mod_self] at this; exact this
    · rw [Nat.mod_eq_of_lt (by omega)] at this; omega
/-- the root of u / v ahead of its sign -/
def sqRR (u v : Nat) : Nat :=
  u * (v * v % pF * v % pF) % pF * ((u * (v * v % pF * v % pF) % pF * (v * v % pF * (v * v % pF) % pF) % pF) ^ eQ % pF) % pF
def sqC (u v : Nat) : Nat := v * (sqRR u v * sqRR u v % pF) % pF
def sqB (u v : Nat) : Bool := sqC u v = (pF - u) % pF || sqC u v = (pF - u) % pF * iN % pF
def sqR (u v : Nat) : Nat := absN (if sqB u v then sqRR u v * iN % pF else sqRR u v)
def sqW (u v : Nat) : Bool := sqC u v = u || sqC u v = (pF - u) % pF
def sqZ (u v : Nat) : Nat := if sqW u v then 1 else 0
def sqz (u v : Fp) : Fp := u * (v * v * v) * ((v * v) * (v * v))
theorem fp_sqRR (u v : Nat) : fp (sqRR u v) = fp u * (fp v * fp v * fp v) * sqz (fp u) (fp v) ^ eQ := by
  unfold sqRR sqz
  simp only [fp_mod, fp_mul, fp_pow]
theorem sqRR_lt (u v : Nat) : sqRR u v < pF := Nat.mod_lt _ pF_pos
theorem sqC_lt (u v : Nat) : sqC u v < pF := Nat.mod_lt _ pF_pos
theorem fp_sqC (u v : Nat) : fp (sqC u v) = fp u * sqz (fp u) (fp v) ^ (2 * eQ + 1) := by
  have h : fp (sqC u v) = fp v * (fp (sqRR u v) * fp (sqRR u v)) := by
    unfold sqC
    simp only [fp_mod, fp_mul]
  rw [h, fp_sqRR]
  unfold sqz
  exact check_val (fp u) (fp v)
theorem fp_eq_iff {a b : Nat} (ha : a < pF) (hb : b < pF) : a = b ↔ fp a = fp b := ⟨fun h => by rw [h], fp_inj ha hb⟩
theorem fp_negm (u : Nat) (h : u ≤ pF) : fp ((pF - u) % pF) = - fp u := by rw [fp_mod, fp_neg u h]
theorem fp_zero_iff {a : Nat} (ha : a < pF) : a = 0 ↔ fp a = 0 := by rw [← fp_zero]; exact fp_eq_iff ha pF_pos
theorem sq_c1 (u v : Nat) (hu : u < pF) : (sqC u v = u) ↔ fp u * sqz (fp u) (fp v) ^ (2 * eQ + 1) = fp u := by
  rw [fp_eq_iff (sqC_lt u v) hu, fp_sqC]
theorem sq_c2 (u v : Nat) (hu : u < pF) : (sqC u v = (pF - u) % pF) ↔ fp u * sqz (fp u) (fp v) ^ (2 * eQ + 1) = - fp u := by
  rw [fp_eq_iff (sqC_lt u v) (Nat.mod_lt _ pF_pos), fp_sqC, fp_negm u (by omega)]
theorem sq_c3 (u v : Nat) (hu : u < pF) : (sqC u v = (pF - u) % pF * iN % pF) ↔ fp u * sqz (fp u) (fp v) ^ (2 * eQ + 1) = - fp u * fp iN := by
  rw [fp_eq_iff (sqC_lt u v) (Nat.mod_lt _ pF_pos), fp_sqC, fp_mod, fp_mul, fp_negm u (by omega)]
theorem sqR_lt (u v : Nat) : sqR u v < pF := by
  unfold sqR; refine absN_lt _ ?_; split
  · exact Nat.mod_lt _ pF_pos
  · exact sqRR_lt u v
theorem sqR_even (u v : Nat) : sqR u v % 2 = 0 := by
  unfold sqR; refine absN_even _ ?_; split
  · exact Nat.mod_lt _ pF_pos
  · exact sqRR_lt u v
theorem sqR_sq (u v : Nat) : fp (sqR u v) * fp (sqR u v) = if sqB u v then - (fp (sqRR u v) * fp (sqRR u v)) else fp (sqRR u v) * fp (sqRR u v) := by
  have hi := fi_sq
  unfold sqR
  split
  · rw [absN_sq _ (Nat.mod_lt _ pF_pos), fp_mod, fp_mul]; grind
  · rw [absN_sq _ (sqRR_lt u v)]
/-- v = 0 -/
theorem sqR_v0 (u : Nat) : sqR u 0 = 0 := by
  have h : sqRR u 0 = 0 := by unfold sqRR; simp
  unfold sqR; rw [h]; simp [absN_zero]
theorem sqC_v0 (u : Nat) : sqC u 0 = 0 := by unfold sqC; simp
theorem sqW_v0 (u : Nat) (hu : u < pF) : sqW u 0 = decide (u = 0) := by
  unfold sqW; rw [sqC_v0]
  rcases Nat.eq_zero_or_pos u with rfl | h
  · simp
  · have : (pF - u) % pF = pF - u := Nat.mod_eq_of_lt (by omega)
    rw [this]
    have h1 : ¬ 0 = u := by omega
    have h2 : ¬ 0 = pF - u := by omega
    have h3 : ¬ u = 0 := by omega
    simp [h1, h2, h3]
theorem sqC_u0 (v : Nat) : sqC 0 v = 0 := by
  have h : sqRR 0 v = 0 := by unfold sqRR; simp
  unfold sqC; rw [h]; simp
theorem sqW_u0 (v : Nat) : sqW 0 v = true := by unfold sqW; rw [sqC_u0]; simp
theorem w_fin1 {R2 r V U C c : Fp} (h1 : R2 = r) (h2 : C = V * r) (h3 : C = U * c) (h : c = 1) : R2 * V = U := by grind
theorem w_fin2 {R2 r V U C c : Fp} (h1 : R2 = -r) (h2 : C = V * r) (h3 : C = U * c) (h : c = -1) : R2 * V = U := by grind
theorem w_fin3 {R2 r V U C c i : Fp} (h1 : R2 = r) (h2 : C = V * r) (h3 : C = U * c) (h : c = i) : R2 * V = i * U := by grind
theorem w_fin4 {R2 r V U C c i : Fp} (h1 : R2 = -r) (h2 : C = V * r) (h3 : C = U * c) (h : c = -i) : R2 * V = i * U := by grind
theorem w_u1 {U c : Fp} (h : c = 1) : U * c = U := by grind
theorem w_u2 {U c : Fp} (h : c = -1) : U * c = -U := by grind
theorem w_u3 {U c i : Fp} (h : c = -i) : U * c = -U * i := by grind
theorem w_n {U c a : Fp} (hU : U ≠ 0) (hca : c ≠ a) : ¬ U * c = U * a := fun h => hca (fp_cancel hU h)
theorem w_sq1 {c : Fp} (h : c = 1) : c ^ 2 = 1 := by grind
theorem w_sq2 {c : Fp} (h : c = -1) : c ^ 2 = 1 := by grind
theorem w_sq3 {c i : Fp} (hi : i * i = -1) (h : c = i) : c ^ 2 = -1 := by grind
theorem w_sq4 {c i : Fp} (hi : i * i = -1) (h : c = -i) : c ^ 2 = -1 := by grind
theorem i_ne1 {i : Fp} (hi : i * i = -1) : i ≠ 1 := fun h => fp_neg_ne 1 fp_one_ne (by rw [h] at hi; grind)
theorem i_ne2 {i : Fp} (hi : i * i = -1) : i ≠ -1 := fun h => fp_neg_ne 1 fp_one_ne (by rw [h] at hi; grind)
theorem i_ne0 {i : Fp} (hi : i * i = -1) : i ≠ 0 := fun h => fp_one_ne (by
  have e : (1 : Fp) = - (i * i) := by rw [hi]; grind
  rw [e, h]; grind)
theorem ni_ne1 {i : Fp} (hi : i * i = -1) : -i ≠ 1 := fun h => i_ne2 hi (by grind)
theorem ni_ne2 {i : Fp} (hi : i * i = -1) : -i ≠ -1 := fun h => i_ne1 hi (by grind)
theorem w_m {U i : Fp} : - U * i = U * (-i) := by grind
theorem w_m1 {U : Fp} : - U = U * (-1) := by grind
theorem w_m2 {U : Fp} : U = U * 1 := by grind
/-- the four ways -/
theorem sq_ways (u v : Nat) (hu : u < pF) (hv : v < pF) (u0 : u ≠ 0) (v0 : v ≠ 0) :
    (sqW u v = true ∧ (sqz (fp u) (fp v) ^ (2 * eQ + 1)) ^ 2 = 1 ∧ fp (sqR u v) * fp (sqR u v) * fp v = fp u) ∨
    (sqW u v = false ∧ (sqz (fp u) (fp v) ^ (2 * eQ + 1)) ^ 2 = -1 ∧ fp (sqR u v) * fp (sqR u v) * fp v = fp iN * fp u) := by
  have hU : fp u ≠ 0 := fun h => u0 ((fp_zero_iff hu).2 h)
  have hV : fp v ≠ 0 := fun h => v0 ((fp_zero_iff hv).2 h)
  have hi := fi_sq
  have hz := z_ne hU hV
  have h4 : (sqz (fp u) (fp v) ^ (2 * eQ + 1)) ^ 4 = 1 := by
    unfold sqz; exact chi_four _ hz
  have hC := fp_sqC u v
  have hC' : fp (sqC u v) = fp v * (fp (sqRR u v) * fp (sqRR u v)) := by
    unfold sqC
    simp only [fp_mod, fp_mul]
  have k1 := sq_c1 u v hu
  have k2 := sq_c2 u v hu
  have k3 := sq_c3 u v hu
  have hsq := sqR_sq u v
  have n1 := fp_neg_ne 1 fp_one_ne
  have n2 := fp_neg_ne (fp u) hU
  generalize sqz (fp u) (fp v) ^ (2 * eQ + 1) = c at *
  have hi1 := i_ne1 hi
  have hi2 := i_ne2 hi
  have hi0 := i_ne0 hi
  have hn1 := ni_ne1 hi
  have hn2 := ni_ne2 hi
  generalize fp iN = I at *
  generalize fp u = U at *
  generalize fp v = V at *
  generalize fp (sqR u v) * fp (sqR u v) = R2 at *
  generalize fp (sqRR u v) * fp (sqRR u v) = r2 at *
  generalize fp (sqC u v) = CC at *
  unfold sqW
  unfold sqB at hsq
  clear hz hV u0 v0 hv hu
  rcases four_roots hi h4 with h | h | h | h
  · left
    have e1 : sqC u v = u := k1.2 (w_u1 h)
    have e2 : ¬ sqC u v = (pF - u) % pF := fun e => w_n hU (h ▸ n1) ((k2.1 e).trans w_m1)
    have e3 : ¬ sqC u v = (pF - u) % pF * iN % pF := fun e => w_n hU (h ▸ hn1.symm) ((k3.1 e).trans w_m)
    rw [decide_eq_false e2, decide_eq_false e3] at hsq
    rw [decide_eq_true e1]
    exact ⟨rfl, w_sq1 h, w_fin1 hsq hC' hC h⟩
  · left
    have e2 : sqC u v = (pF - u) % pF := k2.2 (w_u2 h)
    rw [decide_eq_true e2, Bool.true_or] at hsq
    rw [decide_eq_true e2, Bool.or_true]
    exact ⟨rfl, w_sq2 h, w_fin2 hsq hC' hC h⟩
  · right
    have e1 : ¬ sqC u v = u := fun e => w_n hU (h ▸ hi1) ((k1.1 e).trans w_m2)
    have e2 : ¬ sqC u v = (pF - u) % pF := fun e => w_n hU (h ▸ hi2) ((k2.1 e).trans w_m1)
    have e3 : ¬ sqC u v = (pF - u) % pF * iN % pF := fun e => w_n hU (h ▸ fp_neg_ne I hi0) ((k3.1 e).trans w_m)
    rw [decide_eq_false e2, decide_eq_false e3] at hsq
    rw [decide_eq_false e1, decide_eq_false e2]
    exact ⟨rfl, w_sq3 hi h, w_fin3 hsq hC' hC h⟩
  · right
    have e1 : ¬ sqC u v = u := fun e => w_n hU (h ▸ hn1) ((k1.1 e).trans w_m2)
    have e2 : ¬ sqC u v = (pF - u) % pF := fun e => w_n hU (h ▸ hn2) ((k2.1 e).trans w_m1)
    have e3 : sqC u v = (pF - u) % pF * iN % pF := k3.2 (w_u3 h)
    rw [decide_eq_true e3, Bool.or_true] at hsq
    rw [decide_eq_false e1, decide_eq_false e2]
    exact ⟨rfl, w_sq4 hi h, w_fin4 hsq hC' hC h⟩
/-- of u / v and 2 u / v just one is a square -/
theorem sq_two (u v : Nat) (hu : u < pF) (hv : v < pF) (u0 : u ≠ 0) (v0 : v ≠ 0) : sqW ((u + u) % pF) v = !sqW u v := by
  have hU : fp u ≠ 0 := fun h => u0 ((fp_zero_iff hu).2 h)
  have e2 : fp ((u + u) % pF) = 2 * fp u := by rw [fp_mod, fp_add]; grind
  have w0 : (u + u) % pF ≠ 0 := by
    intro h
    have : fp ((u + u) % pF) = 0 := by rw [h]; rfl
    rw [e2] at this
    rcases fp_nodiv this with h | h
    · exact fp_two_ne h
    · exact hU h
  have h1 := sq_ways u v hu hv u0 v0
  have h2 := sq_ways ((u + u) % pF) v (Nat.mod_lt _ pF_pos) hv w0 v0
  have ez : sqz (fp ((u + u) % pF)) (fp v) = 2 * sqz (fp u) (fp v) := by unfold sqz; rw [e2]; grind
  have n1 := fp_neg_ne 1 fp_one_ne
  have ht : ((2 : Fp) ^ (2 * eQ + 1)) ^ 2 = -1 := by rw [← fpow_mul, Nat.mul_comm]; exact two_non
  rw [ez, fmul_pow] at h2
  generalize sqz (fp u) (fp v) ^ (2 * eQ + 1) = c at *
  generalize (2 : Fp) ^ (2 * eQ + 1) = t at *
  rcases h1 with ⟨a1, a2, _⟩ | ⟨a1, a2, _⟩ <;> rcases h2 with ⟨b1, b2, _⟩ | ⟨b1, b2, _⟩
  · exfalso; exact n1 (by grind)
  · rw [a1, b1]; rfl
  · rw [a1, b1]; rfl
  · exfalso; exact n1 (by grind)
end Go.Proofs.YtmabidcocdflkaaDoor
