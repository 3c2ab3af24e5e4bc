/- Primes: Fermat, Pocklington, and that 2^255 - 19 is one. No program in sight. -/
set_option linter.unusedSimpArgs false
set_option linter.unusedVariables false
namespace Go.Proofs.YtmabidcocdflkaaDoor
namespace Pm

def Pr (t : Nat) : Prop := 2 ≤ t ∧ ∀ d, d ∣ t → d = 1 ∨ d = t

theorem Pr.euclid {t a b : Nat} (h : Pr t) (hd : t ∣ a * b) : t ∣ a ∨ t ∣ b := by
  rcases h.2 (Nat.gcd t a) (Nat.gcd_dvd_left t a) with h1 | h1
  · exact Or.inr (Nat.Coprime.dvd_of_dvd_mul_left h1 hd)
  · exact Or.inl (by rw [← h1]; exact Nat.gcd_dvd_right t a)

/-- binomial coefficients -/
def ch : Nat → Nat → Nat
  | _, 0 => 1
  | 0, _ + 1 => 0
  | n + 1, k + 1 => ch n k + ch n (k + 1)
theorem ch_big : ∀ n k, n < k → ch n k = 0
  | 0, 0, h => by omega
  | 0, _ + 1, _ => rfl
  | n + 1, 0, h => by omega
  | n + 1, k + 1, h => by rw [ch, ch_big n k (by omega), ch_big n (k + 1) (by omega)]
theorem ch_self : ∀ n, ch n n = 1
  | 0 => rfl
  | n + 1 => by rw [ch, ch_self n, ch_big n (n + 1) (by omega)]
theorem ch_zero (n : Nat) : ch n 0 = 1 := by cases n <;> rfl
theorem ch_absorb : ∀ n k, (k + 1) * ch (n + 1) (k + 1) = (n + 1) * ch n k
  | 0, 0 => rfl
  | 0, k + 1 => by simp [ch]
  | n + 1, 0 => by
    have h := ch_absorb n 0
    rw [ch_zero] at h ⊢
    rw [ch, ch_zero]
    omega
  | n + 1, k + 1 => by
    have h1 := ch_absorb n k
    have h2 := ch_absorb n (k + 1)
    rw [ch]
    have e : ch (n + 1) (k + 1) = ch n k + ch n (k + 1) := rfl
    grind

/-- Σ k < m, C(n, k) a^k -/
def bs (a n : Nat) : Nat → Nat
  | 0 => 0
  | m + 1 => bs a n m + ch n m * a ^ m
theorem bs_step (a n : Nat) : ∀ m, bs a (n + 1) (m + 1) = bs a n (m + 1) + a * bs a n m
  | 0 => by simp [bs, ch_zero]
  | m + 1 => by
    have ih := bs_step a n m
    rw [bs, ih]
    have e : ch (n + 1) (m + 1) = ch n m + ch n (m + 1) := rfl
    have e1 : bs a n (m + 1 + 1) = bs a n (m + 1) + ch n (m + 1) * a ^ (m + 1) := rfl
    have e2 : bs a n (m + 1) = bs a n m + ch n m * a ^ m := rfl
    rw [e, e1, e2, Nat.pow_succ]
    grind
theorem bs_all (a : Nat) : ∀ n, bs a n (n + 1) = (a + 1) ^ n
  | 0 => by simp [bs, ch]
  | n + 1 => by
    have ih := bs_all a n
    have e1 : bs a n (n + 1 + 1) = bs a n (n + 1) + ch n (n + 1) * a ^ (n + 1) := rfl
    rw [bs_step, e1, ch_big n (n + 1) (by omega), ih, Nat.pow_succ]
    grind

theorem ch_dvd {t : Nat} (h : Pr t) (k : Nat) (h0 : 0 < k) (h1 : k < t) : t ∣ ch t k := by
  obtain ⟨n, rfl⟩ : ∃ n, t = n + 1 := ⟨t - 1, by have := h.1; omega⟩
  obtain ⟨j, rfl⟩ : ∃ j, k = j + 1 := ⟨k - 1, by omega⟩
  have := ch_absorb n j
  rcases h.euclid (a := j + 1) (b := ch (n + 1) (j + 1)) ⟨ch n j, this⟩ with h2 | h2
  · exact absurd (Nat.le_of_dvd (by omega) h2) (by omega)
  · exact h2
theorem bs_mod {t : Nat} (h : Pr t) (a : Nat) : ∀ m, m < t → bs a t (m + 1) % t = 1 % t
  | 0, _ => by simp [bs, ch_zero]
  | m + 1, hm => by
    rw [bs, Nat.add_mod, bs_mod h a m (by omega)]
    obtain ⟨c, hc⟩ := ch_dvd h (m + 1) (by omega) hm
    rw [hc, Nat.mul_assoc, Nat.mul_mod_right, Nat.add_zero, Nat.mod_mod]
theorem frob {t : Nat} (h : Pr t) (a : Nat) : (a + 1) ^ t % t = (a ^ t + 1) % t := by
  rw [← bs_all, bs, ch_self, Nat.one_mul]
  obtain ⟨n, rfl⟩ : ∃ n, t = n + 1 := ⟨t - 1, by have := h.1; omega⟩
  rw [Nat.add_mod, bs_mod h a n (by omega), ← Nat.add_mod, Nat.add_comm]
theorem little {t : Nat} (h : Pr t) : ∀ a, a ^ t % t = a % t
  | 0 => by have := h.1; rw [Nat.zero_pow (by omega)]
  | a + 1 => by rw [frob h a, Nat.add_mod, little h a, ← Nat.add_mod]
theorem mod_dvd {a b n : Nat} (h : b ≤ a) : a % n = b % n ↔ n ∣ a - b := by
  constructor
  · intro e; exact Nat.dvd_of_mod_eq_zero (Nat.sub_mod_eq_zero_of_mod_eq e)
  · rintro ⟨c, hc⟩
    rw [show a = b + n * c by omega, Nat.add_mul_mod_self_left]
/-- Fermat's little theorem -/
theorem fermat {t : Nat} (h : Pr t) (a : Nat) (ha : ¬ t ∣ a) : a ^ (t - 1) % t = 1 % t := by
  have ht := h.1
  have h0 : 0 < a := by rcases Nat.eq_zero_or_pos a with rfl | h; exact absurd (Nat.dvd_zero t) ha; exact h
  have e : a ^ t = a * a ^ (t - 1) := by rw [← Nat.pow_succ']; congr 1; omega
  have hp : 1 ≤ a ^ (t - 1) := Nat.pow_pos h0
  have hl : a ≤ a ^ t := by rw [e]; exact Nat.le_mul_of_pos_right a hp
  have h1 := (mod_dvd hl).1 (little h a)
  rw [e, show a * a ^ (t - 1) - a = a * (a ^ (t - 1) - 1) by rw [Nat.mul_sub, Nat.mul_one]] at h1
  rcases h.euclid h1 with h2 | h2
  · exact absurd h2 ha
  · exact (mod_dvd hp).2 h2

/-- a power of b that is 1 for two exponents is 1 for their greatest common divisor -/
theorem pow_one_mod {t b m : Nat} (h : b ^ m % t = 1 % t) (k : Nat) : b ^ (m * k) % t = 1 % t := by
  rw [Nat.pow_mul, Nat.pow_mod, h, ← Nat.pow_mod, Nat.one_pow]
theorem order_gcd {t b : Nat} : ∀ (s m n : Nat), m ≤ s → b ^ m % t = 1 % t → b ^ n % t = 1 % t → b ^ (Nat.gcd m n) % t = 1 % t
  | 0, m, n, hs, h1, h2 => by
    obtain rfl : m = 0 := by omega
    rw [Nat.gcd_zero_left]; exact h2
  | s + 1, 0, n, hs, h1, h2 => by rw [Nat.gcd_zero_left]; exact h2
  | s + 1, m + 1, n, hs, h1, h2 => by
    rw [Nat.gcd_rec]
    refine order_gcd s (n % (m + 1)) (m + 1) ?_ ?_ h1
    · have := Nat.mod_lt n (show 0 < m + 1 by omega); omega
    · have e : b ^ n = b ^ ((m + 1) * (n / (m + 1))) * b ^ (n % (m + 1)) := by
        rw [← Nat.pow_add, Nat.div_add_mod]
      rw [e, Nat.mul_mod, pow_one_mod h1, ← Nat.mul_mod, Nat.one_mul] at h2
      exact h2

/-- every number from 2 on has a prime divisor -/
theorem has_prime : ∀ (s n : Nat), n ≤ s → 2 ≤ n → ∃ t, Pr t ∧ t ∣ n
  | 0, n, h, h2 => by omega
  | s + 1, n, h, h2 => by
    by_cases hp : Pr n
    · exact ⟨n, hp, Nat.dvd_refl n⟩
    · have : ∃ d, d ∣ n ∧ ¬ (d = 1 ∨ d = n) := by
        refine Classical.byContradiction fun hn => hp ⟨h2, fun d hd => ?_⟩
        exact Classical.byContradiction fun h3 => hn ⟨d, hd, h3⟩
      obtain ⟨d, hd, h1⟩ := this
      have hle := Nat.le_of_dvd (by omega) hd
      have h0 : d ≠ 0 := by rintro rfl; have := Nat.eq_zero_of_zero_dvd hd; omega
      obtain ⟨t, ht, htd⟩ := has_prime s d (by omega) (by omega)
      exact ⟨t, ht, Nat.dvd_trans htd hd⟩

/-- Pocklington's step: of a prime q with n - 1 = q * c, every prime divisor of n is 1 modulo q -/
theorem pock {n q c a t : Nat} (hq : Pr q) (hn : n = q * c + 1) (h1 : a ^ (q * c) % n = 1) (hg : Nat.gcd (a ^ c % n + (n - 1)) n = 1) (ht : Pr t) (hd : t ∣ n) : q ∣ t - 1 := by
  obtain ⟨m, hm⟩ := hd
  have t2 := ht.1
  have hm1 : a ^ (q * c) % t = 1 % t := by
    have : a ^ (q * c) % n % t = 1 % t := by rw [h1]
    rw [hm, Nat.mod_mul_right_mod] at this
    exact this
  have hta : ¬ t ∣ a ^ c := by
    rintro ⟨z, hz⟩
    have hqz : q ≠ 0 := by have := hq.1; omega
    rw [Nat.mul_comm q c, Nat.pow_mul, hz, Nat.mul_pow, show q = (q - 1) + 1 by have := hq.1; omega, Nat.pow_succ, Nat.mul_comm (t ^ (q - 1)) t, Nat.mul_assoc, Nat.mul_mod_right] at hm1
    rw [Nat.mod_eq_of_lt (by omega)] at hm1
    omega
  have hf := fermat ht (a ^ c) hta
  have hb : (a ^ c) ^ q % t = 1 % t := by rw [← Nat.pow_mul, Nat.mul_comm c q]; exact hm1
  have hG := order_gcd q q (t - 1) (Nat.le_refl _) hb hf
  rcases hq.2 (Nat.gcd q (t - 1)) (Nat.gcd_dvd_left _ _) with h | h
  · exfalso
    rw [h, Nat.pow_one] at hG
    -- t divides a^c - 1, so t divides the gcd
    have : t ∣ Nat.gcd (a ^ c % n + (n - 1)) n := by
      refine Nat.dvd_gcd ?_ ⟨m, hm⟩
      refine Nat.dvd_of_mod_eq_zero ?_
      have e1 : a ^ c % n % t = 1 % t := by rw [hm, Nat.mod_mul_right_mod]; exact hG
      have n1 : 1 ≤ n := by omega
      rw [Nat.add_mod, e1, ← Nat.add_mod, show 1 + (n - 1) = n by omega, hm, Nat.mul_mod_right]
    rw [hg] at this
    have := Nat.le_of_dvd (by omega) this
    omega
  · rw [← h]; exact Nat.gcd_dvd_right _ _

/-- a number without a prime divisor up to its root is prime -/
theorem prime_of {n B : Nat} (h2 : 2 ≤ n) (hB : n < B * B) (h : ∀ t, Pr t → t ∣ n → B ≤ t) : Pr n := by
  obtain ⟨t, ht, hd⟩ := has_prime n n (Nat.le_refl _) h2
  obtain ⟨m, hm⟩ := hd
  have hBt := h t ht ⟨m, hm⟩
  rcases Nat.lt_or_ge m 2 with hm2 | hm2
  · have : m = 1 := by
      rcases Nat.eq_zero_or_pos m with h0 | h0
      · rw [h0] at hm; omega
      · omega
    rw [this, Nat.mul_one] at hm
    rw [hm]; exact ht
  · obtain ⟨s, hs, hsm⟩ := has_prime m m (Nat.le_refl _) hm2
    have hBs := h s hs (by rw [hm]; exact Nat.dvd_mul_left_of_dvd hsm t)
    have hsm' := Nat.le_of_dvd (by omega) hsm
    exfalso
    have h5 : B * B ≤ t * m := Nat.mul_le_mul hBt (Nat.le_trans hBs hsm')
    omega

/-- powers modulo n by squaring, the exponent's bits from the lowest -/
def pw (n : Nat) : Nat → Nat → Nat → Nat → Nat
  | 0, _, _, r => r
  | f + 1, b, e, r => pw n f (b * b % n) (e / 2) (if e % 2 = 1 then r * b % n else r)
theorem pw_eq (n : Nat) : ∀ f b e r, e < 2 ^ f → pw n f b e r % n = r * b ^ e % n
  | 0, b, e, r, h => by
    obtain rfl : e = 0 := by simpa using h
    simp [pw]
  | f + 1, b, e, r, h => by
    rw [pw, pw_eq n f _ _ _ (by rw [Nat.pow_succ] at h; omega)]
    have e1 : (b * b % n) ^ (e / 2) % n = b ^ (2 * (e / 2)) % n := by
      rw [← Nat.pow_mod, Nat.pow_mul, Nat.pow_two]
    split
    · rename_i h1
      have e2 : e = 2 * (e / 2) + 1 := by omega
      rw [Nat.mul_mod, e1, Nat.mod_mod, ← Nat.mul_mod]
      conv => rhs; rw [e2, Nat.pow_succ]
      rw [Nat.mul_assoc, Nat.mul_comm b]
    · rename_i h1
      have e2 : e = 2 * (e / 2) := by omega
      rw [Nat.mul_mod, e1, ← Nat.mul_mod]
      conv => rhs; rw [e2]

theorem pw_pow {n f b e r : Nat} (h : pw n f b e 1 % n = r) (he : e < 2 ^ f) : b ^ e % n = r := by
  rw [← h, pw_eq n f b e 1 he, Nat.one_mul]
/-- a small prime, by trial -/
theorem small_prime {n B : Nat} (h2 : 2 ≤ n) (hB : n < B * B) (h : ∀ t, t < B → t < 2 ∨ n % t ≠ 0) : Pr n := by
  refine prime_of h2 hB fun t ht hd => ?_
  rcases Nat.lt_or_ge t B with hlt | hge
  · rcases h t hlt with h1 | h1
    · have := ht.1; omega
    · exact absurd (Nat.mod_eq_zero_of_dvd hd) h1
  · exact hge
theorem pock1 {n q c a x : Nat} (f : Nat) (hq : Pr q) (hn : n = q * c + 1) (h1 : pw n f a (q * c) 1 % n = 1) (hx : pw n f a c 1 % n = x) (hg : Nat.gcd (x + (n - 1)) n = 1) (hf1 : q * c < 2 ^ f) (hf2 : c < 2 ^ f) {t : Nat} (ht : Pr t) (hd : t ∣ n) : q ∣ t - 1 :=
  pock hq hn (pw_pow h1 hf1) (by rw [pw_pow hx hf2]; exact hg) ht hd
theorem two_dvd {q r m : Nat} (h : Nat.gcd q r = 1) (h1 : q ∣ m) (h2 : r ∣ m) : q * r ∣ m := Nat.Coprime.mul_dvd_of_dvd_of_dvd h h1 h2
theorem lt_of_dvd_pred {F t : Nat} (ht : Pr t) (h : F ∣ t - 1) : F + 1 ≤ t := by
  have := ht.1
  have := Nat.le_of_dvd (by omega) h
  omega
theorem pr_127 : Pr 127 := small_prime (B := 12) (by decide +kernel) (by decide +kernel) (by decide +kernel)
theorem pr_353 : Pr 353 := small_prime (B := 19) (by decide +kernel) (by decide +kernel) (by decide +kernel)
theorem pr_75707 : Pr 75707 := small_prime (B := 276) (by decide +kernel) (by decide +kernel) (by decide +kernel)
theorem pr_103 : Pr 103 := small_prime (B := 11) (by decide +kernel) (by decide +kernel) (by decide +kernel)
theorem pr_991 : Pr 991 := small_prime (B := 32) (by decide +kernel) (by decide +kernel) (by decide +kernel)
theorem pr_8574133 : Pr 8574133 := prime_of (B := 102074) (by decide +kernel) (by decide +kernel) fun t ht hd =>
  lt_of_dvd_pred (F := 103 * 991) ht (two_dvd (by decide +kernel) (pock1 (a := 2) (c := 83244) (x := 4321357) 256 pr_103 (by decide +kernel) (by decide +kernel) (by decide +kernel) (by decide +kernel) (by decide +kernel) (by decide +kernel) ht hd) (pock1 (a := 2) (c := 8652) (x := 3435729) 256 pr_991 (by decide +kernel) (by decide +kernel) (by decide +kernel) (by decide +kernel) (by decide +kernel) (by decide +kernel) ht hd))
theorem pr_s : Pr 1919519569386763 := prime_of (B := 1088914892) (by decide +kernel) (by decide +kernel) fun t ht hd =>
  lt_of_dvd_pred (F := 127 * 8574133) ht (two_dvd (by decide +kernel) (pock1 (a := 2) (c := 15114327318006) (x := 576774792492622) 256 pr_127 (by decide +kernel) (by decide +kernel) (by decide +kernel) (by decide +kernel) (by decide +kernel) (by decide +kernel) ht hd) (pock1 (a := 2) (c := 223873314) (x := 1059928654987441) 256 pr_8574133 (by decide +kernel) (by decide +kernel) (by decide +kernel) (by decide +kernel) (by decide +kernel) (by decide +kernel) ht hd))
theorem pr_r : Pr 75445702479781427272750846543864801 := prime_of (B := 145321068039563666442) (by decide +kernel) (by decide +kernel) fun t ht hd =>
  lt_of_dvd_pred (F := 75707 * 1919519569386763) ht (two_dvd (by decide +kernel) (pock1 (a := 2) (c := 996548568557483816196003626400) (x := 58781699294900834553279248901967638) 256 pr_75707 (by decide +kernel) (by decide +kernel) (by decide +kernel) (by decide +kernel) (by decide +kernel) (by decide +kernel) ht hd) (pock1 (a := 2) (c := 39304471641247389600) (x := 56747016255153332959347766392083459) 256 pr_s (by decide +kernel) (by decide +kernel) (by decide +kernel) (by decide +kernel) (by decide +kernel) (by decide +kernel) ht hd))
theorem pr_q : Pr 74058212732561358302231226437062788676166966415465897661863160754340907 := prime_of (B := 26632332975362843827281048829984274754) (by decide +kernel) (by decide +kernel) fun t ht hd =>
  lt_of_dvd_pred (F := 353 * 75445702479781427272750846543864801) ht (two_dvd (by decide +kernel) (pock1 (a := 2) (c := 209796636636151156663544550813209033076960244803019540118592523383402) (x := 8562916886866218785688304546164188478888058893729309188831496247839076) 256 pr_353 (by decide +kernel) (by decide +kernel) (by decide +kernel) (by decide +kernel) (by decide +kernel) (by decide +kernel) ht hd) (pock1 (a := 2) (c := 981609426360740691344999861639072106) (x := 69490809710348678725736597923071784769591275419387514694139338586948360) 256 pr_r (by decide +kernel) (by decide +kernel) (by decide +kernel) (by decide +kernel) (by decide +kernel) (by decide +kernel) ht hd))
theorem pr_p : Pr 57896044618658097711785492504343953926634992332820282019728792003956564819949 := prime_of (B := 74058212732561358302231226437062788676166966415465897661863160754340908) (by decide +kernel) (by decide +kernel) fun t ht hd =>
  lt_of_dvd_pred (F := 74058212732561358302231226437062788676166966415465897661863160754340907) ht (pock1 (a := 2) (c := 781764) (x := 427094198651976259540344842774561673889945192655078505504941250475370961481) 256 pr_q (by decide +kernel) (by decide +kernel) (by decide +kernel) (by decide +kernel) (by decide +kernel) (by decide +kernel) ht hd)
end Pm

end Go.Proofs.YtmabidcocdflkaaDoor
