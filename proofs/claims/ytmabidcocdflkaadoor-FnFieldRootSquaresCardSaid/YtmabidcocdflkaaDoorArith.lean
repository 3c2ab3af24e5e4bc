/- Plain arithmetic of limbs and bytes. No program in sight. -/
import Derived.Test.YtmabidcocdflkaaDoorBase
import Derived.Laws.Bits64b
set_option linter.unusedSimpArgs false
set_option linter.unusedVariables false
namespace Go.Proofs.YtmabidcocdflkaaDoor
open Go.RowKit

def D51 : Nat := 2251799813685248

/-- every limb fits in a word -/
def W64 (L : L5) : Prop := L.l0 < 18446744073709551616 ∧ L.l1 < 18446744073709551616 ∧ L.l2 < 18446744073709551616 ∧ L.l3 < 18446744073709551616 ∧ L.l4 < 18446744073709551616

def cpL (L : L5) : L5 :=
  ⟨L.l0 % 2251799813685248 + 19 * (L.l4 / 2251799813685248), L.l1 % 2251799813685248 + L.l0 / 2251799813685248, L.l2 % 2251799813685248 + L.l1 / 2251799813685248,
    L.l3 % 2251799813685248 + L.l2 / 2251799813685248, L.l4 % 2251799813685248 + L.l3 / 2251799813685248⟩

theorem cpL_val (L : L5) : val5 (cpL L) + pF * (L.l4 / 2251799813685248) = val5 L := by
  unfold val5 cpL pF
  simp only
  omega

theorem cpL_bd (L : L5) (h : W64 L) : Bd (cpL L) := by
  unfold W64 at h
  unfold Bd cpL
  simp only
  omega

theorem cpL_mod (L : L5) : val5 (cpL L) % pF = val5 L % pF := by
  rw [← cpL_val L, Nat.add_mul_mod_self_left]

def addL (a b : L5) : L5 := ⟨a.l0 + b.l0, a.l1 + b.l1, a.l2 + b.l2, a.l3 + b.l3, a.l4 + b.l4⟩
theorem addL_val (a b : L5) : val5 (addL a b) = val5 a + val5 b := by unfold val5 addL; simp only; omega
theorem addL_w (a b : L5) (ha : Bd a) (hb : Bd b) : W64 (addL a b) := by unfold Bd at ha hb; unfold W64 addL; simp only; omega

def subL (a b : L5) : L5 := ⟨a.l0 + 4503599627370458 - b.l0, a.l1 + 4503599627370494 - b.l1, a.l2 + 4503599627370494 - b.l2, a.l3 + 4503599627370494 - b.l3, a.l4 + 4503599627370494 - b.l4⟩
theorem subL_val (a b : L5) (hb : Bd b) : val5 (subL a b) + val5 b = val5 a + 2 * pF := by
  unfold Bd at hb
  unfold val5 subL pF
  simp only
  omega
theorem subL_w (a b : L5) (ha : Bd a) : W64 (subL a b) := by unfold Bd at ha; unfold W64 subL; simp only; omega

theorem pF_pos : 0 < pF := by unfold pF; omega

theorem sub_mod (s a b : Nat) (h : s + b = a + 2 * pF) : s % pF = (a % pF + (pF - b % pF)) % pF := by
  have h1 : (a % pF + (pF - b % pF)) % pF = (a + (pF - b % pF)) % pF := by rw [Nat.add_mod, Nat.mod_mod, ← Nat.add_mod]
  rw [h1]
  have hb := Nat.mod_add_div b pF
  have hlt := Nat.mod_lt b pF_pos
  -- s = a + 2p - b = a + (p - b%p) + p - p * (b / p)
  have e : s + pF * (b / pF) = (a + (pF - b % pF)) + pF * 1 := by
    generalize pF * (b / pF) = q at *
    omega
  have e2 : (s + pF * (b / pF)) % pF = s % pF := Nat.add_mul_mod_self_left _ _ _
  rw [← e2, e, Nat.add_mul_mod_self_left]

/-- the mask of 51 bits -/
theorem mask51 (a : Nat) (ha : a < 18446744073709551616) : bits .and .u64 (a : Int) 2251799813685247 = ((a % 2251799813685248 : Nat) : Int) := by
  have h := bits_and_u64_nat a 2251799813685247 ha (by omega)
  have e : a &&& 2251799813685247 = a % 2251799813685248 := Nat.and_two_pow_sub_one_eq_mod a 51
  rw [e] at h
  exact h

theorem div51 (a : Nat) : (a : Int) / 2251799813685248 = ((a / 2251799813685248 : Nat) : Int) := by omega
theorem wrap_nat (a : Nat) (ha : a < 18446744073709551616) : IntKind.u64.wrap (a : Int) = (a : Int) := by rw [IntKind.wrap_u64]; omega
theorem wrap_natM (a : Nat) : IntKind.u64.wrap (a : Int) = ((a % 18446744073709551616 : Nat) : Int) := by rw [IntKind.wrap_u64]; omega

theorem cp_word (a b : Nat) (ha : a < 18446744073709551616) (hb : b < 18446744073709551616) :
    IntKind.u64.wrap (bits .and .u64 (a : Int) 2251799813685247 + (b : Int) / 2251799813685248) = ((a % 2251799813685248 + b / 2251799813685248 : Nat) : Int) := by
  rw [mask51 a ha, div51, ← Int.natCast_add, wrap_nat _ (by omega)]
theorem cp_word19 (a b : Nat) (ha : a < 18446744073709551616) (hb : b < 18446744073709551616) :
    IntKind.u64.wrap (bits .and .u64 (a : Int) 2251799813685247 + 19 * ((b : Int) / 2251799813685248)) = ((a % 2251799813685248 + 19 * (b / 2251799813685248) : Nat) : Int) := by
  rw [mask51 a ha, show (19 : Int) * ((b : Int) / 2251799813685248) = ((19 * (b / 2251799813685248) : Nat) : Int) by omega, ← Int.natCast_add, wrap_nat _ (by omega)]

theorem limbs_eq (L : L5) (f : Nat → Value) (h0 : f 0 = .int .u64 (L.l0 : Int)) (h1 : f 1 = .int .u64 (L.l1 : Int)) (h2 : f 2 = .int .u64 (L.l2 : Int)) (h3 : f 3 = .int .u64 (L.l3 : Int)) (h4 : f 4 = .int .u64 (L.l4 : Int)) :
    ∀ i, i < 5 → limbV L i = f i := by
  intro i hi
  have : i = 0 ∨ i = 1 ∨ i = 2 ∨ i = 3 ∨ i = 4 := by omega
  rcases this with rfl | rfl | rfl | rfl | rfl
  · rw [h0]; rfl
  · rw [h1]; rfl
  · rw [h2]; rfl
  · rw [h3]; rfl
  · rw [h4]; rfl

/-- five stores, in whatever order they came -/
theorem Wr.five {w w' : World} {b off : Nat} {vs : Nat → Value} {L : L5} (h : Wr w w' b off 5 vs) (h0 : vs 0 = .int .u64 (L.l0 : Int)) (h1 : vs 1 = .int .u64 (L.l1 : Int)) (h2 : vs 2 = .int .u64 (L.l2 : Int)) (h3 : vs 3 = .int .u64 (L.l3 : Int)) (h4 : vs 4 = .int .u64 (L.l4 : Int)) :
    Wr w w' b off 5 (limbV L) := h.congr (limbs_eq L vs h0 h1 h2 h3 h4)
theorem u64_eq {a b : Int} (h : a = b) : Value.int .u64 a = .int .u64 b := by rw [h]

/-- byte i of a number -/
def byteN (N i : Nat) : Nat := N / 256 ^ i % 256
theorem byteN_lt (N i : Nat) : byteN N i < 256 := Nat.mod_lt _ (by omega)
theorem byteN_shift (N m i : Nat) : byteN N (m + i) = byteN (N / 256 ^ m) i := by
  unfold byteN
  rw [Nat.pow_add, Nat.div_div_eq_div_mul]
theorem byteN_mod (N n i : Nat) (h : i < n) : byteN (N % 256 ^ n) i = byteN N i := by
  unfold byteN
  have e : (256 : Nat) ^ n = 256 ^ i * 256 ^ (n - i) := by rw [← Nat.pow_add]; congr 1; omega
  rw [e, Nat.mod_mul_right_div_self]
  have e2 : (256 : Nat) ^ (n - i) = 256 * 256 ^ (n - i - 1) := by rw [← Nat.pow_succ']; congr 1; omega
  rw [e2, Nat.mod_mul_right_mod]

/-- the bytes of a number as cells -/
def byV (N : Nat) (i : Nat) : Value := .int .u8 ((byteN N i : Nat) : Int)

/-- [32]byte as a value -/
def arrV (N : Nat) : Value := .agg ((List.range 32).map (byV N)).toArray

theorem or256 (x b : Nat) (hx : x < 72057594037927936) (hb : b < 256) : bits .or .u64 ((x * 256 : Nat) : Int) (b : Int) = ((x * 256 + b : Nat) : Int) := by
  have h := bits_or_u64_nat (x * 256) b (by omega) (by omega)
  have e : x * 256 ||| b = x * 256 + b := by
    have := Nat.shiftLeft_add_eq_or_of_lt (i := 8) (b := b) hb x
    rw [Nat.shiftLeft_eq] at this
    exact this.symm
  rw [e] at h
  exact h

theorem le_step (N k : Nat) (hk : k < 8) : N % 18446744073709551616 / 256 ^ (k + 1) * 256 + byteN N k = N % 18446744073709551616 / 256 ^ k := by
  have e : byteN N k = N % 18446744073709551616 / 256 ^ k % 256 := by
    have := byteN_mod N 8 k hk
    rw [← this]
    rfl
  rw [e, Nat.pow_succ, ← Nat.div_div_eq_div_mul]
  omega

theorem le_small (N k : Nat) (hk : 1 ≤ k) : N % 18446744073709551616 / 256 ^ k < 72057594037927936 := by
  have e : (256 : Nat) ^ k = 256 * 256 ^ (k - 1) := by rw [← Nat.pow_succ']; congr 1; omega
  rw [e, ← Nat.div_div_eq_div_mul]
  exact Nat.lt_of_le_of_lt (Nat.div_le_self _ _) (by omega)
end Go.Proofs.YtmabidcocdflkaaDoor
