/- The reference's bit. -/
import Derived.Test.YtfkodiefldljgaaDoorS5
namespace Go.Proofs.YtfkodiefldljgaaDoor
open Go.RowKit

theorem word_bit (a i : Nat) : wordN a (i / 64) / 2 ^ (i % 64) % 2 = a / 2 ^ i % 2 := by
  unfold wordN
  have e1 : (18446744073709551616 : Nat) = 2 ^ (i % 64) * 2 ^ (64 - i % 64) := by
    rw [← Nat.pow_add, show i % 64 + (64 - i % 64) = 64 by omega]
  have e2 : a / 18446744073709551616 ^ (i / 64) % 18446744073709551616 / 2 ^ (i % 64) = a / 18446744073709551616 ^ (i / 64) / 2 ^ (i % 64) % 2 ^ (64 - i % 64) := by
    generalize a / 18446744073709551616 ^ (i / 64) = A
    rw [e1, Nat.mod_mul_right_div_self]
  rw [e2, Nat.mod_mod_of_dvd _ (show 2 ∣ 2 ^ (64 - i % 64) from ⟨2 ^ (64 - i % 64 - 1), by rw [← Nat.pow_succ']; congr 1; omega⟩), Nat.div_div_eq_div_mul]
  congr 2
  rw [show (18446744073709551616 : Nat) = 2 ^ 64 from rfl, ← Nat.pow_mul, ← Nat.pow_add]
  congr 1; omega
theorem and_one (X s : Nat) (h : X < 18446744073709551616) : bits .and .u64 ((X : Int) / 2 ^ s) 1 = ((X / 2 ^ s % 2 : Nat) : Int) := by
  have e : (X : Int) / 2 ^ s = ((X / 2 ^ s : Nat) : Int) := by simp
  have hb : X / 2 ^ s < 18446744073709551616 := Nat.lt_of_le_of_lt (Nat.div_le_self _ _) h
  have := bits_and_u64_nat (X / 2 ^ s) 1 hb (by omega)
  rw [e]
  refine Eq.trans this ?_
  rw [Nat.and_one_is_mod]

end Go.Proofs.YtfkodiefldljgaaDoor
