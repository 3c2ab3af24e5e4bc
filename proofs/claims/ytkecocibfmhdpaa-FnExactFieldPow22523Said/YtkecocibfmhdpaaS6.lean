/- The reference's bit. -/
import Derived.Test.YtkecocibfmhdpaaS5
set_option linter.unusedSimpArgs false
set_option linter.unusedVariables false
namespace Go.Proofs.Ytkecocibfmhdpaa
open Go.RowKit

theorem word_bit (a i : Nat) : wordN a (i / 64) / 2 ^ (i % 64) % 2 = a / 2 ^ i % 2 := by
  unfold wordN
  have e1 : (18446744073709551616 : Nat) = 2 ^ (i % 64) * 2 ^ (64 - i % 64) := by
    rw [← Nat.pow_add, show i % 64 + (64 - i % 64) = 64 by omega]
  have e2 : a / 18446744073709551616 ^ (i / 64) % 18446744073709551616 / 2 ^ (i % 64) = a / 18446744073709551616 ^ (i / 64) / 2 ^ (i % 64) % 2 ^ (64 - i % 64) := by
    generalize a / 18446744073709551616 ^ (i / 64) = A
    rw [e1, Nat.mod_mul_right_div_self]
  rw [e2, Nat.mod_mod_of_dvd _ (show 2 ∣ 2 ^ (64 - i % 64) from ⟨2 ^ (64 - i % 64 - 1), by rw [← Nat.pow_succ']; congr 1; omega⟩), Nat.div_div_eq_div_mul]
  congr 2
  rw [show (18446744073709551616 : Nat) = 2 ^ 64 from rfl, ← Nat.pow_mul, ← Nat.pow_add]
  congr 1; omega
theorem and_one (X s : Nat) (h : X < 18446744073709551616) : bits .and .u64 ((X : Int) / 2 ^ s) 1 = ((X / 2 ^ s % 2 : Nat) : Int) := by
  have e : (X : Int) / 2 ^ s = ((X / 2 ^ s : Nat) : Int) := by simp
  have hb : X / 2 ^ s < 18446744073709551616 := Nat.lt_of_le_of_lt (Nat.div_le_self _ _) h
  have := bits_and_u64_nat (X / 2 ^ s) 1 hb (by omega)
  rw [e]
  refine Eq.trans this ?_
  rw [Nat.and_one_is_mod]

set_option maxHeartbeats 1000000 in
theorem bit_any (a i : Nat) (hi : i < 256) (w : World) :
    Calls Try.prog 47 #[.agg (numC a), .int .i64 (i : Int)] w fun e w' => e = .returned (.bool (decide (a / 2 ^ i % 2 = 1))) ∧ Below w.heap.size w w' := by
  have hc := (Row.ofNum (heap_new w (.cells (numC a) 51))).cell (i := i / 64) (by omega)
  rw [Nat.zero_add] at hc
  unfold woV at hc
  have hb := wordN_lt a (i / 64)
  have hX := Lib.hid (word_bit a i)
  generalize wordN a (i / 64) = X at *
  obtain ⟨B, hB⟩ : ∃ B : Bool, B = decide (a / 2 ^ i % 2 = 1) := ⟨_, rfl⟩
  rw [← hB]
  have HB := Lib.hid hB; clear hB
  go_enter Try.func47, Try.ntmps47
  go_wp2
  go_ret
  refine ⟨?_, (Below.refl _ w).alloc (Nat.le_refl _) _⟩
  rw [HB.out, and_one X _ hb, hX.out]
  congr 2
  by_cases h : a / 2 ^ i % 2 = 1
  · simp [h]
  · have : a / 2 ^ i % 2 = 0 := by omega
    simp [this]
theorem bit_true (a i : Nat) (hi : i < 256) (h : a / 2 ^ i % 2 = 1) (w : World) : Calls Try.prog 47 #[.agg (numC a), .int .i64 (i : Int)] w fun e w' => e = .returned (.bool true) ∧ Below w.heap.size w w' :=
  (bit_any a i hi w).mono fun e w' ⟨he, hB⟩ => ⟨by rw [he]; simp [h], hB⟩
theorem bit_false (a i : Nat) (hi : i < 256) (h : ¬ a / 2 ^ i % 2 = 1) (w : World) : Calls Try.prog 47 #[.agg (numC a), .int .i64 (i : Int)] w fun e w' => e = .returned (.bool false) ∧ Below w.heap.size w w' :=
  (bit_any a i hi w).mono fun e w' ⟨he, hB⟩ => ⟨by rw [he]; simp [h], hB⟩
end Go.Proofs.Ytkecocibfmhdpaa
