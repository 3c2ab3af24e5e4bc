/- The reference's numbers: times, power. -/
import Derived.Test.YtfkodiefldljgaaDoorS6
namespace Go.Proofs.YtfkodiefldljgaaDoor
open Go.RowKit

theorem plus_to (a b m r : Nat) (hr : Hid (r = (a + b) % m)) (ha : a < m) (hb : b < m) (hm : m < 57896044618658097711785492504343953926634992332820282019728792003956564819968) (w : World) :
    Calls Tryd.prog 45 #[.agg (numC a), .agg (numC b), .agg (numC m)] w fun e w' => e = .returned (.agg (numC r)) ∧ Below w.heap.size w w' := by
  rw [hr.out]; exact plus_any a b m ha hb hm w
theorem minus_to (a b m r : Nat) (hr : Hid (r = (a + (m - b)) % m)) (ha : a < m) (hb : b < m) (hm : m < 57896044618658097711785492504343953926634992332820282019728792003956564819968) (w : World) :
    Calls Tryd.prog 36 #[.agg (numC a), .agg (numC b), .agg (numC m)] w fun e w' => e = .returned (.agg (numC r)) ∧ Below w.heap.size w w' := by
  rw [hr.out]; exact minus_any a b m ha hb hm w
theorem half_step (b k : Nat) : b / 2 ^ k = 2 * (b / 2 ^ (k + 1)) + b / 2 ^ k % 2 := by
  rw [Nat.pow_succ, ← Nat.div_div_eq_div_mul]; omega
theorem times_step0 (a b m k : Nat) (h : ¬ b / 2 ^ k % 2 = 1) : (a * (b / 2 ^ (k + 1)) % m + a * (b / 2 ^ (k + 1)) % m) % m = a * (b / 2 ^ k) % m := by
  rw [← Nat.add_mod, ← Nat.mul_add, half_step b k, show b / 2 ^ k % 2 = 0 by omega]
  congr 2; omega
theorem times_step1 (a b m k : Nat) (h : b / 2 ^ k % 2 = 1) : ((a * (b / 2 ^ (k + 1)) % m + a * (b / 2 ^ (k + 1)) % m) % m + a) % m = a * (b / 2 ^ k) % m := by
  rw [← Nat.add_mod, ← Nat.mul_add, Nat.mod_add_mod, half_step b k, h]
  congr 1
  rw [Nat.mul_add a (2 * _), Nat.mul_one]
  congr 2; omega


end Go.Proofs.YtfkodiefldljgaaDoor
