/- The reference's times under a name. -/
import Derived.Test.YtkecocibfmhdpaaS7
set_option linter.unusedSimpArgs false
set_option linter.unusedVariables false
namespace Go.Proofs.Ytkecocibfmhdpaa
open Go.RowKit

theorem times_to (a b m r : Nat) (hr : Hid (r = a * b % m)) (ha : a < m) (hb : b < 2 ^ 256) (hm : m < 57896044618658097711785492504343953926634992332820282019728792003956564819968) (w : World) :
    Calls Try.prog 46 #[.agg (numC a), .agg (numC b), .agg (numC m)] w fun e w' => e = .returned (.agg (numC r)) ∧ Below w.heap.size w w' := by
  rw [hr.out]; exact times_any a b m ha hb hm w
/-- a to the power of e, modulo m -/
def pm (a e m : Nat) : Nat := a ^ e % m
theorem pm_lt (a e m : Nat) (h : 0 < m) : pm a e m < m := Nat.mod_lt _ h
theorem pm_step0 (a e m k : Nat) (h : ¬ e / 2 ^ k % 2 = 1) : pm a (e / 2 ^ (k + 1)) m * pm a (e / 2 ^ (k + 1)) m % m = pm a (e / 2 ^ k) m := by
  unfold pm
  rw [← Nat.mul_mod, ← Nat.pow_add, half_step e k, show e / 2 ^ k % 2 = 0 by omega]
  congr 2; omega
theorem pm_step1 (a e m k : Nat) (h : e / 2 ^ k % 2 = 1) : pm a (e / 2 ^ (k + 1)) m * pm a (e / 2 ^ (k + 1)) m % m * a % m = pm a (e / 2 ^ k) m := by
  unfold pm
  rw [← Nat.mul_mod, ← Nat.pow_add, Nat.mod_mul_mod, ← Nat.pow_succ, half_step e k, h]
  congr 2; omega

end Go.Proofs.Ytkecocibfmhdpaa
