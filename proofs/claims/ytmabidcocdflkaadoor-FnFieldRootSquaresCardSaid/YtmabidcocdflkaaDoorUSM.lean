/- mask64Bits. -/
import Derived.Test.YtmabidcocdflkaaDoorF1
set_option linter.unusedSimpArgs false
set_option linter.unusedVariables false
namespace Go.Proofs.YtmabidcocdflkaaDoor
open Go.RowKit

theorem apart_off (b o o' : Nat) (h : o = o' ∨ o + 5 ≤ o' ∨ o' + 5 ≤ o) : Apart b o b o' := by unfold Apart; omega
theorem apart_blk (b b' o o' : Nat) (h : b ≠ b') : Apart b o b' o' := Or.inr (Or.inl h)
theorem mask_0 (w : World) : Calls Tryd.prog 35 #[.int .i64 0] w fun e w' => e = .returned (.int .u64 0) ∧ w = w' := by
  go_enter Tryd.func35, Tryd.ntmps35
  go_wp2
  go_ret
  exact ⟨rfl, rfl⟩
theorem mask_1 (w : World) : Calls Tryd.prog 35 #[.int .i64 1] w fun e w' => e = .returned (.int .u64 18446744073709551615) ∧ w = w' := by
  go_enter Tryd.func35, Tryd.ntmps35
  go_wp2
  go_ret
  exact ⟨rfl, rfl⟩

end Go.Proofs.YtmabidcocdflkaaDoor
