/- FnFieldAddGroups: the walk. -/
import Derived.Test.YtmabidcocdflkaaDoorL0
set_option linter.unusedSimpArgs false
set_option linter.unusedVariables false
namespace Go.Proofs.YtmabidcocdflkaaDoor
open Go.RowKit

theorem valN_of_lt (x : Nat) (h : x < pF) : valN x = x := by
  unfold valN
  rw [Nat.mod_eq_of_lt (Nat.lt_trans h (by unfold pF; omega)), Nat.mod_eq_of_lt h]
theorem valN_lt (x : Nat) : valN x < pF := Nat.mod_lt _ pF_pos
theorem mod_lt_p (x : Nat) : x % pF < pF := Nat.mod_lt _ pF_pos
theorem p_lt : pF < 256 ^ 32 := by unfold pF; omega

end Go.Proofs.YtmabidcocdflkaaDoor
