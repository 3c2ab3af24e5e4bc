/- element under a name -/
import Derived.Test.YtkecocibfmhdpaaS9
set_option linter.unusedSimpArgs false
set_option linter.unusedVariables false
namespace Go.Proofs.Ytkecocibfmhdpaa
open Go.RowKit

theorem element_to (N r : Nat) (hr : Hid (r = valN N)) (w : World) : Calls Try.prog 33 #[.agg (arrC N)] w fun e w' => e = .returned (.agg (numC r)) ∧ Below w.heap.size w w' := by
  rw [hr.out]; exact element_any N w

theorem valN_lt' (x : Nat) : valN x < pF := Nat.mod_lt _ pF_pos

end Go.Proofs.Ytkecocibfmhdpaa
