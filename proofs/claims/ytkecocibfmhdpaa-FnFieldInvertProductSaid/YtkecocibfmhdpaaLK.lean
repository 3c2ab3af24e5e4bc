/- The laws' kit: FieldSetBytes under a name. -/
import Derived.Test.YtkecocibfmhdpaaFA
import Derived.Test.YtkecocibfmhdpaaL1
import Derived.Deep.DeepCutAuto
set_option linter.unusedSimpArgs false
set_option linter.unusedVariables false
namespace Go.Proofs.Ytkecocibfmhdpaa
open Go.RowKit

theorem zero_v (w : World) : Calls Try.prog 11 #[] w fun e w' => e = .returned (.agg (arrC 0)) ∧ Below w.heap.size w w' := zero_any w
theorem number_v (n : Nat) (hn : n < 9223372036854775808) (w : World) : Calls Try.prog 15 #[.int .i64 (n : Int)] w fun e w' => e = .returned (.agg (arrC n)) ∧ Below w.heap.size w w' := number_any n hn w
theorem FieldSetBytes_to (N M b cap : Nat) (hcap : 32 ≤ cap) (R : Nat) (hR : Hid (R = valN M)) (w : World) (hx : Row w b 0 32 (byV M)) :
    Calls Try.prog 10 #[.agg (arrC N), .slice (some ⟨b, 0, none⟩) 32 cap] w fun e w' => e = .returned (.tuple #[.agg (arrC R), .bool true]) ∧ Below w.heap.size w w' := by
  rw [hR.out]; exact FieldSetBytes_any N M b cap hcap w hx
theorem lt32p (x : Nat) (h : x < pF) : x < 256 ^ 32 := Nat.lt_trans h p_lt

end Go.Proofs.Ytkecocibfmhdpaa
