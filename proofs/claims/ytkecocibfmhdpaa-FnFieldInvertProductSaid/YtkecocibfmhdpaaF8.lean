/- compareBytes, Equal, IsNegative; the thin package's FieldEqual and FieldIsNegative. -/
import Derived.Test.YtkecocibfmhdpaaF5
import Derived.Test.YtkecocibfmhdpaaL0
import Derived.Test.YtkecocibfmhdpaaK0
set_option linter.unusedSimpArgs false
set_option linter.unusedVariables false
namespace Go.Proofs.Ytkecocibfmhdpaa
open Go.RowKit

theorem and_one8' (X : Nat) (h : X < 256) : bits .and .u8 (X : Int) 1 = ((X % 2 : Nat) : Int) := by
  have hx : X &&& 1 < 2 ^ 8 := Nat.and_lt_two_pow _ (by omega)
  have h1 : (BitVec.ofInt 8 (X : Int)).toNat = X := by
    rw [BitVec.ofInt_natCast, BitVec.toNat_ofNat]; exact Nat.mod_eq_of_lt (by omega)
  show IntKind.u8.wrap ((BitVec.ofInt 8 (X : Int) &&& BitVec.ofInt 8 1).toNat : Int) = _
  rw [BitVec.toNat_and, h1, show (BitVec.ofInt 8 1).toNat = 1 from rfl, IntKind.wrap_u8, Nat.and_one_is_mod]
  omega
theorem drew_below {w w' : World} {B : Nat} (h : Below B w w') : Below B w w'.drew := h.drew

theorem Fe.lt32 {w : World} {b off x : Nat} (h : Fe w b off x) : x < 256 ^ 32 := Nat.lt_trans h.small (by unfold pF; omega)




end Go.Proofs.Ytkecocibfmhdpaa
