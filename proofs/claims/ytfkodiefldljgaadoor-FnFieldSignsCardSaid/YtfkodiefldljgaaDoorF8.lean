/- compareBytes, Equal, IsNegative; the thin package's FieldEqual and FieldIsNegative. -/
import Derived.Test.YtfkodiefldljgaaDoorF5
import Derived.Test.YtfkodiefldljgaaDoorL0
import Derived.Test.YtfkodiefldljgaaDoorK0
namespace Go.Proofs.YtfkodiefldljgaaDoor
open Go.RowKit

theorem and_one8' (X : Nat) (h : X < 256) : bits .and .u8 (X : Int) 1 = ((X % 2 : Nat) : Int) := by
  have hx : X &&& 1 < 2 ^ 8 := Nat.and_lt_two_pow _ (by omega)
  have h1 : (BitVec.ofInt 8 (X : Int)).toNat = X := by
    rw [BitVec.ofInt_natCast, BitVec.toNat_ofNat]; exact Nat.mod_eq_of_lt (by omega)
  show IntKind.u8.wrap ((BitVec.ofInt 8 (X : Int) &&& BitVec.ofInt 8 1).toNat : Int) = _
  rw [BitVec.toNat_and, h1, show (BitVec.ofInt 8 1).toNat = 1 from rfl, IntKind.wrap_u8, Nat.and_one_is_mod]
  omega
theorem drew_below {w w' : World} {B : Nat} (h : Below B w w') : Below B w w'.drew := h.drew

theorem Fe.lt32 {w : World} {b off x : Nat} (h : Fe w b off x) : x < 256 ^ 32 := Nat.lt_trans h.small (by unfold pF; omega)


set_option maxHeartbeats 1000000 in
theorem IsNegative_any (vb vo x : Nat) (w : World) (hv : Fe w vb vo x) (Z : Int) (hZ : Hid (Z = ((x % 2 : Nat) : Int))) :
    Calls Tryd.prog 31 #[.pointer (some ⟨vb, vo, none⟩)] w fun e w' => e = .returned (.int .i64 Z) ∧ Below w.heap.size w w' := by
  have Hv := Lib.hid hv; clear hv
  go_enter Tryd.func31, Tryd.ntmps31
  go_wp2_with fail
  refine (Bytes_any vb vo x _ Hv.out).mono ?_
  rintro e w1 ⟨b1, rfl, hb1, hB1, hR1⟩
  have HB1 := Lib.hid hB1
  have c0 := hR1.byte (i := 0) (by omega)
  have hb := byteN_lt x 0
  have h2 : byteN x 0 % 2 = x % 2 := by unfold byteN; omega
  have h3 := and_one8' (byteN x 0) hb
  rw [h2, ← hZ.out] at h3
  have h4 : 0 ≤ Z ∧ Z ≤ 1 := by rw [hZ.out]; omega
  generalize byteN x 0 = A at *
  clear h2 hR1 hB1
  go_wp2
  go_ret
  refine ⟨?_, HB1.out⟩
  first | rfl | (simp; omega)

set_option maxHeartbeats 1000000 in
theorem FieldIsNeg_any (N : Nat) (w : World) (Z : Int) (hZ : Hid (Z = ((valN N % 2 : Nat) : Int))) :
    Calls Tryd.prog 19 #[.agg (arrC N)] w fun e w' => e = .returned (.int .i64 Z) ∧ Below w.heap.size w w' := by
  go_enter Tryd.func19, Tryd.ntmps19
  go_wp2_with (first
    | ((with_reducible refine at_dst 3 ?_); refine wpList_load_row rfl 22 _ rfl (w.heap.size) rfl 22 (arrC N) (0, 0) _ (heap_new_at _ _ _ rfl) under32 rfl (info32.trans (by rw [arrC_size])) ?_))
  refine (elementOf_any N _).mono ?_
  rintro e w1 ⟨b1, rfl, hb1, hB1, hF1⟩
  have HB1 := Lib.hid hB1; have HF1 := Lib.hid hF1; clear hB1 hF1
  go_wp2_with fail
  refine (IsNegative_any b1 0 _ _ HF1.out Z hZ).mono ?_
  rintro e w2 ⟨rfl, hB2⟩
  go_wp2
  go_ret
  exact ⟨rfl, below_call (below_call (below_alloc (Below.refl _ w) _) HB1.out) hB2⟩

end Go.Proofs.YtfkodiefldljgaaDoor
