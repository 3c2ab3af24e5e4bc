/- compareBytes, Equal, IsNegative; the thin package's FieldEqual and FieldIsNegative. -/
import Derived.Test.YtmabidcocdflkaaDoorF5
import Derived.Test.YtmabidcocdflkaaDoorL0
import Derived.Test.YtmabidcocdflkaaDoorK0
set_option linter.unusedSimpArgs false
set_option linter.unusedVariables false
namespace Go.Proofs.YtmabidcocdflkaaDoor
open Go.RowKit

theorem and_one8' (X : Nat) (h : X < 256) : bits .and .u8 (X : Int) 1 = ((X % 2 : Nat) : Int) := by
  have hx : X &&& 1 < 2 ^ 8 := Nat.and_lt_two_pow _ (by omega)
  have h1 : (BitVec.ofInt 8 (X : Int)).toNat = X := by
    rw [BitVec.ofInt_natCast, BitVec.toNat_ofNat]; exact Nat.mod_eq_of_lt (by omega)
  show IntKind.u8.wrap ((BitVec.ofInt 8 (X : Int) &&& BitVec.ofInt 8 1).toNat : Int) = _
  rw [BitVec.toNat_and, h1, show (BitVec.ofInt 8 1).toNat = 1 from rfl, IntKind.wrap_u8, Nat.and_one_is_mod]
  omega
theorem drew_below {w w' : World} {B : Nat} (h : Below B w w') : Below B w w'.drew := h.drew
set_option maxHeartbeats 1000000 in
theorem compare_any (b b' N M cap cap' : Nat) (w : World) (hN : N < 256 ^ 32) (hM : M < 256 ^ 32) (h : Row w b 0 32 (byV N)) (h' : Row w b' 0 32 (byV M)) (Z : Int) (hZ : Hid (Z = if N = M then 1 else 0)) :
    Calls Tryd.prog 34 #[.slice (some ⟨b, 0, none⟩) 32 cap, .slice (some ⟨b', 0, none⟩) 32 cap'] w fun e w' => e = .returned (.int .i64 Z) ∧ Below w.heap.size w w' := by
  have H := Lib.hid h; have H' := Lib.hid h'; clear h h'
  go_enter Tryd.func34, Tryd.ntmps34
  go_wp2
  go_loopw [13] (fun i wr => ∃ k : Nat, k ≤ 32 ∧ i = .int .i64 (k : Int) ∧ Hid (∀ i, i < k → byteN N i = byteN M i) ∧ Hid (Below w.heap.size w wr)) (fun i _ => 32 - (intOf i).toNat)
  case atStart =>
    exact ⟨0, by omega, rfl, Lib.hid (fun i hi => absurd hi (by omega)), Lib.hid (Below.refl _ w)⟩
  case round =>
    obtain ⟨k, hk, rfl, hq, hB⟩ := hrel
    by_cases hlt : k < 32
    · have c1 := (H.out.below hB.out H.out.lt).byte (i := k) hlt
      have c2 := (H'.out.below hB.out H'.out.lt).byte (i := k) hlt
      rw [Nat.zero_add] at c1 c2
      obtain ⟨A, qA⟩ : ∃ u, u = byteN N k := ⟨_, rfl⟩
      obtain ⟨C, qC⟩ : ∃ u, u = byteN M k := ⟨_, rfl⟩
      rw [← qA] at c1
      rw [← qC] at c2
      have HA := Lib.hid qA; have HC := Lib.hid qC; clear qA qC
      by_cases he : A = C
      · subst he
        go_wp2
        go_region
        go_wp2
        go_roundw
        case rel =>
          refine ⟨k + 1, by omega, by go_num, Lib.hid ?_, Lib.hid hB.out.drew⟩
          intro i hi
          by_cases hik : i = k
          · subst hik; rw [← HA.out, ← HC.out]
          · exact hq.out i (by omega)
        case measure => simp [intOf]; omega
      · have hne : ((A : Int) != (C : Int)) = true := by simp; omega
        have hne2 : ¬ (A : Int) = (C : Int) := by omega
        have hZ0 : Z = 0 := by
          rw [hZ.out, if_neg]
          rintro rfl
          exact he (HA.out.trans HC.out.symm)
        subst hZ0
        go_wp2
        go_region
        go_wp2
        go_ret
        exact ⟨rfl, hB.out.drew⟩
    · have hZ1 : Z = 1 := by
        rw [hZ.out, if_pos]
        have := bytes_mod N M 32 (fun i hi => hq.out i (by omega))
        rwa [Nat.mod_eq_of_lt hN, Nat.mod_eq_of_lt hM] at this
      subst hZ1
      go_wp2
      go_ret
      exact ⟨rfl, hB.out⟩

theorem Fe.lt32 {w : World} {b off x : Nat} (h : Fe w b off x) : x < 256 ^ 32 := Nat.lt_trans h.small (by unfold pF; omega)

set_option maxHeartbeats 1000000 in
theorem Equal_any (vb vo ub uo x y : Nat) (w : World) (hv : Fe w vb vo x) (hu : Fe w ub uo y) (Z : Int) (hZ : Hid (Z = if x = y then 1 else 0)) :
    Calls Tryd.prog 24 #[.pointer (some ⟨vb, vo, none⟩), .pointer (some ⟨ub, uo, none⟩)] w fun e w' => e = .returned (.int .i64 Z) ∧ Below w.heap.size w w' := by
  have Hv := Lib.hid hv; have Hu := Lib.hid hu; clear hv hu
  go_enter Tryd.func24, Tryd.ntmps24
  go_wp2_with fail
  refine (Bytes_any ub uo y _ Hu.out).mono ?_
  rintro e w1 ⟨b1, rfl, hb1, hB1, hR1⟩
  have HB1 := Lib.hid hB1; have HR1 := Lib.hid hR1; clear hB1 hR1
  go_wp2_with fail
  refine (Bytes_any vb vo x _ (Hv.out.below_all HB1.out)).mono ?_
  rintro e w2 ⟨b2, rfl, hb2, hB2, hR2⟩
  have HB2 := Lib.hid hB2; have HR2 := Lib.hid hR2; clear hB2 hR2
  go_wp2_with fail
  refine (compare_any b1 b2 y x 32 32 _ Hu.out.lt32 Hv.out.lt32 (HR1.out.below_all HB2.out) HR2.out Z (Lib.hid (by rw [hZ.out]; by_cases e : x = y; (subst e; simp); (rw [if_neg e, if_neg (Ne.symm e)])))).mono ?_
  rintro e w3 ⟨rfl, hB3⟩
  go_wp2
  go_ret
  exact ⟨rfl, below_call (below_call HB1.out HB2.out) hB3⟩

set_option maxHeartbeats 1000000 in
theorem IsNegative_any (vb vo x : Nat) (w : World) (hv : Fe w vb vo x) (Z : Int) (hZ : Hid (Z = ((x % 2 : Nat) : Int))) :
    Calls Tryd.prog 21 #[.pointer (some ⟨vb, vo, none⟩)] w fun e w' => e = .returned (.int .i64 Z) ∧ Below w.heap.size w w' := by
  have Hv := Lib.hid hv; clear hv
  go_enter Tryd.func21, Tryd.ntmps21
  go_wp2_with fail
  refine (Bytes_any vb vo x _ Hv.out).mono ?_
  rintro e w1 ⟨b1, rfl, hb1, hB1, hR1⟩
  have HB1 := Lib.hid hB1
  have c0 := hR1.byte (i := 0) (by omega)
  have hb := byteN_lt x 0
  have h2 : byteN x 0 % 2 = x % 2 := by unfold byteN; omega
  have h3 := and_one8' (byteN x 0) hb
  rw [h2, ← hZ.out] at h3
  have h4 : 0 ≤ Z ∧ Z ≤ 1 := by rw [hZ.out]; omega
  generalize byteN x 0 = A at *
  clear h2 hR1 hB1
  go_wp2
  go_ret
  refine ⟨?_, HB1.out⟩
  first | rfl | (simp; omega)

set_option maxHeartbeats 1000000 in
theorem FieldIsNeg_any (N : Nat) (w : World) (Z : Int) (hZ : Hid (Z = ((valN N % 2 : Nat) : Int))) :
    Calls Tryd.prog 11 #[.agg (arrC N)] w fun e w' => e = .returned (.int .i64 Z) ∧ Below w.heap.size w w' := by
  go_enter Tryd.func11, Tryd.ntmps11
  go_wp2_with (first
    | ((with_reducible refine at_dst 3 ?_); refine wpList_load_row rfl 22 _ rfl (w.heap.size) rfl 22 (arrC N) (0, 0) _ (heap_new_at _ _ _ rfl) under32 rfl (info32.trans (by rw [arrC_size])) ?_))
  refine (elementOf_any N _).mono ?_
  rintro e w1 ⟨b1, rfl, hb1, hB1, hF1⟩
  have HB1 := Lib.hid hB1; have HF1 := Lib.hid hF1; clear hB1 hF1
  go_wp2_with fail
  refine (IsNegative_any b1 0 _ _ HF1.out Z hZ).mono ?_
  rintro e w2 ⟨rfl, hB2⟩
  go_wp2
  go_ret
  exact ⟨rfl, below_call (below_call (below_alloc (Below.refl _ w) _) HB1.out) hB2⟩

end Go.Proofs.YtmabidcocdflkaaDoor
