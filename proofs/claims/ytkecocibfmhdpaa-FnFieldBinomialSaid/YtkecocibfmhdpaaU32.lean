/- Mult32. -/
import Derived.Test.YtkecocibfmhdpaaU1
set_option linter.unusedSimpArgs false
set_option linter.unusedVariables false
namespace Go.Proofs.Ytkecocibfmhdpaa
open Go.RowKit


theorem and51 (L m : Nat) (hL : L < 18446744073709551616) (hm : Hid (m = L % 2251799813685248)) : bits .and .u64 (L : Int) 2251799813685247 = (m : Int) := by
  rw [mask51 L hL, hm.out]
theorem sh51 (H L R : Nat) (hH : H < 2251799813685248) (hL : L < 18446744073709551616) (hR : Hid (R = (H * 18446744073709551616 + L) / 2251799813685248)) : bits .or .u64 ((H : Int) * 8192) ((L : Int) / 2251799813685248) = (R : Int) := by
  have hR := hR.out
  have e3 : L / 2251799813685248 < 2 ^ 13 := by omega
  have e4 : H * 2 ^ 13 + L / 2251799813685248 < 18446744073709551616 := by omega
  have h := or_word H (L / 2251799813685248) 13 e3 e4
  have e5 : H * 2 ^ 13 + L / 2251799813685248 = R := by
    rw [hR]
    clear hR h e4
    have e2 : H * 8192 + L / 2251799813685248 = (H * 18446744073709551616 + L) / 2251799813685248 := by omega
    exact e2
  rw [e5] at h
  have e6 : ((H * 2 ^ 13 : Nat) : Int) = (H : Int) * 8192 := by omega
  have e7 : ((L / 2251799813685248 : Nat) : Int) = (L : Int) / 2251799813685248 := by omega
  rw [e6, e7] at h
  exact h
set_option maxHeartbeats 1000000 in
theorem mul51_raw (a y H L lo hi : Nat) (ha : a < 18446744073709551616) (hy : y < 4294967296) (h : Hid (H * 18446744073709551616 + L = a * y)) (hL : L < 18446744073709551616) (hH : H < 2251799813685248)
    (e1 : bits .and .u64 (L : Int) 2251799813685247 = (lo : Int)) (e2 : bits .or .u64 ((H : Int) * 8192) ((L : Int) / 2251799813685248) = (hi : Int)) (w : World) :
    Calls Try.prog 42 #[.int .u64 (a : Int), .int .u32 (y : Int)] w fun e w' => e = .returned (.tuple #[.int .u64 (lo : Int), .int .u64 (hi : Int)]) ∧ w = w' := by
  go_enter Try.func42, Try.ntmps42
  go_wp2_with fail
  refine (Mul64_to a y H L ha (by omega) h hL _).mono ?_
  rintro e w' ⟨rfl, rfl⟩
  go_wp2
  go_ret2
  exact ⟨rfl, rfl⟩
theorem mul51_any (a y lo hi : Nat) (ha : a ≤ 2252074691592191) (hy : y < 4294967296) (hlo : Hid (lo = a * y % 2251799813685248)) (hhi : Hid (hi = a * y / 2251799813685248)) (w : World) :
    Calls Try.prog 42 #[.int .u64 (a : Int), .int .u32 (y : Int)] w fun e w' => e = .returned (.tuple #[.int .u64 (lo : Int), .int .u64 (hi : Int)]) ∧ w = w' := by
  obtain ⟨H, L, hL, h⟩ := split64 (a * y)
  have hb := Nat.mul_le_mul ha (show y ≤ 4294967295 by omega)
  have h' := h.out
  have hH : H < 2251799813685248 := by omega
  refine mul51_raw a y H L lo hi (by omega) hy h hL hH (and51 L lo hL (Lib.hid ?_)) (sh51 H L hi hH hL (Lib.hid ?_)) w
  · rw [hlo.out, ← h']; omega
  · rw [hhi.out, ← h']

set_option maxHeartbeats 2000000 in
theorem mult32_raw (vb vo ab ao a0 a1 a2 a3 a4 y : Nat) (vs : Nat → Value) (ba0 : a0 ≤ 2252074691592191) (ba1 : a1 ≤ 2252074691592191) (ba2 : a2 ≤ 2252074691592191) (ba3 : a3 ≤ 2252074691592191) (ba4 : a4 ≤ 2252074691592191) (hy : y < 4294967296) (w : World) (hv : Row w vb vo 5 vs) (h0 : w.cell? ⟨ab, ao, none⟩ = some (.int .u64 (a0 : Int))) (h1 : w.cell? ⟨ab, ao + 1, none⟩ = some (.int .u64 (a1 : Int))) (h2 : w.cell? ⟨ab, ao + 2, none⟩ = some (.int .u64 (a2 : Int))) (h3 : w.cell? ⟨ab, ao + 3, none⟩ = some (.int .u64 (a3 : Int))) (h4 : w.cell? ⟨ab, ao + 4, none⟩ = some (.int .u64 (a4 : Int))) :
    Calls Try.prog 28 #[.pointer (some ⟨vb, vo, none⟩), .pointer (some ⟨ab, ao, none⟩), .int .u32 (y : Int)] w fun e w' => e = .returned (.pointer (some ⟨vb, vo, none⟩)) ∧ Wr w w' vb vo 5 (limbV (cpL ⟨a0 * y, a1 * y, a2 * y, a3 * y, a4 * y⟩)) := by
  have ba0' := Nat.mul_le_mul ba0 (show y ≤ 4294967295 by omega)
  obtain ⟨lo0, qlo0⟩ : ∃ u : Nat, u = a0 * y % 2251799813685248 := ⟨_, rfl⟩
  obtain ⟨hi0, qhi0⟩ : ∃ u : Nat, u = a0 * y / 2251799813685248 := ⟨_, rfl⟩
  have blo0 : lo0 < 2251799813685248 := by omega
  have bhi0 : hi0 < 8589934592 := by omega
  have Hlo0 := Lib.hid qlo0; have Hhi0 := Lib.hid qhi0; clear qlo0 qhi0 ba0'
  have ba1' := Nat.mul_le_mul ba1 (show y ≤ 4294967295 by omega)
  obtain ⟨lo1, qlo1⟩ : ∃ u : Nat, u = a1 * y % 2251799813685248 := ⟨_, rfl⟩
  obtain ⟨hi1, qhi1⟩ : ∃ u : Nat, u = a1 * y / 2251799813685248 := ⟨_, rfl⟩
  have blo1 : lo1 < 2251799813685248 := by omega
  have bhi1 : hi1 < 8589934592 := by omega
  have Hlo1 := Lib.hid qlo1; have Hhi1 := Lib.hid qhi1; clear qlo1 qhi1 ba1'
  have ba2' := Nat.mul_le_mul ba2 (show y ≤ 4294967295 by omega)
  obtain ⟨lo2, qlo2⟩ : ∃ u : Nat, u = a2 * y % 2251799813685248 := ⟨_, rfl⟩
  obtain ⟨hi2, qhi2⟩ : ∃ u : Nat, u = a2 * y / 2251799813685248 := ⟨_, rfl⟩
  have blo2 : lo2 < 2251799813685248 := by omega
  have bhi2 : hi2 < 8589934592 := by omega
  have Hlo2 := Lib.hid qlo2; have Hhi2 := Lib.hid qhi2; clear qlo2 qhi2 ba2'
  have ba3' := Nat.mul_le_mul ba3 (show y ≤ 4294967295 by omega)
  obtain ⟨lo3, qlo3⟩ : ∃ u : Nat, u = a3 * y % 2251799813685248 := ⟨_, rfl⟩
  obtain ⟨hi3, qhi3⟩ : ∃ u : Nat, u = a3 * y / 2251799813685248 := ⟨_, rfl⟩
  have blo3 : lo3 < 2251799813685248 := by omega
  have bhi3 : hi3 < 8589934592 := by omega
  have Hlo3 := Lib.hid qlo3; have Hhi3 := Lib.hid qhi3; clear qlo3 qhi3 ba3'
  have ba4' := Nat.mul_le_mul ba4 (show y ≤ 4294967295 by omega)
  obtain ⟨lo4, qlo4⟩ : ∃ u : Nat, u = a4 * y % 2251799813685248 := ⟨_, rfl⟩
  obtain ⟨hi4, qhi4⟩ : ∃ u : Nat, u = a4 * y / 2251799813685248 := ⟨_, rfl⟩
  have blo4 : lo4 < 2251799813685248 := by omega
  have bhi4 : hi4 < 8589934592 := by omega
  have Hlo4 := Lib.hid qlo4; have Hhi4 := Lib.hid qhi4; clear qlo4 qhi4 ba4'
  have f0 := hv.frozen (i := 0) (by omega); have k0 := hv.cell (i := 0) (by omega)
  have f1 := hv.frozen (i := 1) (by omega); have k1 := hv.cell (i := 1) (by omega)
  have f2 := hv.frozen (i := 2) (by omega); have k2 := hv.cell (i := 2) (by omega)
  have f3 := hv.frozen (i := 3) (by omega); have k3 := hv.cell (i := 3) (by omega)
  have f4 := hv.frozen (i := 4) (by omega); have k4 := hv.cell (i := 4) (by omega)
  rw [Nat.add_zero] at f0 k0
  have Hv := Lib.hid hv; clear hv
  go_enter Try.func28, Try.ntmps28
  go_wp2_with fail
  refine (mul51_any a0 y lo0 hi0 ba0 hy Hlo0 Hhi0 _).mono ?_
  rintro e w' ⟨rfl, rfl⟩
  go_wp2_with fail
  refine (mul51_any a1 y lo1 hi1 ba1 hy Hlo1 Hhi1 _).mono ?_
  rintro e w' ⟨rfl, rfl⟩
  go_wp2_with fail
  refine (mul51_any a2 y lo2 hi2 ba2 hy Hlo2 Hhi2 _).mono ?_
  rintro e w' ⟨rfl, rfl⟩
  go_wp2_with fail
  refine (mul51_any a3 y lo3 hi3 ba3 hy Hlo3 Hhi3 _).mono ?_
  rintro e w' ⟨rfl, rfl⟩
  go_wp2_with fail
  refine (mul51_any a4 y lo4 hi4 ba4 hy Hlo4 Hhi4 _).mono ?_
  rintro e w' ⟨rfl, rfl⟩
  go_wp2
  go_ret
  refine ⟨rfl, Wr.five ((((((Wr.start Hv.out).set 0 _).set 1 _).set 2 _).set 3 _).set 4 _) ?_ ?_ ?_ ?_ ?_⟩
  · exact u64_eq (show _ = (((lo0 + 19 * hi4 : Nat)) : Int) by omega) |>.trans (by rw [Hlo0.out, Hhi4.out]; rfl)
  · exact u64_eq (show _ = (((lo1 + hi0 : Nat)) : Int) by omega) |>.trans (by rw [Hlo1.out, Hhi0.out]; rfl)
  · exact u64_eq (show _ = (((lo2 + hi1 : Nat)) : Int) by omega) |>.trans (by rw [Hlo2.out, Hhi1.out]; rfl)
  · exact u64_eq (show _ = (((lo3 + hi2 : Nat)) : Int) by omega) |>.trans (by rw [Hlo3.out, Hhi2.out]; rfl)
  · exact u64_eq (show _ = (((lo4 + hi3 : Nat)) : Int) by omega) |>.trans (by rw [Hlo4.out, Hhi3.out]; rfl)
theorem m32_val (a0 a1 a2 a3 a4 y : Nat) : val5 ⟨a0 * y, a1 * y, a2 * y, a3 * y, a4 * y⟩ = val5 ⟨a0, a1, a2, a3, a4⟩ * y := by
  unfold val5; simp only; grind
theorem m32_bd (a0 a1 a2 a3 a4 y : Nat) (ba0 : a0 ≤ 2252074691592191) (ba1 : a1 ≤ 2252074691592191) (ba2 : a2 ≤ 2252074691592191) (ba3 : a3 ≤ 2252074691592191) (ba4 : a4 ≤ 2252074691592191) (hy : y < 4294967296) : Bd (cpL ⟨a0 * y, a1 * y, a2 * y, a3 * y, a4 * y⟩) := by
  have p0 := Nat.mul_le_mul ba0 (show y ≤ 4294967295 by omega)
  have p1 := Nat.mul_le_mul ba1 (show y ≤ 4294967295 by omega)
  have p2 := Nat.mul_le_mul ba2 (show y ≤ 4294967295 by omega)
  have p3 := Nat.mul_le_mul ba3 (show y ≤ 4294967295 by omega)
  have p4 := Nat.mul_le_mul ba4 (show y ≤ 4294967295 by omega)
  generalize a0 * y = q0 at *
  generalize a1 * y = q1 at *
  generalize a2 * y = q2 at *
  generalize a3 * y = q3 at *
  generalize a4 * y = q4 at *
  unfold Bd cpL
  simp only
  omega
theorem mult32_fe (vb vo ab ao x y v0 : Nat) (w : World) (hy : y < 4294967296) (hv : Fe w vb vo v0) (ha : Fe w ab ao x) (R : Nat) (hR : Hid (R = x * y % pF)) :
    Calls Try.prog 28 #[.pointer (some ⟨vb, vo, none⟩), .pointer (some ⟨ab, ao, none⟩), .int .u32 (y : Int)] w fun e w' => e = .returned (.pointer (some ⟨vb, vo, none⟩)) ∧ Sets w w' vb vo R := by
  obtain ⟨Lv, hL, _⟩ := hv
  obtain ⟨⟨a0, a1, a2, a3, a4⟩, hA, ⟨p0, p1, p2, p3, p4⟩, hx⟩ := ha
  simp only at p0 p1 p2 p3 p4
  refine (mult32_raw vb vo ab ao a0 a1 a2 a3 a4 y (limbV Lv) (by omega) (by omega) (by omega) (by omega) (by omega) hy w hL (El.c0 hA) (El.c1 hA) (El.c2 hA) (El.c3 hA) (El.c4 hA)).mono ?_
  rintro e w1 ⟨rfl, hw⟩
  exact ⟨rfl, _, m32_bd a0 a1 a2 a3 a4 y (by omega) (by omega) (by omega) (by omega) (by omega) hy, by rw [cpL_mod, m32_val, hR.out, ← hx, Nat.mod_mul_mod], hw⟩

end Go.Proofs.Ytkecocibfmhdpaa
