/- math/bits.Mul64, walked. -/
import Derived.Test.YtmabidcocdflkaaDoorS1
set_option linter.unusedSimpArgs false
set_option linter.unusedVariables false
namespace Go.Proofs.YtmabidcocdflkaaDoor
open Go.RowKit

theorem mask32 (a : Nat) (ha : a < 18446744073709551616) : bits .and .u64 (a : Int) 4294967295 = ((a % 4294967296 : Nat) : Int) := by
  have h := bits_and_u64_nat a 4294967295 ha (by omega)
  have e : a &&& 4294967295 = a % 4294967296 := Nat.and_two_pow_sub_one_eq_mod a 32
  rw [e] at h
  exact h

theorem mulb (a b A B : Nat) (ha : a ≤ A) (hb : b ≤ B) : (a : Int) * (b : Int) ≤ (A * B : Nat) ∧ 0 ≤ (a : Int) * (b : Int) := by
  have := Nat.mul_le_mul ha hb
  have h2 : (a : Int) * (b : Int) = ((a * b : Nat) : Int) := by simp
  rw [h2]; omega

set_option maxHeartbeats 1000000 in
theorem Mul64_raw (x y x0 x1 y0 y1 t w1 : Nat) (h0 : x0 ≤ 4294967295) (h1 : x1 ≤ 4294967295) (k0 : y0 ≤ 4294967295) (k1 : y1 ≤ 4294967295)
    (ex0 : bits .and .u64 (x : Int) 4294967295 = (x0 : Int)) (ex1 : (x : Int) / 4294967296 = (x1 : Int)) (ey0 : bits .and .u64 (y : Int) 4294967295 = (y0 : Int)) (ey1 : (y : Int) / 4294967296 = (y1 : Int))
    (p00 : (x0 : Int) * y0 ≤ 18446744065119617025) (p01 : (x0 : Int) * y1 ≤ 18446744065119617025) (p10 : (x1 : Int) * y0 ≤ 18446744065119617025) (p11 : (x1 : Int) * y1 ≤ 18446744065119617025)
    (q00 : 0 ≤ (x0 : Int) * y0) (q01 : 0 ≤ (x0 : Int) * y1) (q10 : 0 ≤ (x1 : Int) * y0) (q11 : 0 ≤ (x1 : Int) * y1)
    (et : (x1 : Int) * y0 + (x0 : Int) * y0 / 4294967296 = (t : Int)) (bt : t ≤ 18446744069414584319) (w0 : Nat) (bw0 : w0 ≤ 4294967295) (ew0 : bits .and .u64 (t : Int) 4294967295 = (w0 : Int)) (w : World) :
    Calls Tryd.prog 49 #[.int .u64 (x : Int), .int .u64 (y : Int)] w fun e w' => e = .returned (.tuple #[.int .u64 ((x1 : Int) * y1 + (t : Int) / 4294967296 + ((w0 : Int) + (x0 : Int) * y1) / 4294967296), .int .u64 (IntKind.u64.wrap ((x : Int) * y))]) ∧ w' = w := by
  have g1 : (t : Int) / 4294967296 ≤ 4294967295 := by omega
  have g2 : ((w0 : Int) + (x0 : Int) * y1) / 4294967296 ≤ 4294967295 := by omega
  go_enter Tryd.func49, Tryd.ntmps49
  go_wp2
  go_ret2
  exact ⟨rfl, rfl⟩
theorem Mul64_any (x y : Nat) (hx : x < 18446744073709551616) (hy : y < 18446744073709551616) (w : World) :
    Calls Tryd.prog 49 #[.int .u64 (x : Int), .int .u64 (y : Int)] w fun e w' => e = .returned (.tuple #[.int .u64 ((x * y / 18446744073709551616 : Nat) : Int), .int .u64 ((x * y % 18446744073709551616 : Nat) : Int)]) ∧ w = w' := by
  obtain ⟨x0, hx0⟩ : ∃ u, u = x % 4294967296 := ⟨_, rfl⟩
  obtain ⟨x1, hx1⟩ : ∃ u, u = x / 4294967296 := ⟨_, rfl⟩
  obtain ⟨y0, hy0⟩ : ∃ u, u = y % 4294967296 := ⟨_, rfl⟩
  obtain ⟨y1, hy1⟩ : ∃ u, u = y / 4294967296 := ⟨_, rfl⟩
  have b0 : x0 ≤ 4294967295 := by omega
  have b1 : x1 ≤ 4294967295 := by omega
  have c0 : y0 ≤ 4294967295 := by omega
  have c1 : y1 ≤ 4294967295 := by omega
  have m00 := mulb x0 y0 _ _ b0 c0
  have m01 := mulb x0 y1 _ _ b0 c1
  have m10 := mulb x1 y0 _ _ b1 c0
  have m11 := mulb x1 y1 _ _ b1 c1
  have hxy : (x : Int) * (y : Int) = (x0 : Int) * y0 + 4294967296 * ((x1 : Int) * y0) + 4294967296 * ((x0 : Int) * y1) + 18446744073709551616 * ((x1 : Int) * y1) := by
    have e1 : (x : Int) = x0 + 4294967296 * x1 := by omega
    have e2 : (y : Int) = y0 + 4294967296 * y1 := by omega
    rw [e1, e2]; grind
  have hn : ((x * y : Nat) : Int) = (x : Int) * (y : Int) := by simp
  obtain ⟨t, ht⟩ : ∃ t : Nat, (x1 : Int) * y0 + (x0 : Int) * y0 / 4294967296 = (t : Int) := ⟨((x1 : Int) * y0 + (x0 : Int) * y0 / 4294967296).toNat, by omega⟩
  have bt : t ≤ 18446744069414584319 := by omega
  have hX := mask32 x hx
  have hY := mask32 y hy
  have hT := mask32 t (by omega)
  rw [← hx0] at hX
  rw [← hy0] at hY
  obtain ⟨w0, hw0⟩ : ∃ u, u = t % 4294967296 := ⟨_, rfl⟩
  rw [← hw0] at hT
  refine (Mul64_raw x y x0 x1 y0 y1 t 0 b0 b1 c0 c1 hX (by omega) hY (by omega) (by omega) (by omega) (by omega) (by omega) (by omega) (by omega) (by omega) (by omega) ht bt w0 (by omega) hT w).mono ?_
  rintro e w' ⟨rfl, rfl⟩
  refine ⟨?_, rfl⟩
  rw [IntKind.wrap_u64]
  have e1 : (x1 : Int) * y1 + (t : Int) / 4294967296 + ((w0 : Int) + (x0 : Int) * y1) / 4294967296 = ((x * y / 18446744073709551616 : Nat) : Int) := by
    rw [Int.natCast_ediv, hn, hxy]
    generalize (x0 : Int) * y0 = P00 at *
    generalize (x1 : Int) * y0 = P10 at *
    generalize (x0 : Int) * y1 = P01 at *
    generalize (x1 : Int) * y1 = P11 at *
    omega
  have e2 : (x : Int) * (y : Int) % 18446744073709551616 = ((x * y % 18446744073709551616 : Nat) : Int) := by
    rw [Int.natCast_emod, hn]; rfl
  rw [e1, e2]
end Go.Proofs.YtmabidcocdflkaaDoor
