/- Parts of texts for several laws: The field's 128-bit words: mul, addMul, addMul19, addMul38, shiftRightBy51. -/
import Derived.BigRegion
import Derived.Deep.Draws
import Derived.Deep.Quiet
import Derived.Deep.RegionHeld3
import Derived.Deep.WholeRow
import Derived.Laws.Bits64b
import Derived.Laws.CopyOwn
import Derived.Laws.Externs
import Derived.Laws.Tables
import Derived.Lib.Hide
import Derived.LoopTactic
import Derived.StillTailTactics
import Derived.Test.YtcenlinpbpbpoaaDoorProg
import Derived.WalkKit
import Derived.WalkLawsBesides
import Derived.WalkSpells
import Derived.Test.YtcenlinpbpbpoaaDoorKHF1
import Derived.Test.YtcenlinpbpbpoaaDoorKHF3
import Derived.Test.YtcenlinpbpbpoaaDoorKL0
import Derived.Test.YtcenlinpbpbpoaaDoorKL1
import Derived.Test.YtcenlinpbpbpoaaDoorKL2
namespace Go.Proofs.YtcenlinpbpbpoaaDoor
set_option maxRecDepth 4000
set_option linter.unusedSimpArgs false
set_option linter.unusedVariables false
section
open Go.RowKit
def uC (V : Nat) : Array Value := #[.int .u64 ((V % 18446744073709551616 : Nat) : Int), .int .u64 ((V / 18446744073709551616 : Nat) : Int)]
theorem uC_size (V : Nat) : (uC V).size = 2 := rfl
theorem uC_one (V : Nat) : (uC V).all (·.oneCell') = true := by simp [uC, Value.oneCell']
def zU : Array Value := #[.int .u64 0, .int .u64 0]
theorem zU_size : zU.size = 2 := rfl
theorem infoU : (Tryd.prog.info? 118).map (·.size) = some 2 := by kernel_rfl
theorem infoU_of (cs : Array Value) (h : cs.size = 2) : (Tryd.prog.info? 118).map (·.size) = some cs.size := infoU.trans (by rw [h])
theorem uC_of (V L H : Nat) (hL : L < 18446744073709551616) (h : V = H * 18446744073709551616 + L) : uC V = #[.int .u64 (L : Int), .int .u64 (H : Int)] := by
  unfold uC
  rw [show V % 18446744073709551616 = L by omega, show V / 18446744073709551616 = H by omega]
theorem Mul64_to (x y H L : Nat) (hx : x < 18446744073709551616) (hy : y < 18446744073709551616) (h : Hid (H * 18446744073709551616 + L = x * y)) (hL : L < 18446744073709551616) (w : World) :
    Calls Tryd.prog 108 #[.int .u64 (x : Int), .int .u64 (y : Int)] w fun e w' => e = .returned (.tuple #[.int .u64 (H : Int), .int .u64 (L : Int)]) ∧ w = w' := by
  have h := h.out
  have e1 : H = x * y / 18446744073709551616 := by omega
  have e2 : L = x * y % 18446744073709551616 := by omega
  rw [e1, e2]
  exact Mul64_any x y hx hy w
theorem Add64_to (x y c s k : Nat) (hc : c ≤ 1) (h : Hid (k * 18446744073709551616 + s = x + y + c)) (hs : s < 18446744073709551616) (w : World) :
    (callFunc 95 #[.int .u64 (x : Int), .int .u64 (y : Int), .int .u64 (c : Int)]).run Tryd.prog w = .ok (.value (.tuple #[.int .u64 (s : Int), .int .u64 (k : Int)])) w := by
  have h := h.out
  rw [run_Add64 x y c hc w, show (x + y + c) % 18446744073709551616 = s by omega, show (x + y + c) / 18446744073709551616 = k by omega]
theorem split64 (V : Nat) : ∃ H L : Nat, L < 18446744073709551616 ∧ Hid (H * 18446744073709551616 + L = V) :=
  ⟨V / 18446744073709551616, V % 18446744073709551616, by omega, Lib.hid (by omega)⟩
set_option maxHeartbeats 1000000 in
theorem mul_raw (a b H L : Nat) (ha : a < 18446744073709551616) (hb : b < 18446744073709551616) (hL : L < 18446744073709551616) (h : Hid (H * 18446744073709551616 + L = a * b)) (w : World) :
    Calls Tryd.prog 96 #[.int .u64 (a : Int), .int .u64 (b : Int)] w fun e w' => e = .returned (.agg #[.int .u64 (L : Int), .int .u64 (H : Int)]) ∧ Below w.heap.size w w' := by
  go_enter Tryd.func96, Tryd.ntmps96
  go_wp2_with fail
  refine (Mul64_to a b H L ha hb h hL _).mono ?_
  rintro e w' ⟨rfl, rfl⟩
  go_wp2
  exact bodyPost_ret (v := .agg #[.int .u64 (L : Int), .int .u64 (H : Int)]) (by simp [results, Tryd.results96, go_sem]) rfl ⟨rfl, (Below.refl _ _).alloc (Nat.le_refl _) _⟩
theorem mul_any (a b R : Nat) (ha : a < 18446744073709551616) (hb : b < 18446744073709551616) (hR : Hid (R = a * b)) (w : World) :
    Calls Tryd.prog 96 #[.int .u64 (a : Int), .int .u64 (b : Int)] w fun e w' => e = .returned (.agg (uC R)) ∧ Below w.heap.size w w' := by
  obtain ⟨H, L, hL, h⟩ := split64 (a * b)
  rw [uC_of R L H hL (by have := h.out; have := hR.out; omega)]
  exact mul_raw a b H L ha hb hL h w
set_option maxHeartbeats 1000000 in
theorem addMul_raw (lo hi a b H L s k S K : Nat) (ha : a < 18446744073709551616) (hb : b < 18446744073709551616) (hL : L < 18446744073709551616) (h : Hid (H * 18446744073709551616 + L = a * b))
    (hs : s < 18446744073709551616) (h1 : Hid (k * 18446744073709551616 + s = L + lo + 0)) (hk : k ≤ 1) (hS : S < 18446744073709551616) (h2 : Hid (K * 18446744073709551616 + S = H + hi + k)) (w : World) :
    Calls Tryd.prog 99 #[.agg #[.int .u64 (lo : Int), .int .u64 (hi : Int)], .int .u64 (a : Int), .int .u64 (b : Int)] w fun e w' => e = .returned (.agg #[.int .u64 (s : Int), .int .u64 (S : Int)]) ∧ Below w.heap.size w w' := by
  have r1 : ∀ u : World, (callFunc 95 #[.int .u64 (L : Int), .int .u64 (lo : Int), .int .u64 0]).run Tryd.prog u = .ok (.value (.tuple #[.int .u64 (s : Int), .int .u64 (k : Int)])) u := fun u => Add64_to L lo 0 s k (by omega) h1 hs u
  have r2 := fun u : World => Add64_to H hi k S K hk h2 hS u
  go_enter Tryd.func99, Tryd.ntmps99
  go_wp2_with fail
  refine (Mul64_to a b H L ha hb h hL _).mono ?_
  rintro e w' ⟨rfl, rfl⟩
  go_wp2
  exact bodyPost_ret (v := .agg #[.int .u64 (s : Int), .int .u64 (S : Int)]) (by simp [results, Tryd.results99, go_sem]) rfl ⟨rfl, ((Below.refl _ _).alloc (Nat.le_refl _) _).alloc (by simp) _⟩
theorem addMul_any (V a b R : Nat) (ha : a < 18446744073709551616) (hb : b < 18446744073709551616) (hR : Hid (R = V + a * b)) (hlt : R < 340282366920938463463374607431768211456) (w : World) :
    Calls Tryd.prog 99 #[.agg (uC V), .int .u64 (a : Int), .int .u64 (b : Int)] w fun e w' => e = .returned (.agg (uC R)) ∧ Below w.heap.size w w' := by
  obtain ⟨H, L, hL, h⟩ := split64 (a * b)
  obtain ⟨hi, lo, hlo, hV⟩ := split64 V
  obtain ⟨k, s, hs, h1⟩ := split64 (L + lo + 0)
  obtain ⟨K, S, hS, h2⟩ := split64 (H + hi + k)
  have hR := hR.out; have hh := h.out; have hv := hV.out; have hh1 := h1.out; have hh2 := h2.out
  obtain ⟨P, hP⟩ : ∃ P, P = a * b := ⟨_, rfl⟩
  rw [← hP] at hR hh
  have hK : K = 0 := by omega
  rw [uC_of V lo hi hlo (by omega), uC_of R s S hs (by omega)]
  exact addMul_raw lo hi a b H L s k S K ha hb hL h hs h1 (by omega) hS h2 w
theorem mul19_to (a A : Nat) (h : a < 970881267037344822) (hA : Hid (A = 19 * a)) (w : World) :
    Calls Tryd.prog 101 #[.int .u64 (a : Int)] w fun e w' => e = .returned (.int .u64 (A : Int)) ∧ w = w' := by
  rw [hA.out, show ((19 * a : Nat) : Int) = 19 * (a : Int) by omega]
  exact (mul19_any (a : Int) w (by omega) (by omega)).mono fun e w' ⟨h1, h2⟩ => ⟨h1, h2.symm⟩
set_option maxHeartbeats 1000000 in
theorem addMul19_raw (lo hi a A b H L s k S K : Nat) (ha : a < 970881267037344822) (hA : Hid (A = 19 * a)) (hb : b < 18446744073709551616) (hL : L < 18446744073709551616) (h : Hid (H * 18446744073709551616 + L = A * b))
    (hs : s < 18446744073709551616) (h1 : Hid (k * 18446744073709551616 + s = L + lo + 0)) (hk : k ≤ 1) (hS : S < 18446744073709551616) (h2 : Hid (K * 18446744073709551616 + S = H + hi + k)) (w : World) :
    Calls Tryd.prog 98 #[.agg #[.int .u64 (lo : Int), .int .u64 (hi : Int)], .int .u64 (a : Int), .int .u64 (b : Int)] w fun e w' => e = .returned (.agg #[.int .u64 (s : Int), .int .u64 (S : Int)]) ∧ Below w.heap.size w w' := by
  have r1 : ∀ u : World, (callFunc 95 #[.int .u64 (L : Int), .int .u64 (lo : Int), .int .u64 0]).run Tryd.prog u = .ok (.value (.tuple #[.int .u64 (s : Int), .int .u64 (k : Int)])) u := fun u => Add64_to L lo 0 s k (by omega) h1 hs u
  have r2 := fun u : World => Add64_to H hi k S K hk h2 hS u
  go_enter Tryd.func98, Tryd.ntmps98
  go_wp2_with fail
  refine (mul19_to a A ha hA _).mono ?_
  rintro e w' ⟨rfl, rfl⟩
  go_wp2_with fail
  refine (Mul64_to A b H L (by have := hA.out; omega) hb h hL _).mono ?_
  rintro e w' ⟨rfl, rfl⟩
  go_wp2
  exact bodyPost_ret (v := .agg #[.int .u64 (s : Int), .int .u64 (S : Int)]) (by simp [results, Tryd.results98, go_sem]) rfl ⟨rfl, ((Below.refl _ _).alloc (Nat.le_refl _) _).alloc (by simp) _⟩
theorem addMul19_any (V a b R : Nat) (ha : a < 970881267037344822) (hb : b < 18446744073709551616) (hR : Hid (R = V + 19 * (a * b))) (hlt : R < 340282366920938463463374607431768211456) (w : World) :
    Calls Tryd.prog 98 #[.agg (uC V), .int .u64 (a : Int), .int .u64 (b : Int)] w fun e w' => e = .returned (.agg (uC R)) ∧ Below w.heap.size w w' := by
  obtain ⟨A, hA⟩ : ∃ A : Nat, Hid (A = 19 * a) := ⟨_, rfl⟩
  obtain ⟨H, L, hL, h⟩ := split64 (A * b)
  obtain ⟨hi, lo, hlo, hV⟩ := split64 V
  obtain ⟨k, s, hs, h1⟩ := split64 (L + lo + 0)
  obtain ⟨K, S, hS, h2⟩ := split64 (H + hi + k)
  have hR := hR.out; have hh := h.out; have hv := hV.out; have hh1 := h1.out; have hh2 := h2.out
  rw [show 19 * (a * b) = A * b by rw [hA.out, Nat.mul_assoc]] at hR
  obtain ⟨P, hP⟩ : ∃ P, P = A * b := ⟨_, rfl⟩
  rw [← hP] at hR hh
  have hK : K = 0 := by omega
  rw [uC_of V lo hi hlo (by omega), uC_of R s S hs (by omega)]
  exact addMul19_raw lo hi a A b H L s k S K ha hA hb hL h hs h1 (by omega) hS h2 w
set_option maxHeartbeats 1000000 in
theorem addMul38_raw (lo hi a A b B H L s k S K : Nat) (ha : a < 970881267037344822) (hA : Hid (A = 19 * a)) (hb : b < 9223372036854775808) (hB : Hid (B = b * 2)) (hL : L < 18446744073709551616) (h : Hid (H * 18446744073709551616 + L = A * B))
    (hs : s < 18446744073709551616) (h1 : Hid (k * 18446744073709551616 + s = L + lo + 0)) (hk : k ≤ 1) (hS : S < 18446744073709551616) (h2 : Hid (K * 18446744073709551616 + S = H + hi + k)) (w : World) :
    Calls Tryd.prog 97 #[.agg #[.int .u64 (lo : Int), .int .u64 (hi : Int)], .int .u64 (a : Int), .int .u64 (b : Int)] w fun e w' => e = .returned (.agg #[.int .u64 (s : Int), .int .u64 (S : Int)]) ∧ Below w.heap.size w w' := by
  have r1 : ∀ u : World, (callFunc 95 #[.int .u64 (L : Int), .int .u64 (lo : Int), .int .u64 0]).run Tryd.prog u = .ok (.value (.tuple #[.int .u64 (s : Int), .int .u64 (k : Int)])) u := fun u => Add64_to L lo 0 s k (by omega) h1 hs u
  have r2 := fun u : World => Add64_to H hi k S K hk h2 hS u
  go_enter Tryd.func97, Tryd.ntmps97
  go_wp2_with fail
  refine (mul19_to a A ha hA _).mono ?_
  rintro e w' ⟨rfl, rfl⟩
  go_wp2_with fail
  rw [show (b : Int) * 2 = (B : Int) by have := hB.out; omega]
  refine (Mul64_to A B H L (by have := hA.out; omega) (by have := hB.out; omega) h hL _).mono ?_
  rintro e w' ⟨rfl, rfl⟩
  go_wp2
  exact bodyPost_ret (v := .agg #[.int .u64 (s : Int), .int .u64 (S : Int)]) (by simp [results, Tryd.results97, go_sem]) rfl ⟨rfl, ((Below.refl _ _).alloc (Nat.le_refl _) _).alloc (by simp) _⟩
theorem addMul38_any (V a b R : Nat) (ha : a < 970881267037344822) (hb : b < 9223372036854775808) (hR : Hid (R = V + 38 * (a * b))) (hlt : R < 340282366920938463463374607431768211456) (w : World) :
    Calls Tryd.prog 97 #[.agg (uC V), .int .u64 (a : Int), .int .u64 (b : Int)] w fun e w' => e = .returned (.agg (uC R)) ∧ Below w.heap.size w w' := by
  obtain ⟨A, hA⟩ : ∃ A : Nat, Hid (A = 19 * a) := ⟨_, rfl⟩
  obtain ⟨B, hB⟩ : ∃ B : Nat, Hid (B = b * 2) := ⟨_, rfl⟩
  obtain ⟨H, L, hL, h⟩ := split64 (A * B)
  obtain ⟨hi, lo, hlo, hV⟩ := split64 V
  obtain ⟨k, s, hs, h1⟩ := split64 (L + lo + 0)
  obtain ⟨K, S, hS, h2⟩ := split64 (H + hi + k)
  have hR := hR.out; have hh := h.out; have hv := hV.out; have hh1 := h1.out; have hh2 := h2.out
  rw [show 38 * (a * b) = A * B by rw [hA.out, hB.out]; grind] at hR
  obtain ⟨P, hP⟩ : ∃ P, P = A * B := ⟨_, rfl⟩
  rw [← hP] at hR hh
  have hK : K = 0 := by omega
  rw [uC_of V lo hi hlo (by omega), uC_of R s S hs (by omega)]
  exact addMul38_raw lo hi a A b B H L s k S K ha hA hb hB hL h hs h1 (by omega) hS h2 w
set_option maxHeartbeats 1000000 in
theorem shr51_raw (lo hi R : Nat) (hhi : hi < 2251799813685248) (hlo : lo < 18446744073709551616) (e : bits .or .u64 ((hi : Int) * 8192) ((lo : Int) / 2251799813685248) = (R : Int)) (w : World) :
    Calls Tryd.prog 100 #[.agg #[.int .u64 (lo : Int), .int .u64 (hi : Int)]] w fun e w' => e = .returned (.int .u64 (R : Int)) ∧ Below w.heap.size w w' := by
  go_enter Tryd.func100, Tryd.ntmps100
  go_wp2
  go_ret
  exact ⟨rfl, (Below.refl _ _).alloc (Nat.le_refl _) _⟩
theorem shr51_any (V R : Nat) (hV : V < 41538374868278621028243970633760768) (hR : Hid (R = V / 2251799813685248)) (w : World) :
    Calls Tryd.prog 100 #[.agg (uC V)] w fun e w' => e = .returned (.int .u64 (R : Int)) ∧ Below w.heap.size w w' := by
  obtain ⟨hi, lo, hlo, hv⟩ := split64 V
  have hv := hv.out; have hR := hR.out
  rw [uC_of V lo hi hlo (by omega)]
  have e1 : hi < 2251799813685248 := by omega
  have e2 : hi * 8192 + lo / 2251799813685248 = R := by
    rw [hR, ← hv]
    clear hR hv hV
    omega
  have e3 : lo / 2251799813685248 < 2 ^ 13 := by omega
  have e4 : hi * 2 ^ 13 + lo / 2251799813685248 < 18446744073709551616 := by omega
  have h := or_word hi (lo / 2251799813685248) 13 e3 e4
  have e5 : hi * 2 ^ 13 + lo / 2251799813685248 = R := e2
  rw [e5] at h
  have e6 : ((hi * 2 ^ 13 : Nat) : Int) = (hi : Int) * 8192 := by omega
  have e7 : ((lo / 2251799813685248 : Nat) : Int) = (lo : Int) / 2251799813685248 := by omega
  rw [e6, e7] at h
  exact shr51_raw lo hi R e1 hlo h w
end

end Go.Proofs.YtcenlinpbpbpoaaDoor
