/- The reference's numbers: rest, plus, minus. -/
import Derived.Test.YtkecocibfmhdpaaS3
import Derived.Test.YtkecocibfmhdpaaK0
set_option linter.unusedSimpArgs false
set_option linter.unusedVariables false
namespace Go.Proofs.Ytkecocibfmhdpaa
open Go.RowKit

/-- a - b, and 2^256 more where b is greater -/
def difN (a b : Nat) : Nat := if a < b then a + 18446744073709551616 ^ 4 - b else a - b
/-- the borrow out of the words below k -/
def borN (a b k : Nat) : Nat := if a % 18446744073709551616 ^ k < b % 18446744073709551616 ^ k then 1 else 0
theorem borN_le (a b k : Nat) : borN a b k ≤ 1 := by unfold borN; split <;> omega
theorem borN_four (a b : Nat) (ha : a < 18446744073709551616 ^ 4) (hb : b < 18446744073709551616 ^ 4) : borN a b 4 = if a < b then 1 else 0 := by
  unfold borN; rw [Nat.mod_eq_of_lt ha, Nat.mod_eq_of_lt hb]

theorem digit_step (M a b B wa wb : Nat) (hM : 0 < M) (hB : 0 < B) (ha : a < M) (hb : b < M) (hwa : wa < B) (hwb : wb < B) :
    (if wa < wb + (if a < b then 1 else 0) then 1 else 0 : Nat) = if a + M * wa < b + M * wb then 1 else 0 := by
  by_cases h : wa = wb
  · subst h
    by_cases h2 : a < b
    · rw [if_pos h2, if_pos (by omega), if_pos (by omega)]
    · rw [if_neg h2, if_neg (by omega), if_neg (by omega)]
  · by_cases h3 : wa < wb
    · have : M * (wa + 1) ≤ M * wb := Nat.mul_le_mul_left M h3
      rw [Nat.mul_add] at this
      rw [if_pos (show a + M * wa < b + M * wb by omega)]
      rw [if_pos (by split <;> omega)]
    · have : M * (wb + 1) ≤ M * wa := Nat.mul_le_mul_left M (by omega)
      rw [Nat.mul_add] at this
      rw [if_neg (show ¬ a + M * wa < b + M * wb by omega)]
      rw [if_neg (by split <;> omega)]

theorem borN_step (a b k : Nat) : (if wordN a k < wordN b k + borN a b k then 1 else 0 : Nat) = borN a b (k + 1) := by
  unfold borN wordN
  rw [Nat.mod_pow_succ, Nat.mod_pow_succ]
  have h : 0 < 18446744073709551616 ^ k := Nat.pow_pos (by omega)
  exact digit_step _ _ _ 18446744073709551616 _ _ h (by omega) (Nat.mod_lt _ h) (Nat.mod_lt _ h) (Nat.mod_lt _ (by omega)) (Nat.mod_lt _ (by omega))

theorem bor_low (a b c k : Nat) (h : (c + b) % 18446744073709551616 ^ k = a % 18446744073709551616 ^ k) :
    a % 18446744073709551616 ^ k + borN a b k * 18446744073709551616 ^ k = b % 18446744073709551616 ^ k + c % 18446744073709551616 ^ k := by
  have hM : 0 < 18446744073709551616 ^ k := Nat.pow_pos (by omega)
  unfold borN
  rw [Nat.add_mod] at h
  generalize 18446744073709551616 ^ k = M at *
  have h1 := Nat.mod_lt a hM
  have h2 := Nat.mod_lt b hM
  have h3 := Nat.mod_lt c hM
  generalize a % M = A at *
  generalize b % M = B at *
  generalize c % M = C at *
  by_cases hs : C + B < M
  · rw [Nat.mod_eq_of_lt hs] at h
    rw [if_neg (by omega)]; omega
  · have : (C + B) % M = C + B - M := by
      rw [Nat.mod_eq_sub_mod (by omega), Nat.mod_eq_of_lt (by omega)]
    rw [if_pos (by omega)]; omega

theorem borN_word (a b k : Nat) (ha : a < 18446744073709551616 ^ 4) (hb : b < 18446744073709551616 ^ 4) (hk : k < 4) :
    (wordN a k + 18446744073709551616 - wordN b k - borN a b k) % 18446744073709551616 = wordN (difN a b) k := by
  have hd : ∀ j, j ≤ 4 → (difN a b + b) % 18446744073709551616 ^ j = a % 18446744073709551616 ^ j := by
    intro j hj
    unfold difN
    by_cases h : a < b
    · rw [if_pos h]
      have e : a + 18446744073709551616 ^ 4 - b + b = a + 18446744073709551616 ^ j * 18446744073709551616 ^ (4 - j) := by
        rw [← Nat.pow_add, show j + (4 - j) = 4 by omega]; omega
      rw [e, Nat.add_mul_mod_self_left]
    · rw [if_neg h, Nat.sub_add_cancel (by omega)]
  have h0 := bor_low a b (difN a b) k (hd k (by omega))
  have h1 := bor_low a b (difN a b) (k + 1) (hd (k + 1) (by omega))
  rw [Nat.mod_pow_succ, Nat.mod_pow_succ, Nat.mod_pow_succ, Nat.pow_succ] at h1
  have hM : 0 < 18446744073709551616 ^ k := Nat.pow_pos (by omega)
  have g1 := borN_le a b k
  have g2 := borN_le a b (k + 1)
  have w1 := wordN_lt a k
  have w2 := wordN_lt b k
  have w3 := wordN_lt (difN a b) k
  change a % 18446744073709551616 ^ k + 18446744073709551616 ^ k * wordN a k + borN a b (k + 1) * (18446744073709551616 ^ k * 18446744073709551616) = b % 18446744073709551616 ^ k + 18446744073709551616 ^ k * wordN b k + (difN a b % 18446744073709551616 ^ k + 18446744073709551616 ^ k * wordN (difN a b) k) at h1
  generalize wordN (difN a b) k = c at *
  generalize wordN a k = A at *
  generalize wordN b k = B at *
  generalize borN a b (k + 1) = t at *
  generalize borN a b k = s at *
  have key : 18446744073709551616 ^ k * (A + t * 18446744073709551616) = 18446744073709551616 ^ k * (B + c + s) := by
    rw [Nat.mul_add, Nat.mul_add, Nat.mul_add]
    have : 18446744073709551616 ^ k * (t * 18446744073709551616) = t * (18446744073709551616 ^ k * 18446744073709551616) := by rw [Nat.mul_left_comm]
    rw [this]
    have h5 : 18446744073709551616 ^ k * s = s * 18446744073709551616 ^ k := Nat.mul_comm _ _
    rw [h5]
    omega
  have key := Nat.eq_of_mul_eq_mul_left hM key
  have : t = 0 ∨ t = 1 := by omega
  rcases this with rfl | rfl <;> omega

set_option maxHeartbeats 1000000 in
theorem rest_raw (a b : Nat) (ha : a < 18446744073709551616 ^ 4) (hb : b < 18446744073709551616 ^ 4) (cA cB : Array Value) (eA : Hid (cA = numC a)) (eB : Hid (cB = numC b)) (w : World) :
    Calls Try.prog 49 #[.agg cA, .agg cB] w fun e w' => e = .returned (.tuple #[numV (difN a b), .int .u64 ((if a < b then 1 else 0 : Nat) : Int)]) ∧ Below w.heap.size w w' := by
  unfold numV
  obtain ⟨Z, hZ⟩ : ∃ Z : Nat, Z = if a < b then 1 else 0 := ⟨_, rfl⟩
  rw [← hZ]
  have HZ := Lib.hid hZ; clear hZ
  go_enter Try.func49, Try.ntmps49
  go_wp2
  change Code.wp _ _ _ _ ((((w.alloc (.cells cA 51)).alloc (.cells cB 51)).alloc (.cells z4 51)).alloc (.cells z4 51))
  obtain ⟨w1, hw1⟩ : ∃ u : World, u = (((w.alloc (.cells cA 51)).alloc (.cells cB 51)).alloc (.cells z4 51)).alloc (.cells z4 51) := ⟨_, rfl⟩
  rw [← hw1]
  have h0 : w1.heap[w.heap.size]? = some (.cells cA 51 (0, 0)) := by rw [hw1]; exact four_new0 _ _ _ _ _
  have h1 : w1.heap[w.heap.size + 1]? = some (.cells cB 51 (0, 0)) := by rw [hw1]; exact four_new1 _ _ _ _ _
  have h2 : w1.heap[w.heap.size + 1 + 1]? = some (.cells z4 51 (0, 0)) := by rw [hw1]; exact four_new2 _ _ _ _ _
  have h3 : w1.heap[w.heap.size + 1 + 1 + 1]? = some (.cells z4 51 (0, 0)) := by rw [hw1]; exact four_new3 _ _ _ _ _
  have hB := Lib.hid (show Below w.heap.size w w1 by rw [hw1]; exact four_below w _ _ _ _)
  have hs1 : w1.heap.size = w.heap.size + 4 := by rw [hw1, four_size]
  clear hw1
  rw [eA.out] at h0; rw [eB.out] at h1; rw [z4_num] at h2 h3
  have r0 := Lib.hid (Row.ofNum h0); have r1 := Lib.hid (Row.ofNum h1); have r3 := Lib.hid (Row.ofNum h3)
  have H2 := Lib.hid h2; have H3 := Lib.hid h3
  clear h0 h1 h2 h3
  go_loopw [7, 8] (fun c i wr => ∃ k C : Nat, k ≤ 4 ∧ i = .int .i64 (k : Int) ∧ c = .int .u64 (C : Int) ∧ Hid (C = borN a b k) ∧ Hid (Wr w1 wr (w.heap.size + 1 + 1 + 1) 0 4 (fun j => if j < k then woV (difN a b) j else woV 0 j))) (fun _ i _ => 4 - (intOf i).toNat)
  case atStart =>
    exact ⟨0, 0, by omega, rfl, rfl, Lib.hid (by simp [borN, Nat.mod_one]), Lib.hid ((Wr.start r3.out).congr fun i _ => by simp)⟩
  case round =>
    obtain ⟨k, C, hk, rfl, rfl, hC, hw⟩ := hrel
    by_cases hlt : k < 4
    · have a0 := ((hw.out.others r0.out (Or.inl (by omega))).cell (i := k) hlt)
      have a1 := ((hw.out.others r1.out (Or.inl (by omega))).cell (i := k) hlt)
      have f3 := (hw.out.row r3.out).frozen (i := k) hlt
      have c3 := (hw.out.row r3.out).cell (i := k) hlt
      simp only [Nat.zero_add] at a0 a1 f3 c3
      rw [if_neg (by omega)] at c3
      unfold woV at a0 a1 c3
      have hc1 : C ≤ 1 := by rw [hC.out]; exact borN_le a b k
      have hadd := run_Sub64 (wordN a k) (wordN b k) C hc1
      have es := Lib.hid (borN_step a b k); have ew := Lib.hid (borN_word a b k ha hb hlt)
      rw [← hC.out] at es ew
      generalize wordN a k = A0 at *
      generalize wordN b k = B0 at *
      generalize hS : (A0 + 18446744073709551616 - B0 - C) % 18446744073709551616 = S at *
      generalize hT : (if A0 < B0 + C then 1 else 0 : Nat) = T at *
      have hS := Lib.hid hS; have hT := Lib.hid hT
      go_wp2
      go_region
      go_wp2
      go_roundw
      case rel =>
        refine ⟨k + 1, T, by omega, by go_num, rfl, es, Lib.hid ?_⟩
        have h9 := (hw.out.set k (.int .u64 (S : Int)) hlt).drew
        rw [Nat.zero_add] at h9
        refine h9.congr fun j hj => ?_
        by_cases hjk : j = k
        · subst hjk
          rw [if_pos (by omega), if_pos rfl]
          unfold woV
          rw [← ew.out]
        · rw [if_neg hjk]
          by_cases h2 : j < k
          · rw [if_pos (by omega), if_pos h2]
          · rw [if_neg (by omega), if_neg h2]
      case measure => simp [intOf]; omega
    · have hw' : Wr w1 wr (w.heap.size + 1 + 1 + 1) 0 4 (woV (difN a b)) := hw.out.congr fun j hj => by rw [if_pos (by omega)]
      have hl := hw'.num H3.out (numC_size 0)
      have hs := (hw'.other (w.heap.size + 1 + 1) (by omega) (by omega)).trans H2.out
      have hBw := Lib.hid (hB.out.trans (hw'.below (B := w.heap.size) (by omega) hB.out.size))
      clear hw' hw
      obtain rfl : k = 4 := by omega
      have hCZ : C = Z := by rw [hC.out, HZ.out]; exact borN_four a b ha hb
      subst hCZ
      go_wp2_with (first
        | (refine wpList_load_row rfl 51 _ rfl (w.heap.size + 1 + 1 + 1) rfl 51 (numC (difN a b)) (0, 0) _ hl underNum rfl (infoNumC _) ?_)
        | (refine wpList_store_row rfl 51 _ _ rfl (w.heap.size + 1 + 1) (numC (difN a b)) rfl rfl 51 (numC 0) hs (infoNumC _) (by rw [numC_size, numC_size]) (numC_one _) ?_))
      refine bodyPost_ret (results_row_tmp rfl _ _ (w.heap.size + 1 + 1) 51 (numC (difN a b)) (0, 0) _ rfl (setRow_heap _ _ _ _ _ _ hs) underNum rfl (infoNumC _)) rfl ⟨rfl, below_setRow hBw.out (by omega) _⟩
theorem rest_any (a b : Nat) (ha : a < 18446744073709551616 ^ 4) (hb : b < 18446744073709551616 ^ 4) (w : World) : Calls Try.prog 49 #[numV a, numV b] w fun e w' => e = .returned (.tuple #[numV (difN a b), .int .u64 ((if a < b then 1 else 0 : Nat) : Int)]) ∧ Below w.heap.size w w' :=
  rest_raw a b ha hb _ _ rfl rfl w
end Go.Proofs.Ytkecocibfmhdpaa
