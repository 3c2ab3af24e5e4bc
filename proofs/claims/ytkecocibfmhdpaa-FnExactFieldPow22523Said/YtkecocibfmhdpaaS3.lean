/- The reference's numbers: four words. Plain arithmetic, and sum, rest. -/
import Derived.Test.YtkecocibfmhdpaaS1
import Derived.Test.YtkecocibfmhdpaaF5
import Derived.StillTailTactics
import Derived.LoopTactic
set_option linter.unusedSimpArgs false
set_option linter.unusedVariables false
namespace Go.Proofs.Ytkecocibfmhdpaa
open Go.RowKit

def wordN (N i : Nat) : Nat := N / 18446744073709551616 ^ i % 18446744073709551616
theorem wordN_lt (N i : Nat) : wordN N i < 18446744073709551616 := Nat.mod_lt _ (by omega)
def woV (N i : Nat) : Value := .int .u64 ((wordN N i : Nat) : Int)
def numC (N : Nat) : Array Value := ((List.range 4).map (woV N)).toArray
def numV (N : Nat) : Value := .agg (numC N)
theorem numC_size (N : Nat) : (numC N).size = 4 := by simp [numC]
theorem numC_get (N i : Nat) (hi : i < 4) : (numC N)[i]? = some (woV N i) := by simp [numC, hi]
theorem numC_one (N : Nat) : (numC N).all (·.oneCell') = true := by
  refine Array.all_eq_true_iff_forall_mem.2 fun v hv => ?_
  simp only [numC, List.mem_toArray, List.mem_map] at hv
  obtain ⟨i, _, rfl⟩ := hv
  rfl
theorem infoNum : (Try.prog.info? 51).map (·.size) = some 4 := by kernel_rfl
theorem underNum : Try.prog.underlying 51 = some (.array 4 33) := by kernel_rfl
theorem infoNumC (N : Nat) : (Try.prog.info? 51).map (·.size) = some (numC N).size := infoNum.trans (by rw [numC_size])

def z4 : Array Value := #[.int .u64 0, .int .u64 0, .int .u64 0, .int .u64 0]
theorem z4_one : z4.all (·.oneCell') = true := by simp [z4, Value.oneCell']
theorem woV_zero (i : Nat) : woV 0 i = .int .u64 0 := by simp [woV, wordN]
theorem z4_num : z4 = numC 0 := by simp [z4, numC, woV_zero, List.range, List.range.loop]

theorem num_ext (n : Nat) (cs : Array Value) (hs : cs.size = 4) (h : ∀ i, i < 4 → cs[i]? = some (woV n i)) : cs = numC n := by
  apply Array.ext_getElem?
  intro i
  by_cases hi : i < 4
  · rw [h i hi]; exact (numC_get n i hi).symm
  · rw [Array.getElem?_eq_none (by omega), Array.getElem?_eq_none (by rw [numC_size]; omega)]

theorem Wr.num {w w' : World} {b n : Nat} {cs : Array Value} {t : TypeId} {fr : Nat × Nat} (h : Wr w w' b 0 4 (woV n)) (hb : w.heap[b]? = some (.cells cs t fr)) (hs : cs.size = 4) : w'.heap[b]? = some (.cells (numC n) t fr) := by
  obtain ⟨cs0, t0, fr0, cs', h0, h1, hs', hv⟩ := h.here
  rw [hb] at h0
  injection h0 with h0
  injection h0 with e1 e2 e3
  subst e1; subst e2; subst e3
  rw [h1, num_ext n cs' (by omega) (fun i hi => by rw [hv i (by omega), if_pos (by omega)]; rfl)]

theorem Row.ofNum {w : World} {b : Nat} {N : Nat} {t : TypeId} (h : w.heap[b]? = some (.cells (numC N) t (0, 0))) : Row w b 0 4 (woV N) :=
  ⟨numC N, t, (0, 0), h, fun i hi => ⟨by rw [Nat.zero_add]; exact numC_get N i hi, by simp⟩⟩

theorem four_new3 (w : World) (a b c d : Obj) : ((((w.alloc a).alloc b).alloc c).alloc d).heap[w.heap.size + 1 + 1 + 1]? = some d := by
  have := heap_new (((w.alloc a).alloc b).alloc c) d
  rw [alloc_size, alloc_size, alloc_size] at this
  exact this
theorem four_new2 (w : World) (a b c d : Obj) : ((((w.alloc a).alloc b).alloc c).alloc d).heap[w.heap.size + 1 + 1]? = some c :=
  (Below.heap_alloc _ d (w.heap.size + 1 + 1) (by rw [alloc_size, alloc_size, alloc_size]; omega)).trans (three_new2 w a b c)
theorem four_new1 (w : World) (a b c d : Obj) : ((((w.alloc a).alloc b).alloc c).alloc d).heap[w.heap.size + 1]? = some b :=
  (Below.heap_alloc _ d (w.heap.size + 1) (by rw [alloc_size, alloc_size, alloc_size]; omega)).trans (three_new1 w a b c)
theorem four_new0 (w : World) (a b c d : Obj) : ((((w.alloc a).alloc b).alloc c).alloc d).heap[w.heap.size]? = some a :=
  (Below.heap_alloc _ d w.heap.size (by rw [alloc_size, alloc_size, alloc_size]; omega)).trans (three_new0 w a b c)
theorem four_size (w : World) (a b c d : Obj) : ((((w.alloc a).alloc b).alloc c).alloc d).heap.size = w.heap.size + 4 := by
  rw [alloc_size, alloc_size, alloc_size, alloc_size]
theorem four_below (w : World) (a b c d : Obj) : Below w.heap.size w ((((w.alloc a).alloc b).alloc c).alloc d) :=
  ((((Below.refl _ w).alloc (Nat.le_refl _) _).alloc (by rw [alloc_size]; omega) _).alloc (by rw [alloc_size, alloc_size]; omega) _).alloc (by rw [alloc_size, alloc_size, alloc_size]; omega) _

/-- the carry into word k -/
def carN (a b k : Nat) : Nat := (a % 18446744073709551616 ^ k + b % 18446744073709551616 ^ k) / 18446744073709551616 ^ k
theorem carN_le (a b k : Nat) : carN a b k ≤ 1 := by
  unfold carN
  have h : 0 < 18446744073709551616 ^ k := Nat.pow_pos (by omega)
  have h1 := Nat.mod_lt a h
  have h2 := Nat.mod_lt b h
  have : (a % 18446744073709551616 ^ k + b % 18446744073709551616 ^ k) / 18446744073709551616 ^ k < 2 := by
    rw [Nat.div_lt_iff_lt_mul h]; omega
  omega
theorem carN_step (a b k : Nat) : (wordN a k + wordN b k + carN a b k) / 18446744073709551616 = carN a b (k + 1) := by
  unfold carN wordN
  have h : 0 < 18446744073709551616 ^ k := Nat.pow_pos (by omega)
  rw [Nat.mod_pow_succ, Nat.mod_pow_succ, Nat.pow_succ, ← Nat.div_div_eq_div_mul]
  congr 1
  have e : a % 18446744073709551616 ^ k + 18446744073709551616 ^ k * (a / 18446744073709551616 ^ k % 18446744073709551616) + (b % 18446744073709551616 ^ k + 18446744073709551616 ^ k * (b / 18446744073709551616 ^ k % 18446744073709551616))
      = a % 18446744073709551616 ^ k + b % 18446744073709551616 ^ k + 18446744073709551616 ^ k * (a / 18446744073709551616 ^ k % 18446744073709551616 + b / 18446744073709551616 ^ k % 18446744073709551616) := by
    rw [Nat.mul_add]; omega
  rw [e, Nat.add_mul_div_left _ _ h]
  omega
theorem carN_word (a b k : Nat) : (wordN a k + wordN b k + carN a b k) % 18446744073709551616 = wordN (a + b) k := by
  unfold carN wordN
  have h : 0 < 18446744073709551616 ^ k := Nat.pow_pos (by omega)
  have e : a + b = a % 18446744073709551616 ^ k + b % 18446744073709551616 ^ k + 18446744073709551616 ^ k * (a / 18446744073709551616 ^ k + b / 18446744073709551616 ^ k) := by
    have h1 := Nat.mod_add_div a (18446744073709551616 ^ k)
    have h2 := Nat.mod_add_div b (18446744073709551616 ^ k)
    rw [Nat.mul_add]; omega
  have e2 : (a + b) / 18446744073709551616 ^ k = (a % 18446744073709551616 ^ k + b % 18446744073709551616 ^ k) / 18446744073709551616 ^ k + (a / 18446744073709551616 ^ k + b / 18446744073709551616 ^ k) := by
    conv => lhs; rw [e]
    rw [Nat.add_mul_div_left _ _ h]
  rw [e2]
  omega

set_option maxHeartbeats 1000000 in
theorem sum_raw (a b : Nat) (cA cB : Array Value) (eA : Hid (cA = numC a)) (eB : Hid (cB = numC b)) (w : World) :
    Calls Try.prog 65 #[.agg cA, .agg cB] w fun e w' => e = .returned (numV (a + b)) ∧ Below w.heap.size w w' := by
  unfold numV
  go_enter Try.func65, Try.ntmps65
  go_wp2
  change Code.wp _ _ _ _ ((((w.alloc (.cells cA 51)).alloc (.cells cB 51)).alloc (.cells z4 51)).alloc (.cells z4 51))
  obtain ⟨w1, hw1⟩ : ∃ u : World, u = (((w.alloc (.cells cA 51)).alloc (.cells cB 51)).alloc (.cells z4 51)).alloc (.cells z4 51) := ⟨_, rfl⟩
  rw [← hw1]
  have h0 : w1.heap[w.heap.size]? = some (.cells cA 51 (0, 0)) := by rw [hw1]; exact four_new0 _ _ _ _ _
  have h1 : w1.heap[w.heap.size + 1]? = some (.cells cB 51 (0, 0)) := by rw [hw1]; exact four_new1 _ _ _ _ _
  have h2 : w1.heap[w.heap.size + 1 + 1]? = some (.cells z4 51 (0, 0)) := by rw [hw1]; exact four_new2 _ _ _ _ _
  have h3 : w1.heap[w.heap.size + 1 + 1 + 1]? = some (.cells z4 51 (0, 0)) := by rw [hw1]; exact four_new3 _ _ _ _ _
  have hB := Lib.hid (show Below w.heap.size w w1 by rw [hw1]; exact four_below w _ _ _ _)
  have hs1 : w1.heap.size = w.heap.size + 4 := by rw [hw1, four_size]
  clear hw1
  rw [eA.out] at h0; rw [eB.out] at h1; rw [z4_num] at h2 h3
  have r0 := Lib.hid (Row.ofNum h0); have r1 := Lib.hid (Row.ofNum h1); have r3 := Lib.hid (Row.ofNum h3)
  have H2 := Lib.hid h2; have H3 := Lib.hid h3
  clear h0 h1 h2 h3
  go_loopw [6, 7] (fun c i wr => ∃ k C : Nat, k ≤ 4 ∧ i = .int .i64 (k : Int) ∧ c = .int .u64 (C : Int) ∧ Hid (C = carN a b k) ∧ Hid (Wr w1 wr (w.heap.size + 1 + 1 + 1) 0 4 (fun j => if j < k then woV (a + b) j else woV 0 j))) (fun _ i _ => 4 - (intOf i).toNat)
  case atStart =>
    exact ⟨0, 0, by omega, rfl, rfl, Lib.hid (by simp [carN, Nat.mod_one]), Lib.hid ((Wr.start r3.out).congr fun i _ => by simp)⟩
  case round =>
    obtain ⟨k, C, hk, rfl, rfl, hC, hw⟩ := hrel
    by_cases hlt : k < 4
    · have a0 := ((hw.out.others r0.out (Or.inl (by omega))).cell (i := k) hlt)
      have a1 := ((hw.out.others r1.out (Or.inl (by omega))).cell (i := k) hlt)
      have f3 := (hw.out.row r3.out).frozen (i := k) hlt
      have c3 := (hw.out.row r3.out).cell (i := k) hlt
      simp only [Nat.zero_add] at a0 a1 f3 c3
      rw [if_neg (by omega)] at c3
      unfold woV at a0 a1 c3
      have hc1 : C ≤ 1 := by rw [hC.out]; exact carN_le a b k
      have hadd := run_Add64 (wordN a k) (wordN b k) C hc1
      have es := Lib.hid (carN_step a b k); have ew := Lib.hid (carN_word a b k)
      rw [← hC.out] at es ew
      generalize wordN a k = A0 at *
      generalize wordN b k = B0 at *
      generalize hS : (A0 + B0 + C) % 18446744073709551616 = S at *
      generalize hT : (A0 + B0 + C) / 18446744073709551616 = T at *
      have hS := Lib.hid hS; have hT := Lib.hid hT
      go_wp2
      go_region
      go_wp2
      go_roundw
      case rel =>
        refine ⟨k + 1, T, by omega, by go_num, rfl, es, Lib.hid ?_⟩
        have h9 := (hw.out.set k (.int .u64 (S : Int)) hlt).drew
        rw [Nat.zero_add] at h9
        refine h9.congr fun j hj => ?_
        by_cases hjk : j = k
        · subst hjk
          rw [if_pos (by omega), if_pos rfl]
          unfold woV
          rw [← ew.out]
        · rw [if_neg hjk]
          by_cases h2 : j < k
          · rw [if_pos (by omega), if_pos h2]
          · rw [if_neg (by omega), if_neg h2]
      case measure => simp [intOf]; omega
    · have hw' : Wr w1 wr (w.heap.size + 1 + 1 + 1) 0 4 (woV (a + b)) := hw.out.congr fun j hj => by rw [if_pos (by omega)]
      have hl := hw'.num H3.out (numC_size 0)
      have hs := (hw'.other (w.heap.size + 1 + 1) (by omega) (by omega)).trans H2.out
      have hBw := Lib.hid (hB.out.trans (hw'.below (B := w.heap.size) (by omega) hB.out.size))
      clear hw' hw
      go_wp2_with (first
        | (refine wpList_load_row rfl 51 _ rfl (w.heap.size + 1 + 1 + 1) rfl 51 (numC (a + b)) (0, 0) _ hl underNum rfl (infoNumC _) ?_)
        | (refine wpList_store_row rfl 51 _ _ rfl (w.heap.size + 1 + 1) (numC (a + b)) rfl rfl 51 (numC 0) hs (infoNumC _) (by rw [numC_size, numC_size]) (numC_one _) ?_))
      refine bodyPost_ret (results_cell_row rfl _ _ (w.heap.size + 1 + 1) 51 (numC (a + b)) (0, 0) _ rfl (setRow_heap _ _ _ _ _ _ hs) underNum rfl (infoNumC _)) rfl ⟨rfl, below_setRow hBw.out (by omega) _⟩
theorem sum_any (a b : Nat) (w : World) : Calls Try.prog 65 #[numV a, numV b] w fun e w' => e = .returned (numV (a + b)) ∧ Below w.heap.size w w' :=
  sum_raw a b _ _ rfl rfl w
end Go.Proofs.Ytkecocibfmhdpaa
