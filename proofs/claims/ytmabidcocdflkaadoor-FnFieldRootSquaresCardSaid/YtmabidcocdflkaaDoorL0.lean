/- The kit of the laws: arrays compared, regions that only make memory, number. -/
import Derived.Test.YtmabidcocdflkaaDoorF6
import Derived.Deep.Quiet
import Derived.ChangeKeysEq
import Derived.LoopTactic
set_option linter.unusedSimpArgs false
set_option linter.unusedVariables false
namespace Go.Proofs.YtmabidcocdflkaaDoor
open Go.RowKit

theorem bytes_mod (x y : Nat) : ∀ n, (∀ i, i < n → byteN x i = byteN y i) → x % 256 ^ n = y % 256 ^ n
  | 0, _ => by simp [Nat.mod_one]
  | n + 1, h => by
    rw [Nat.mod_pow_succ, Nat.mod_pow_succ, bytes_mod x y n (fun i hi => h i (by omega))]
    have := h n (by omega)
    unfold byteN at this
    rw [this]

theorem bytes_all (x y : Nat) (hx : x < 256 ^ 32) (hy : y < 256 ^ 32) : ((List.range 32).all fun i => byteN x i == byteN y i) = decide (x = y) := by
  by_cases h : x = y
  · subst h; simp
  · have : ¬ ((List.range 32).all fun i => byteN x i == byteN y i) = true := by
      intro ha
      refine h ?_
      have := bytes_mod x y 32 (fun i hi => by
        have := List.all_eq_true.1 ha i (List.mem_range.2 hi)
        simpa using this)
      rwa [Nat.mod_eq_of_lt hx, Nat.mod_eq_of_lt hy] at this
    simp only [Bool.not_eq_true] at this
    rw [this]
    simp [h]

theorem under8 : Tryd.prog.underlying 5 = some (.int .u8) := by kernel_rfl
theorem plain8 : Tryd.prog.plainKey 5 = true := by kernel_rfl
theorem cells8 : Tryd.prog.cellsOf 5 = 1 := by kernel_rfl
theorem hasInfo8 : ∃ i, Tryd.prog.info? 5 = some i := by
  cases h : Tryd.prog.info? 5 with
  | none => have := info8; rw [h] at this; cases this
  | some i => exact ⟨i, rfl⟩

theorem arrC_get (N i : Nat) (hi : i < 32) : (arrC N)[i]? = some (.int .u8 ((byteN N i : Nat) : Int)) := arr_get N i hi

theorem run_items (d x y : Nat) (w : World) : ∀ l : List Nat, (∀ i, i ∈ l → i < 32) → (Op.eqItems (d + 1) 5 1 (arrC x) (arrC y) l).run Tryd.prog w = .ok (l.all fun i => byteN x i == byteN y i) w
  | [], _ => by simp [Op.eqItems]
  | i :: l, h => by
    have hi := h i (by simp)
    have ih := run_items d x y w l (fun j hj => h j (by simp [hj]))
    have e1 := run_part_plain (P := Tryd.prog) w plain8 (arrC_get x i hi)
    have e2 := run_part_plain (P := Tryd.prog) w plain8 (arrC_get y i hi)
    simp only [Op.eqItems, Sem.run_bind, Nat.mul_one]
    simp only [e1, e2, Result.andThen_ok, run_equalIn_int (P := Tryd.prog) (w := w) d 5 .u8 .u8 _ _ under8]
    by_cases hb : byteN x i = byteN y i
    · simp [hb, ih]
    · have hb' : ¬ ((byteN x i : Nat) : Int) = ((byteN y i : Nat) : Int) := by omega
      simp [hb, hb']

theorem run_eq_arr (x y : Nat) (hx : x < 256 ^ 32) (hy : y < 256 ^ 32) (w : World) : (Op.equalIn 10000 22 (.agg (arrC x)) (.agg (arrC y))).run Tryd.prog w = .ok (decide (x = y)) w := by
  obtain ⟨i, hi⟩ := hasInfo8
  rw [run_equalIn_array w 9999 (arrC x) (arrC y) under32 hi, cells8, run_items 9998 x y w (List.range 32) (fun i hi => List.mem_range.1 hi), bytes_all x y hx hy]

theorem quiet_load {P : Program} {n : Nat} {w0 w : World} {o : Oper} {a : Act} (ty : TypeId) (x : Operand) (ho : o.op = .load ty x)
    (g : Nat) (hx : a.eval x = .pointer (some ⟨g, 0, none⟩)) (t : TypeId) (cs : Array Value) (fr : Nat × Nat) (hg : w0.heap[g]? = some (.cells cs t fr)) (hlt : g < n) {d : TypeDesc}
    (hu : P.underlying ty = some d) (hd : (match d with | .struct _ | .array _ _ => true | _ => false) = true) (hi : (P.info? ty).map (·.size) = some cs.size) (hB : Below n w0 w) {C : World → Prop} : o.quietAt P a C w (.agg cs) := by
  unfold Oper.quietAt execOp
  simp only [ho, hx, Instr.loadAt, Instr.sureAddr, Sem.run_bind, Sem.run_pure, Result.andThen_ok, run_loadVar_row w g t ty cs fr d ((hB.block g hlt).trans hg) hu hd hi]
  exact ⟨rfl, rfl⟩

theorem quiet_call {P : Program} {C : World → Prop} {o : Oper} {a : Act} {w : World} {v : Value} (f : FuncId) (args : Array Value) (hrun : (execOp a.eval o).run P w = .ok (.enter f args) w) (hc : Calls P f args w (fun e w'' => e = .returned v ∧ C w'')) : o.quietAt P a C w v := by
  unfold Oper.quietAt
  rw [hrun]
  exact ⟨rfl, hc⟩

theorem quiet_run {P : Program} {C : World → Prop} {o : Oper} {a : Act} {w : World} {v : Value} (hrun : (execOp a.eval o).run P w = .ok (.value v) w) : o.quietAt P a C w v := by
  unfold Oper.quietAt
  rw [hrun]
  exact ⟨rfl, rfl⟩

theorem arr_ext (n : Nat) (cs : Array Value) (hs : cs.size = 32) (h : ∀ i, i < 32 → cs[i]? = some (byV n i)) : cs = arrC n := by
  apply Array.ext_getElem?
  intro i
  by_cases hi : i < 32
  · rw [h i hi]; exact (arr_get n i hi).symm
  · rw [Array.getElem?_eq_none (by omega), Array.getElem?_eq_none (by rw [arrC_size]; omega)]

theorem Wr.arr {w w' : World} {b n : Nat} {cs : Array Value} {t : TypeId} {fr : Nat × Nat} (h : Wr w w' b 0 32 (byV n)) (hb : w.heap[b]? = some (.cells cs t fr)) (hs : cs.size = 32) : w'.heap[b]? = some (.cells (arrC n) t fr) := by
  obtain ⟨cs0, t0, fr0, cs', h0, h1, hs', hv⟩ := h.here
  rw [hb] at h0
  injection h0 with h0
  injection h0 with e1 e2 e3
  subst e1; subst e2; subst e3
  rw [h1, arr_ext n cs' (by omega) (fun i hi => by rw [hv i (by omega), if_pos (by omega)]; rfl)]

theorem Row.ofArr {w : World} {b : Nat} {N : Nat} {t : TypeId} (h : w.heap[b]? = some (.cells (arrC N) t (0, 0))) : Row w b 0 32 (byV N) :=
  ⟨arrC N, t, (0, 0), h, fun i hi => ⟨by rw [Nat.zero_add]; exact arr_get N i hi, by simp⟩⟩

theorem zL_arrC : zL = arrC 0 := zL_arr

theorem byV_high (n j : Nat) (hn : n < 9223372036854775808) (hj : 8 ≤ j) : byV n j = byV 0 j := by
  unfold byV byteN
  have : n / 256 ^ j = 0 := Nat.div_eq_of_lt (Nat.lt_of_lt_of_le (show n < 256 ^ 8 by omega) (Nat.pow_le_pow_right (by omega) hj))
  simp [this]

set_option maxHeartbeats 1000000 in
theorem number_any (n : Nat) (hn : n < 9223372036854775808) (w : World) :
    Calls Tryd.prog 8 #[.int .i64 (n : Int)] w fun e w' => e = .returned (arrV n) ∧ Below w.heap.size w w' := by
  rw [arrV_eq]
  go_enter Tryd.func8, Tryd.ntmps8
  go_wp2_with (refine wpList_store_row rfl 22 _ _ rfl (w.heap.size + 1) zL rfl rfl 22 zL (two_new1 w _ _) info32 rfl zL_one ?_)
  obtain ⟨w1, hw1⟩ : ∃ u : World, u = ((w.alloc (.cells zL 22)).alloc (.cells zL 22)).setRow (w.heap.size + 1) zL := ⟨_, rfl⟩
  have h1 : w1.heap[w.heap.size + 1]? = some (.cells zL 22 (0, 0)) := by rw [hw1]; exact setRow_heap _ _ _ _ _ _ (two_new1 w _ _)
  have h0 : w1.heap[w.heap.size]? = some (.cells zL 22 (0, 0)) := by rw [hw1, setRow_other _ _ _ _ (by omega)]; exact two_new0 w _ _
  have hB := Lib.hid (show Below w.heap.size w w1 by rw [hw1]; exact below_setRow (((Below.refl _ w).alloc (Nat.le_refl _) _).alloc (by rw [alloc_size]; omega) _) (by omega) _)
  change Code.wp _ _ _ _ (((w.alloc (.cells zL 22)).alloc (.cells zL 22)).setRow (w.heap.size + 1) zL)
  rw [← hw1]
  clear hw1
  rw [zL_arrC] at h0 h1
  have hr := Lib.hid (Row.ofArr h1)
  have h0' := Lib.hid h0
  have h1' := Lib.hid h1
  clear h0 h1
  go_loopw [4] (fun i wr => ∃ k : Nat, k ≤ 8 ∧ i = .int .i64 (k : Int) ∧ Hid (Wr w1 wr (w.heap.size + 1) 0 32 (fun j => if j < k then byV n j else byV 0 j))) (fun i _ => 8 - (intOf i).toNat)
  case atStart =>
    exact ⟨0, by omega, rfl, Lib.hid ((Wr.start hr.out).congr fun i _ => by simp)⟩
  case round =>
    obtain ⟨k, hk, rfl, hw⟩ := hrel
    by_cases hlt : k < 8
    · have hf := (hw.out.row hr.out).frozen (i := k) (by omega)
      have hc := (hw.out.row hr.out).cell (i := k) (by omega)
      rw [if_neg (by omega)] at hc
      simp only [Nat.zero_add] at hf hc
      go_wp2
      go_roundw
      case rel =>
        refine ⟨k + 1, by omega, by go_num, Lib.hid ?_⟩
        have h9 := hw.out.set k (byV n k) (by omega)
        rw [Nat.zero_add, byV_shift] at h9
        refine h9.congr fun j hj => ?_
        by_cases hjk : j = k
        · subst hjk
          rw [if_pos (by omega), if_pos rfl]
          exact byV_shift n j
        · rw [if_neg hjk]
          by_cases h2 : j < k
          · rw [if_pos (by omega), if_pos h2]
          · rw [if_neg (by omega), if_neg h2]
      case measure => simp [intOf]; omega
    · have hw' : Wr w1 wr (w.heap.size + 1) 0 32 (byV n) := hw.out.congr fun j hj => by
        by_cases hj8 : j < k
        · rw [if_pos hj8]
        · rw [if_neg hj8]; exact byV_high n j hn (by omega)
      have hl := hw'.arr h1'.out (arrC_size 0)
      have hs : wr.heap[w.heap.size]? = some (.cells (arrC 0) 22 (0, 0)) := (hw'.other _ (by have := h1'.out; rcases Nat.lt_or_ge w.heap.size w1.heap.size with h | h; exact h; rw [Array.getElem?_eq_none (by omega)] at this; cases this) (by omega)).trans h0'.out
      have hBw := Lib.hid (hB.out.trans (hw'.below (B := w.heap.size) (by omega) hB.out.size))
      clear hw'
      go_wp2_with (first
        | (refine wpList_load_row rfl 22 _ rfl (w.heap.size + 1) rfl 22 (arrC n) (0, 0) _ hl under32 rfl (info32.trans (by rw [arrC_size])) ?_)
        | (refine wpList_store_row rfl 22 _ _ rfl w.heap.size (arrC n) rfl rfl 22 (arrC 0) hs (info32.trans (by rw [arrC_size])) (by rw [arrC_size, arrC_size]) (arrC_one n) ?_))
      refine bodyPost_ret (results_cell_row rfl _ _ w.heap.size 22 (arrC n) (0, 0) _ rfl (setRow_heap _ _ _ _ _ _ hs) under32 rfl (info32.trans (by rw [arrC_size]))) rfl ⟨rfl, below_setRow hBw.out (Nat.le_refl _) _⟩
end Go.Proofs.YtmabidcocdflkaaDoor
