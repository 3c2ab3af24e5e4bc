/- elementBytes, and the kit of the thin package's functions. -/
import Derived.Test.YtmabidcocdflkaaDoorF4
import Derived.Deep.RegionHeld3
import Derived.Laws.CopyOwn
import Derived.Laws.Tables
import Derived.Deep.WholeRow
set_option linter.unusedSimpArgs false
set_option linter.unusedVariables false
namespace Go.Proofs.YtmabidcocdflkaaDoor
open Go.RowKit

def arrC (N : Nat) : Array Value := ((List.range 32).map (byV N)).toArray
theorem arrV_eq (N : Nat) : arrV N = .agg (arrC N) := rfl
theorem arrC_size (N : Nat) : (arrC N).size = 32 := by simp [arrC]
theorem arrC_one (N : Nat) : (arrC N).all (·.oneCell') = true := by
  refine Array.all_eq_true_iff_forall_mem.2 fun v hv => ?_
  simp only [arrC, List.mem_toArray, List.mem_map] at hv
  obtain ⟨i, _, rfl⟩ := hv
  rfl
theorem info32 : (Tryd.prog.info? 22).map (·.size) = some 32 := by kernel_rfl
theorem under32 : Tryd.prog.underlying 22 = some (.array 32 5) := by kernel_rfl
theorem underBs : Tryd.prog.underlying 49 = some (.slice 5) := by kernel_rfl
theorem info8 : (Tryd.prog.info? 5).map (·.size) = some 1 := by kernel_rfl

theorem Row.rangeAt {w : World} {b n : Nat} {vs : Nat → Value} (h : Row w b 0 n vs) : ∀ j v, ((List.range n).map vs)[j]? = some v → w.cell? ((⟨b, 0, none⟩ : Addr).add j) = some v := by
  intro j v hv
  have hj : j < n := by
    rcases Nat.lt_or_ge j n with h | h
    · exact h
    · simp [h] at hv
  have e : (⟨b, 0, none⟩ : Addr).add j = ⟨b, 0 + j, none⟩ := by unfold Addr.add; split <;> simp_all
  rw [e, h.cell hj]
  simpa [hj] using hv

theorem two_new1 (w : World) (o o' : Obj) : ((w.alloc o).alloc o').drew.heap[w.heap.size + 1]? = some o' := by
  have := heap_new (w.alloc o) o'
  rw [alloc_size] at this
  exact this
theorem two_new0 (w : World) (o o' : Obj) : ((w.alloc o).alloc o').drew.heap[w.heap.size]? = some o :=
  (Below.heap_alloc (w.alloc o) o' w.heap.size (by rw [alloc_size]; omega)).trans (heap_new w o)
theorem splice_all (cur cs : List Value) (h : cur.length = cs.length) : splice cur 0 cs = cs := by simp [splice, ← h]


theorem three_new2 (w : World) (a b c : Obj) : (((w.alloc a).alloc b).alloc c).heap[w.heap.size + 1 + 1]? = some c := by
  have := heap_new ((w.alloc a).alloc b) c
  rw [alloc_size, alloc_size] at this
  exact this
theorem three_new1 (w : World) (a b c : Obj) : (((w.alloc a).alloc b).alloc c).heap[w.heap.size + 1]? = some b := by
  have := heap_new (w.alloc a) b
  rw [alloc_size] at this
  exact (Below.heap_alloc ((w.alloc a).alloc b) c (w.heap.size + 1) (by rw [alloc_size, alloc_size]; omega)).trans this
theorem three_new0 (w : World) (a b c : Obj) : (((w.alloc a).alloc b).alloc c).heap[w.heap.size]? = some a :=
  (Below.heap_alloc ((w.alloc a).alloc b) c w.heap.size (by rw [alloc_size, alloc_size]; omega)).trans (two_new0 w a b)

def z5 : L5 := ⟨0, 0, 0, 0, 0⟩
theorem El.newz (w : World) : El (w.alloc (.cells #[.int .u64 0, .int .u64 0, .int .u64 0, .int .u64 0, .int .u64 0] 36)) w.heap.size 0 z5 := by
  refine Row.new _ _ _ _ _ ?_
  intro i hi
  have : i = 0 ∨ i = 1 ∨ i = 2 ∨ i = 3 ∨ i = 4 := by omega
  rcases this with rfl | rfl | rfl | rfl | rfl <;> rfl
theorem apart0 (b b' : Nat) : Apart b 0 b' 0 := by
  unfold Apart
  by_cases h : b = b'
  · exact Or.inl ⟨h, rfl⟩
  · exact Or.inr (Or.inl h)
theorem Sets.block {w w' : World} {b off x : Nat} (h : Sets w w' b off x) (k : Nat) (hk : k < w.heap.size) (hne : k ≠ b) : w'.heap[k]? = w.heap[k]? := by
  obtain ⟨_, _, _, hw⟩ := h
  exact hw.other k hk hne
theorem yieldsIf_load_row {P : Program} {ops : Array Oper} {op : Oper} {a : Act} {n : Nat} {w0 : World} (hw : Region.wanted op (yielded ops a.tmps) = true) (ty : TypeId) (x : Operand) (ho : op.op = .load ty x)
    (g : Nat) (hx : a.eval x = .pointer (some ⟨g, 0, none⟩)) (t : TypeId) (cs : Array Value) (fr : Nat × Nat) (hg : w0.heap[g]? = some (.cells cs t fr)) (hlt : g < n) {d : TypeDesc}
    (hu : P.underlying ty = some d) (hd : (match d with | .struct _ | .array _ _ => true | _ => false) = true) (hi : (P.info? ty).map (·.size) = some cs.size) : YieldsIf P ops (Below n w0) op (.agg cs) a :=
  .inl ⟨hw, fun w hB => by
    unfold execOp
    simp only [ho, hx, Instr.loadAt, Instr.sureAddr, Sem.run_bind, Sem.run_pure, Result.andThen_ok, run_loadVar_row w g t ty cs fr d ((hB.block g hlt).trans hg) hu hd hi]⟩

set_option maxHeartbeats 1000000 in
theorem elementBytes_any (vb vo x : Nat) (w : World) (hF : Fe w vb vo x) :
    Calls Tryd.prog 17 #[.pointer (some ⟨vb, vo, none⟩)] w fun e w' => e = .returned (arrV x) ∧ Below w.heap.size w w' := by
  have hF' := Lib.hid hF; clear hF
  rw [arrV_eq]
  go_enter Tryd.func17, Tryd.ntmps17
  go_wp2
  obtain ⟨zs, hzs⟩ : ∃ zs : Array Value, zs = #[.int .u8 0, .int .u8 0, .int .u8 0, .int .u8 0, .int .u8 0, .int .u8 0, .int .u8 0, .int .u8 0, .int .u8 0, .int .u8 0, .int .u8 0, .int .u8 0, .int .u8 0, .int .u8 0, .int .u8 0, .int .u8 0, .int .u8 0, .int .u8 0, .int .u8 0, .int .u8 0, .int .u8 0, .int .u8 0, .int .u8 0, .int .u8 0, .int .u8 0, .int .u8 0, .int .u8 0, .int .u8 0, .int .u8 0, .int .u8 0, .int .u8 0, .int .u8 0] := ⟨_, rfl⟩
  have hz32 : zs.size = 32 := by rw [hzs]; rfl
  rw [← hzs]
  clear hzs
  go_region_held3 (fun _ => True) (trivial)
    (first
      | (go_at_call 28
         refine (Bytes_any vb vo x _ (Fe.drew (Fe.alloc (Fe.alloc hF'.out _) _))).mono ?_
         rintro e w1 ⟨b, rfl, hb, hB, hR⟩
         have hb1 : w1.heap[w.heap.size + 1]? = some (.cells zs 22 (0, 0)) := (hB.block (w.heap.size + 1) (by simp)).trans (two_new1 w _ _)
         have hb0 : w1.heap[w.heap.size]? = some (.cells zs 22 (0, 0)) := (hB.block (w.heap.size) (by simp; omega)).trans (two_new0 w _ _)
         have hbw := Lib.hid (show Below w.heap.size w w1 from (((Below.refl _ w).alloc (Nat.le_refl _) _).alloc (by simp) _).drew.trans (hB.mono (by simp; omega)))
         clear hB)
      | (refine step_copy_splice rfl _ _ _ _ rfl 5 underBs info8 (some ⟨w.heap.size + 1, 0, none⟩) (some ⟨b, 0, none⟩) 32 32 32 32 rfl rfl (w.heap.size + 1) 0 zs.toList 22 hb1 ((List.range 32).map (byV x)) (by simp) (fun _ => ⟨rfl, _, rfl, hR.rangeAt⟩) (by simp [hz32]) (by simp [byV, Value.oneCell']) (w.heap.size + 1) w1 (Below.refl _ _) (Nat.le_refl _) ?_
         intro w2 hw2 hbw2))
  have hl : w2.heap[w.heap.size + 1]? = some (.cells (arrC x) 22 (0, 0)) := by
    have := hw2.out
    rw [splice_all _ _ (by simp [hz32])] at this
    exact this
  have hs : w2.heap[w.heap.size]? = some (.cells zs 22 (0, 0)) := (hbw2.block _ (by omega)).trans hb0
  have hq := arrC_size x
  have ho := arrC_one x
  have hbw2' := Lib.hid (hbw.out.trans (hbw2.mono (by omega)))
  clear hw2 hbw2 hb1 hb0 hR hb hF' hbw
  have hi : (Tryd.prog.info? 22).map (·.size) = some (arrC x).size := info32.trans (by rw [hq])
  go_wp2_with (first
    | (refine wpList_load_row rfl 22 _ rfl (w.heap.size + 1) rfl 22 (arrC x) (0, 0) _ hl under32 rfl hi ?_)
    | (refine wpList_store_row rfl 22 _ _ rfl w.heap.size (arrC x) rfl rfl 22 zs hs hi (hz32.trans hq.symm) ho ?_))
  refine bodyPost_ret (results_cell_row rfl _ _ w.heap.size 22 (arrC x) (0, 0) _ rfl (setRow_heap _ _ _ _ _ _ hs) under32 rfl hi) rfl ⟨rfl, below_setRow hbw2'.out (Nat.le_refl _) _⟩

def zL : Array Value := #[.int .u8 0, .int .u8 0, .int .u8 0, .int .u8 0, .int .u8 0, .int .u8 0, .int .u8 0, .int .u8 0, .int .u8 0, .int .u8 0, .int .u8 0, .int .u8 0, .int .u8 0, .int .u8 0, .int .u8 0, .int .u8 0, .int .u8 0, .int .u8 0, .int .u8 0, .int .u8 0, .int .u8 0, .int .u8 0, .int .u8 0, .int .u8 0, .int .u8 0, .int .u8 0, .int .u8 0, .int .u8 0, .int .u8 0, .int .u8 0, .int .u8 0, .int .u8 0]
theorem zL_one : zL.all (·.oneCell') = true := by simp [zL, Value.oneCell']
theorem zL_size : zL.size = 32 := by simp [zL]
theorem zL_arr : zL = ((List.range 32).map (byV 0)).toArray := by
  have h : ∀ i, byV 0 i = .int .u8 0 := fun i => by simp [byV, byteN]
  simp [zL, h, List.range, List.range.loop]
set_option maxHeartbeats 1000000 in
theorem zero_any (w : World) : Calls Tryd.prog 12 #[] w fun e w' => e = .returned (arrV 0) ∧ Below w.heap.size w w' := by
  go_enter Tryd.func12, Tryd.ntmps12
  go_wp2_with (refine wpList_store_row rfl 22 _ _ rfl w.heap.size zL rfl rfl 22 zL (heap_new w _) info32 rfl zL_one ?_)
  refine bodyPost_ret (results_cell_row rfl _ _ w.heap.size 22 zL (0, 0) _ rfl (setRow_heap _ _ _ _ _ _ (heap_new w _)) under32 rfl info32) rfl ⟨?_, below_setRow ((Below.refl _ w).alloc (Nat.le_refl _) _) (Nat.le_refl _) _⟩
  rw [zL_arr]; rfl
end Go.Proofs.YtmabidcocdflkaaDoor
