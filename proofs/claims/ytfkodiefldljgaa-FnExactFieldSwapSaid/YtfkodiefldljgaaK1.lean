/- Results of several values: rows and slots. -/
import Derived.Test.YtfkodiefldljgaaK0
namespace Go.Proofs.Ytfkodiefldljgaa
open Go.RowKit

theorem results_row2 {P : Program} {fn : Func} {p q : Tmp} {ty : TypeId} (h : fn.results = #[.cell p ty, .cell q ty]) (tmps : Array Value) (w : World) (g : Nat) (t : TypeId) (cs : Array Value) (fr : Nat × Nat) (g' : Nat) (t' : TypeId) (cs' : Array Value) (fr' : Nat × Nat) (d : TypeDesc)
    (hp : tmps.getD p undef = .pointer (some ⟨g, 0, none⟩)) (hq : tmps.getD q undef = .pointer (some ⟨g', 0, none⟩)) (hg : w.heap[g]? = some (.cells cs t fr)) (hg' : w.heap[g']? = some (.cells cs' t' fr'))
    (hu : P.underlying ty = some d) (hd : (match d with | .struct _ | .array _ _ => true | _ => false) = true) (hi : (P.info? ty).map (·.size) = some cs.size) (hi' : (P.info? ty).map (·.size) = some cs'.size) :
    (results fn tmps).run P w = .ok (.tuple #[.agg cs, .agg cs']) w := by
  have hp' : tmps[p]?.getD undef = .pointer (some ⟨g, 0, none⟩) := by simpa using hp
  have hq' : tmps[q]?.getD undef = .pointer (some ⟨g', 0, none⟩) := by simpa using hq
  simp [results, h, hp', hq', asAddr, run_loadVar_row w g t ty cs fr d hg hu hd hi, run_loadVar_row w g' t' ty cs' fr' d hg' hu hd hi']
theorem results_row_tmp2 {P : Program} {fn : Func} {p u u' : Tmp} {ty : TypeId} (h : fn.results = #[.cell p ty, .tmp u, .tmp u']) (tmps : Array Value) (w : World) (g : Nat) (t : TypeId) (cs : Array Value) (fr : Nat × Nat) (d : TypeDesc)
    (hp : tmps.getD p undef = .pointer (some ⟨g, 0, none⟩)) (hg : w.heap[g]? = some (.cells cs t fr))
    (hu : P.underlying ty = some d) (hd : (match d with | .struct _ | .array _ _ => true | _ => false) = true) (hi : (P.info? ty).map (·.size) = some cs.size) :
    (results fn tmps).run P w = .ok (.tuple #[.agg cs, tmps.getD u undef, tmps.getD u' undef]) w := by
  have hp' : tmps[p]?.getD undef = .pointer (some ⟨g, 0, none⟩) := by simpa using hp
  simp [results, h, hp', asAddr, run_loadVar_row w g t ty cs fr d hg hu hd hi]
/-- every block but R and R' is as it was -/
structure Keep2 (R R' : Nat) (w w' : World) : Prop where
  os : w'.os = w.os
  tape : w'.tape = w.tape
  output : w'.output = w.output
  size : w.heap.size ≤ w'.heap.size
  block : ∀ k, k < w.heap.size → k ≠ R → k ≠ R' → w'.heap[k]? = w.heap[k]?
theorem Keep2.start (R R' : Nat) (w : World) : Keep2 R R' w w.drew := ⟨rfl, rfl, rfl, Nat.le_refl _, fun _ _ _ _ => rfl⟩
theorem Keep2.call {R R' : Nat} {w w1 w2 : World} (h : Keep2 R R' w w1) (hC : Below w1.heap.size w1 w2) : Keep2 R R' w w2 :=
  ⟨hC.os.trans h.os, hC.tape.trans h.tape, hC.output.trans h.output, Nat.le_trans h.size hC.size, fun k hk hne hne2 => (hC.block k (Nat.lt_of_lt_of_le hk h.size)).trans (h.block k hk hne hne2)⟩
theorem Keep2.store {R R' : Nat} {w w1 : World} (h : Keep2 R R' w w1) (cs : Array Value) : Keep2 R R' w (w1.setRow R cs) :=
  ⟨h.os, h.tape, h.output, by rw [setRow_size]; exact h.size, fun k hk hne hne2 => (setRow_other _ _ _ _ hne).trans (h.block k hk hne hne2)⟩
theorem Keep2.store' {R R' : Nat} {w w1 : World} (h : Keep2 R R' w w1) (cs : Array Value) : Keep2 R R' w (w1.setRow R' cs) :=
  ⟨h.os, h.tape, h.output, by rw [setRow_size]; exact h.size, fun k hk hne hne2 => (setRow_other _ _ _ _ hne2).trans (h.block k hk hne hne2)⟩
theorem Keep2.storeNew {R R' : Nat} {w w1 : World} (h : Keep2 R R' w w1) (cs : Array Value) {g : Nat} (hg : w.heap.size ≤ g) : Keep2 R R' w (w1.setRow g cs) :=
  ⟨h.os, h.tape, h.output, by rw [setRow_size]; exact h.size, fun k hk hne hne2 => (setRow_other _ _ _ _ (by omega)).trans (h.block k hk hne hne2)⟩
theorem Keep2.sets {R R' : Nat} {w w1 w2 : World} {b off x : Nat} (h : Keep2 R R' w w1) (hs : Sets w1 w2 b off x) (hb : w.heap.size ≤ b) : Keep2 R R' w w2 := by
  obtain ⟨L', _, _, hw⟩ := hs
  exact ⟨hw.os.trans h.os, hw.tape.trans h.tape, hw.output.trans h.output, Nat.le_trans h.size hw.size, fun k hk hne hne2 => (hw.other k (Nat.lt_of_lt_of_le hk h.size) (by omega)).trans (h.block k hk hne hne2)⟩
theorem Keep2.alloc {R R' : Nat} {w w1 : World} (h : Keep2 R R' w w1) (o : Obj) : Keep2 R R' w (w1.alloc o) :=
  ⟨h.os, h.tape, h.output, by rw [alloc_size]; exact Nat.le_trans h.size (Nat.le_succ _), fun k hk hne hne2 => (Below.heap_alloc _ _ _ (Nat.lt_of_lt_of_le hk h.size)).trans (h.block k hk hne hne2)⟩
theorem Keep2.old {R R' : Nat} {w w1 : World} (h : Keep2 R R' w w1) {b : Nat} {o : Obj} (hb : w.heap[b]? = some o) (hne : b ≠ R) (hne2 : b ≠ R') : w1.heap[b]? = some o := (h.block b (heap_lt hb) hne hne2).trans hb
theorem Keep2.below {R R' : Nat} {w w1 : World} (h : Keep2 R R' w w1) {B : Nat} (hB : B ≤ R) (hB2 : B ≤ R') (hs : B ≤ w.heap.size) : Below B w w1 :=
  ⟨h.os, h.tape, h.output, h.size, fun k hk => h.block k (by omega) (by omega) (by omega)⟩

theorem take_row2 {P : Program} {ops : Array Oper} {op : Oper} {a : Act} {R R' : Nat} {w0 : World} (hw : Region.wanted op (yielded ops a.tmps) = true) (ty : TypeId) (x : Operand) (ho : op.op = .load ty x)
    (g : Nat) (hx : a.eval x = .pointer (some ⟨g, 0, none⟩)) (t : TypeId) (cs : Array Value) (fr : Nat × Nat) (hg : w0.heap[g]? = some (.cells cs t fr)) (hne : g ≠ R) (hne2 : g ≠ R') {d : TypeDesc}
    (hu : P.underlying ty = some d) (hd : (match d with | .struct _ | .array _ _ => true | _ => false) = true) (hi : (P.info? ty).map (·.size) = some cs.size) : YieldsIf P ops (Keep2 R R' w0) op (.agg cs) a :=
  .inl ⟨hw, fun w hK => by
    unfold execOp
    simp only [ho, hx, Instr.loadAt, Instr.sureAddr, Sem.run_bind, Sem.run_pure, Result.andThen_ok, run_loadVar_row w g t ty cs fr d (hK.old hg hne hne2) hu hd hi]⟩
end Go.Proofs.Ytfkodiefldljgaa
