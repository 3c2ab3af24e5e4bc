/- The kit of generated walks: blocks known whole, worlds named, regions in whatever order. -/
import Derived.Test.YtmabidcocdflkaaDoorF5
import Derived.Deep.Quiet
set_option linter.unusedSimpArgs false
set_option linter.unusedVariables false
namespace Go.Proofs.YtmabidcocdflkaaDoor
open Go.RowKit

theorem heap_lt {w : World} {b : Nat} {o : Obj} (h : w.heap[b]? = some o) : b < w.heap.size := by
  rcases Nat.lt_or_ge b w.heap.size with hlt | hge
  · exact hlt
  · rw [Array.getElem?_eq_none hge] at h; cases h
theorem heap_new_at (w : World) (o : Obj) (n : Nat) (h : w.heap.size = n) : (w.alloc o).heap[n]? = some o := by
  subst h; exact heap_new w o
theorem heap_old {w : World} {b : Nat} {o : Obj} (o' : Obj) (h : w.heap[b]? = some o) : (w.alloc o').heap[b]? = some o := (Below.heap_alloc w o' b (heap_lt h)).trans h
theorem setRow_size (w : World) (b : Nat) (cs : Array Value) : (w.setRow b cs).heap.size = w.heap.size := by simp [World.setRow]
theorem drew_size (w : World) : w.drew.heap.size = w.heap.size := rfl
theorem heap_row {w : World} {b c : Nat} {o : Obj} (cs : Array Value) (hne : b ≠ c) (h : w.heap[b]? = some o) : (w.setRow c cs).heap[b]? = some o := (setRow_other _ _ _ _ hne).trans h
theorem heap_call {w w' : World} {b : Nat} {o : Obj} (hC : Below w.heap.size w w') (h : w.heap[b]? = some o) : w'.heap[b]? = some o := (hC.block b (heap_lt h)).trans h
theorem below_call {w w1 w2 : World} (h : Below w.heap.size w w1) (hC : Below w1.heap.size w1 w2) : Below w.heap.size w w2 := h.trans (hC.mono h.size)
theorem below_alloc {w w1 : World} (h : Below w.heap.size w w1) (o : Obj) : Below w.heap.size w (w1.alloc o) := h.alloc h.size o

theorem wp_named {P : Program} {c : Code} {Q : Exit → Act → World → Prop} {a : Act} {w : World} (h : ∀ u : World, u = w → c.wp P Q a u) : c.wp P Q a w := h w rfl

/-- a load of a row under a guard that is met -/
theorem load_guarded {P : Program} {ops : Array Oper} {rest : List Oper} {o : Oper} {a : Act} {w : World} {Q : Exit → Act → World → Prop} (hw : Region.wanted o (yielded ops a.tmps) = true) (ty : TypeId) (x : Operand) (ho : o.op = .load ty x)
    (g : Nat) (hx : a.eval x = .pointer (some ⟨g, 0, none⟩)) (t : TypeId) (cs : Array Value) (fr : Nat × Nat) (d : TypeDesc) (hg : w.heap[g]? = some (.cells cs t fr))
    (hu : P.underlying ty = some d) (hd : (match d with | .struct _ | .array _ _ => true | _ => false) = true) (hi : (P.info? ty).map (·.size) = some cs.size)
    (h : wpList P ops Q rest (a.put o.dst (.agg cs)) w) : wpList P ops Q (o :: rest) a w :=
  wpList_step fun _ hK => by rw [if_pos hw]; exact wp_load_row ty x ho g hx t cs fr d hg hu hd hi (hK _ _ h)
/-- which operation stands next: by its slot; a store by the slot of its address -/
theorem at_dst (d : Nat) {P : Program} {ops : Array Oper} {Q : Exit → Act → World → Prop} {rest : List Oper} {op : Op} {ty : TypeId} {pos : String} {af : Array Edge} {gd : Option (Nat × Bool)} {a : Act} {w : World}
    (h : wpList P ops Q (⟨some d, op, ty, pos, af, gd⟩ :: rest) a w) : wpList P ops Q (⟨some d, op, ty, pos, af, gd⟩ :: rest) a w := h
theorem at_store (p : Nat) {P : Program} {ops : Array Oper} {Q : Exit → Act → World → Prop} {rest : List Oper} {T : TypeId} {x : Operand} {ty : TypeId} {pos : String} {af : Array Edge} {gd : Option (Nat × Bool)} {a : Act} {w : World}
    (h : wpList P ops Q (⟨none, .store T (.tmp p) x, ty, pos, af, gd⟩ :: rest) a w) : wpList P ops Q (⟨none, .store T (.tmp p) x, ty, pos, af, gd⟩ :: rest) a w := h

/-- every block but R is as it was -/
structure Keep (R : Nat) (w w' : World) : Prop where
  os : w'.os = w.os
  tape : w'.tape = w.tape
  output : w'.output = w.output
  size : w.heap.size ≤ w'.heap.size
  block : ∀ k, k < w.heap.size → k ≠ R → w'.heap[k]? = w.heap[k]?
theorem Keep.start (R : Nat) (w : World) : Keep R w w.drew := ⟨rfl, rfl, rfl, Nat.le_refl _, fun _ _ _ => rfl⟩
theorem Keep.call {R : Nat} {w w1 w2 : World} (h : Keep R w w1) (hC : Below w1.heap.size w1 w2) : Keep R w w2 :=
  ⟨hC.os.trans h.os, hC.tape.trans h.tape, hC.output.trans h.output, Nat.le_trans h.size hC.size, fun k hk hne => (hC.block k (Nat.lt_of_lt_of_le hk h.size)).trans (h.block k hk hne)⟩
theorem Keep.store {R : Nat} {w w1 : World} (h : Keep R w w1) (cs : Array Value) : Keep R w (w1.setRow R cs) :=
  ⟨h.os, h.tape, h.output, by rw [setRow_size]; exact h.size, fun k hk hne => (setRow_other _ _ _ _ hne).trans (h.block k hk hne)⟩
theorem Keep.storeNew {R : Nat} {w w1 : World} (h : Keep R w w1) (cs : Array Value) {g : Nat} (hg : w.heap.size ≤ g) : Keep R w (w1.setRow g cs) :=
  ⟨h.os, h.tape, h.output, by rw [setRow_size]; exact h.size, fun k hk hne => (setRow_other _ _ _ _ (by omega)).trans (h.block k hk hne)⟩
theorem Keep.sets {R : Nat} {w w1 w2 : World} {b off x : Nat} (h : Keep R w w1) (hs : Sets w1 w2 b off x) (hb : w.heap.size ≤ b) : Keep R w w2 := by
  obtain ⟨L', _, _, hw⟩ := hs
  exact ⟨hw.os.trans h.os, hw.tape.trans h.tape, hw.output.trans h.output, Nat.le_trans h.size hw.size, fun k hk hne => (hw.other k (Nat.lt_of_lt_of_le hk h.size) (by omega)).trans (h.block k hk hne)⟩
theorem Keep.alloc {R : Nat} {w w1 : World} (h : Keep R w w1) (o : Obj) : Keep R w (w1.alloc o) :=
  ⟨h.os, h.tape, h.output, by rw [alloc_size]; exact Nat.le_trans h.size (Nat.le_succ _), fun k hk hne => (Below.heap_alloc _ _ _ (Nat.lt_of_lt_of_le hk h.size)).trans (h.block k hk hne)⟩
theorem Keep.old {R : Nat} {w w1 : World} (h : Keep R w w1) {b : Nat} {o : Obj} (hb : w.heap[b]? = some o) (hne : b ≠ R) : w1.heap[b]? = some o := (h.block b (heap_lt hb) hne).trans hb
theorem Keep.below {R : Nat} {w w1 : World} (h : Keep R w w1) {B : Nat} (hB : B ≤ R) (hs : B ≤ w.heap.size) : Below B w w1 :=
  ⟨h.os, h.tape, h.output, h.size, fun k hk => h.block k (by omega) (by omega)⟩

theorem take_row {P : Program} {ops : Array Oper} {op : Oper} {a : Act} {R : Nat} {w0 : World} (hw : Region.wanted op (yielded ops a.tmps) = true) (ty : TypeId) (x : Operand) (ho : op.op = .load ty x)
    (g : Nat) (hx : a.eval x = .pointer (some ⟨g, 0, none⟩)) (t : TypeId) (cs : Array Value) (fr : Nat × Nat) (hg : w0.heap[g]? = some (.cells cs t fr)) (hne : g ≠ R) {d : TypeDesc}
    (hu : P.underlying ty = some d) (hd : (match d with | .struct _ | .array _ _ => true | _ => false) = true) (hi : (P.info? ty).map (·.size) = some cs.size) : YieldsIf P ops (Keep R w0) op (.agg cs) a :=
  .inl ⟨hw, fun w hK => by
    unfold execOp
    simp only [ho, hx, Instr.loadAt, Instr.sureAddr, Sem.run_bind, Sem.run_pure, Result.andThen_ok, run_loadVar_row w g t ty cs fr d (hK.old hg hne) hu hd hi]⟩
theorem take_run {P : Program} {ops : Array Oper} {op : Oper} {a : Act} {S : World → Prop} {v : Value} (hw : Region.wanted op (yielded ops a.tmps) = true)
    (h : ∀ w, S w → (execOp a.eval op).run P w = .ok (.value v) w) : YieldsIf P ops S op v a := .inl ⟨hw, h⟩
theorem take_skip {P : Program} {ops : Array Oper} {op : Oper} {a : Act} {S : World → Prop} (hw : Region.wanted op (yielded ops a.tmps) = false) : YieldsIf P ops S op undef a := .inr ⟨hw, rfl⟩

theorem takeAt {P : Program} {md : Region.Mode} {ops : Array Oper} {Q : Exit → Act → World → Prop} {S : World → Prop} {i : Nat} {oi : Oper} {v : Value} {fuel : Nat} {listed : Array Bool} {a : Act} {w : World} (hi : ops[i]? = some oi) (d : Option Tmp) (hd : oi.dst = d)
    (hs : Region.noSelect ops = true) (hf : Region.free md ops listed i = true) (hr : (Region.ready md ops listed).contains i = true)
    (hQ : ∀ c a w, Q (.panic c) (a.put oi.dst v) w → Q (.panic c) a w) (hy : YieldsIf P ops S oi v a) (hS : S w)
    (h : wpAnyH P md ops Q S fuel (listed.setIfInBounds i true) (a.put d v) w) : wpAnyH P md ops Q S (fuel + 1) listed a w := by
  subst hd
  exact wpAnyH_take hi hs hf hr hQ hy hS h
theorem put_at {K : Act → World → Prop} {o : Oper} {a : Act} {v : Value} {w : World} (d : Option Tmp) (hd : o.dst = d) (h : K (a.put d v) w) : K (a.put o.dst v) w := by
  subst hd; exact h
/-- an operation that comes up in a drawn region -/
theorem ready_call {P : Program} {ops : Array Oper} {o : Oper} {a : Act} {w : World} {K : Act → World → Prop} {Q : Exit → Act → World → Prop} (hw : Region.wanted o (yielded ops a.tmps) = true) (d : Option Tmp) (hd : o.dst = d) (f : FuncId) (args : Array Value)
    (hrun : (execOp a.eval o).run P w = .ok (.enter f args) w) (hc : Calls P f args w (fun e w' => ∃ v, e = .returned v ∧ K (a.put d v) w')) :
    if Region.wanted o (yielded ops a.tmps) = true then Oper.wp P o a w K Q else K (a.put o.dst undef) w := by
  subst hd
  rw [if_pos hw]
  unfold Oper.wp
  rw [hrun]
  exact hc.mono fun e w'' ⟨v, he, h⟩ => by subst he; exact h
theorem ready_run {P : Program} {ops : Array Oper} {o : Oper} {a : Act} {w : World} {K : Act → World → Prop} {Q : Exit → Act → World → Prop} (hw : Region.wanted o (yielded ops a.tmps) = true) (d : Option Tmp) (hd : o.dst = d) (v : Value) (w' : World)
    (hrun : (execOp a.eval o).run P w = .ok (.value v) w') (h : K (a.put d v) w') :
    if Region.wanted o (yielded ops a.tmps) = true then Oper.wp P o a w K Q else K (a.put o.dst undef) w := by
  subst hd
  rw [if_pos hw]
  unfold Oper.wp
  rw [hrun]
  exact h
/-- quiet regions: whatever only makes memory -/
theorem qload {P : Program} {w0 w : World} {o : Oper} {a : Act} (ty : TypeId) (x : Operand) (ho : o.op = .load ty x)
    (g : Nat) (hx : a.eval x = .pointer (some ⟨g, 0, none⟩)) (t : TypeId) (cs : Array Value) (fr : Nat × Nat) (hg : w0.heap[g]? = some (.cells cs t fr)) {d : TypeDesc}
    (hu : P.underlying ty = some d) (hd : (match d with | .struct _ | .array _ _ => true | _ => false) = true) (hi : (P.info? ty).map (·.size) = some cs.size) (hB : Below w0.heap.size w0 w) {C : World → Prop} : o.quietAt P a C w (.agg cs) := by
  unfold Oper.quietAt execOp
  simp only [ho, hx, Instr.loadAt, Instr.sureAddr, Sem.run_bind, Sem.run_pure, Result.andThen_ok, run_loadVar_row w g t ty cs fr d ((hB.block g (heap_lt hg)).trans hg) hu hd hi]
  exact ⟨rfl, rfl⟩
theorem qcall {P : Program} {w0 w : World} {o : Oper} {a : Act} {v : Value} (f : FuncId) (args : Array Value) (hrun : (execOp a.eval o).run P w = .ok (.enter f args) w) (hB : Below w0.heap.size w0 w)
    (hc : Calls P f args w (fun e w'' => e = .returned v ∧ Below w.heap.size w w'')) : o.quietAt P a (Below w0.heap.size w0) w v := by
  unfold Oper.quietAt
  rw [hrun]
  exact ⟨rfl, hc.mono fun e w'' ⟨he, h2⟩ => ⟨he, hB.trans (h2.mono hB.size)⟩⟩
theorem qrun {P : Program} {C : World → Prop} {o : Oper} {a : Act} {w : World} {v : Value} (hrun : (execOp a.eval o).run P w = .ok (.value v) w) : o.quietAt P a C w v := by
  unfold Oper.quietAt
  rw [hrun]
  exact ⟨rfl, rfl⟩
theorem results_row_tmp {P : Program} {fn : Func} {p u : Tmp} {ty : TypeId} (h : fn.results = #[.cell p ty, .tmp u]) (tmps : Array Value) (w : World) (g : Nat) (t : TypeId) (cs : Array Value) (fr : Nat × Nat) (d : TypeDesc)
    (hp : tmps.getD p undef = .pointer (some ⟨g, 0, none⟩)) (hg : w.heap[g]? = some (.cells cs t fr))
    (hu : P.underlying ty = some d) (hd : (match d with | .struct _ | .array _ _ => true | _ => false) = true) (hi : (P.info? ty).map (·.size) = some cs.size) :
    (results fn tmps).run P w = .ok (.tuple #[.agg cs, tmps.getD u undef]) w := by
  have hp' : tmps[p]?.getD undef = .pointer (some ⟨g, 0, none⟩) := by simpa using hp
  rw [results_cell_tmp h]
  simp [hp', asAddr, run_loadVar_row w g t ty cs fr d hg hu hd hi]

theorem info32_of (cs : Array Value) (h : cs.size = 32) : (Tryd.prog.info? 22).map (·.size) = some cs.size := info32.trans (by rw [h])

def zE : Array Value := #[.int .u64 0, .int .u64 0, .int .u64 0, .int .u64 0, .int .u64 0]
theorem Fe.newz (w : World) : Fe (w.alloc (.cells zE 36)) w.heap.size 0 0 :=
  ⟨z5, El.newz w, by unfold Bd z5; simp only; omega, by unfold val5 z5; simp⟩
theorem Fe.newz_at (w : World) (n : Nat) (h : w.heap.size = n) : Fe (w.alloc (.cells zE 36)) n 0 0 := by subst h; exact Fe.newz w
theorem setBytes_fe (vb vo b off N cap v0 : Nat) (w0 : World) (hv : Fe w0 vb vo v0) (hx : Row w0 b off 32 (byV N)) (hcap : 32 ≤ cap) (hne : b ≠ vb) :
    Calls Tryd.prog 27 #[.pointer (some ⟨vb, vo, none⟩), .slice (some ⟨b, off, none⟩) 32 cap] w0 fun e w' => e = .returned (.tuple #[.pointer (some ⟨vb, vo, none⟩), .nilIface]) ∧ Sets w0 w' vb vo (valN N) := by
  obtain ⟨L, hL, _⟩ := hv
  exact setBytes_any vb vo b off N cap L w0 hL hx hcap hne
theorem elementOf_fe (N : Nat) (w : World) :
    Calls Tryd.prog 16 #[.agg (arrC N)] w fun e w' => ∃ b, e = .returned (.pointer (some ⟨b, 0, none⟩)) ∧ w.heap.size ≤ b ∧ Below w.heap.size w w' ∧ Fe w' b 0 (valN N) := elementOf_any N w
theorem elementBytes_fe (vb vo x : Nat) (w : World) (hF : Fe w vb vo x) :
    Calls Tryd.prog 17 #[.pointer (some ⟨vb, vo, none⟩)] w fun e w' => e = .returned (.agg (arrC x)) ∧ Below w.heap.size w w' := elementBytes_any vb vo x w hF
end Go.Proofs.YtmabidcocdflkaaDoor
