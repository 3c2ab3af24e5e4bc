/- Memory words: a row of cells in a block, what a call writes; the five limbs of a field element. No program in sight. -/
import Derived.WalkKit
import Derived.WalkSpells
import Derived.Deep.Draws
set_option linter.unusedSimpArgs false
set_option linter.unusedVariables false
namespace Go.Proofs.YtmabidcocdflkaaDoor
open Go.RowKit

/-- n cells at offset off of block b hold vs, and none of them is frozen. -/
def Row (w : World) (b off n : Nat) (vs : Nat → Value) : Prop :=
  ∃ cs t fr, w.heap[b]? = some (.cells cs t fr) ∧ ∀ i, i < n → cs[off + i]? = some (vs i) ∧ ¬ (fr.1 ≤ off + i ∧ off + i < fr.2)

/-- w' is w but for the n cells at offset off of block b, which hold vs; blocks may have come. -/
structure Wr (w w' : World) (b off n : Nat) (vs : Nat → Value) : Prop where
  os : w'.os = w.os
  tape : w'.tape = w.tape
  output : w'.output = w.output
  size : w.heap.size ≤ w'.heap.size
  other : ∀ k, k < w.heap.size → k ≠ b → w'.heap[k]? = w.heap[k]?
  here : ∃ cs t fr cs', w.heap[b]? = some (.cells cs t fr) ∧ w'.heap[b]? = some (.cells cs' t fr) ∧ cs'.size = cs.size ∧
    ∀ o, o < cs.size → cs'[o]? = if off ≤ o ∧ o < off + n then some (vs (o - off)) else cs[o]?

section
variable {w w' w1 w2 : World} {b off n b' off' m k : Nat} {vs us : Nat → Value}

theorem Row.lt (h : Row w b off n vs) : b < w.heap.size := by
  obtain ⟨cs, t, fr, hb, _⟩ := h
  rcases Nat.lt_or_ge b w.heap.size with hlt | hge
  · exact hlt
  · rw [Array.getElem?_eq_none hge] at hb; cases hb

theorem Row.cell (h : Row w b off n vs) {i : Nat} (hi : i < n) : w.cell? ⟨b, off + i, none⟩ = some (vs i) := by
  obtain ⟨cs, t, fr, hb, hc⟩ := h
  simp [World.cell?, hb, (hc i hi).1]

theorem Row.frozen (h : Row w b off n vs) {i : Nat} (hi : i < n) : w.frozen? ⟨b, off + i, none⟩ = false := by
  obtain ⟨cs, t, fr, hb, hc⟩ := h
  obtain ⟨lo, hi'⟩ := fr
  have := (hc i hi).2
  simp only [World.frozen?, hb, Bool.and_eq_false_iff, decide_eq_false_iff_not]
  simp only [not_and] at this
  by_cases h1 : lo ≤ off + i
  · exact Or.inr (this h1)
  · exact Or.inl h1

theorem Row.keep (h : Row w b off n vs) (e : w'.heap[b]? = w.heap[b]?) : Row w' b off n vs := by
  obtain ⟨cs, t, fr, hb, hc⟩ := h
  exact ⟨cs, t, fr, e.trans hb, hc⟩

theorem Row.below {B : Nat} (h : Row w b off n vs) (hB : Below B w w') (hb : b < B) : Row w' b off n vs := h.keep (hB.block b hb)

theorem Row.below_all (h : Row w b off n vs) (hB : Below w.heap.size w w') : Row w' b off n vs := h.below hB h.lt

theorem Row.alloc (h : Row w b off n vs) (o : Obj) : Row (w.alloc o) b off n vs := h.keep (Below.heap_alloc w o b h.lt)

theorem Row.drew (h : Row w b off n vs) : Row w.drew b off n vs := h
theorem Row.drewN (h : Row w b off n vs) (k : Nat) : Row (w.drewN k) b off n vs := h

theorem Row.sub (h : Row w b off n vs) (m k : Nat) (hk : m + k ≤ n) : Row w b (off + m) k (fun i => vs (m + i)) := by
  obtain ⟨cs, t, fr, hb, hc⟩ := h
  refine ⟨cs, t, fr, hb, fun i hi => ?_⟩
  have := hc (m + i) (by omega)
  rw [Nat.add_assoc off m i]
  exact this

theorem Row.congr (h : Row w b off n vs) (e : ∀ i, i < n → us i = vs i) : Row w b off n us := by
  obtain ⟨cs, t, fr, hb, hc⟩ := h
  exact ⟨cs, t, fr, hb, fun i hi => ⟨by rw [(hc i hi).1, e i hi], (hc i hi).2⟩⟩

theorem heap_new (w : World) (o : Obj) : (w.alloc o).heap[w.heap.size]? = some o := by
  show (w.heap.push o)[w.heap.size]? = _
  simp

theorem Row.new (w : World) (cs : Array Value) (t : TypeId) (n : Nat) (vs : Nat → Value) (hv : ∀ i, i < n → cs[i]? = some (vs i)) :
    Row (w.alloc (.cells cs t)) w.heap.size 0 n vs :=
  ⟨cs, t, (0, 0), heap_new w _, fun i hi => ⟨by rw [Nat.zero_add]; exact hv i hi, by simp⟩⟩

theorem Wr.row (h : Wr w w' b off n vs) (hr : Row w b off n us) : Row w' b off n vs := by
  obtain ⟨cs, t, fr, hb, hc⟩ := hr
  obtain ⟨cs0, t0, fr0, cs', h0, h1, hs, hv⟩ := h.here
  rw [hb] at h0
  injection h0 with h0
  injection h0 with e1 e2 e3
  subst e1; subst e2; subst e3
  refine ⟨cs', t, fr, h1, fun i hi => ⟨?_, (hc i hi).2⟩⟩
  have hlt : off + i < cs.size := by
    have := (hc i hi).1
    rcases Nat.lt_or_ge (off + i) cs.size with h | h
    · exact h
    · rw [Array.getElem?_eq_none h] at this; cases this
  rw [hv _ hlt, if_pos (by omega)]
  congr 2; omega

theorem Wr.others (h : Wr w w' b off n vs) (hr : Row w b' off' m us) (hd : b' ≠ b ∨ off' + m ≤ off ∨ off + n ≤ off') : Row w' b' off' m us := by
  by_cases e : b' = b
  · subst e
    obtain ⟨cs, t, fr, hb, hc⟩ := hr
    obtain ⟨cs0, t0, fr0, cs', h0, h1, hs, hv⟩ := h.here
    rw [hb] at h0
    injection h0 with h0
    injection h0 with e1 e2 e3
    subst e1; subst e2; subst e3
    refine ⟨cs', t, fr, h1, fun i hi => ⟨?_, (hc i hi).2⟩⟩
    have hlt : off' + i < cs.size := by
      have := (hc i hi).1
      rcases Nat.lt_or_ge (off' + i) cs.size with h | h
      · exact h
      · rw [Array.getElem?_eq_none h] at this; cases this
    rw [hv _ hlt, if_neg (by omega)]
    exact (hc i hi).1
  · exact hr.keep (h.other b' hr.lt e)

theorem Row.inBounds {cs : Array Value} {t : TypeId} {fr : Nat × Nat} (hr : Row w b off n us) (hb : w.heap[b]? = some (.cells cs t fr)) {i : Nat} (hi : i < n) : off + i < cs.size := by
  obtain ⟨cs0, t0, fr0, h0, hc⟩ := hr
  rw [hb] at h0
  injection h0 with h0
  injection h0 with e1 e2 e3
  subst e1
  have := (hc i hi).1
  rcases Nat.lt_or_ge (off + i) cs.size with h | h
  · exact h
  · rw [Array.getElem?_eq_none h] at this; cases this

theorem Wr.start (hr : Row w b off n us) : Wr w w b off n us := by
  obtain ⟨cs, t, fr, hb, hc⟩ := hr
  refine ⟨rfl, rfl, rfl, Nat.le_refl _, fun _ _ _ => rfl, cs, t, fr, cs, hb, hb, rfl, fun o ho => ?_⟩
  split
  · rename_i h
    have := (hc (o - off) (by omega)).1
    rw [← this]; congr 1; omega
  · rfl

theorem Wr.drew (h : Wr w w' b off n vs) : Wr w w'.drew b off n vs := ⟨h.os, h.tape, h.output, h.size, h.other, h.here⟩
theorem Wr.drewN (h : Wr w w' b off n vs) (k : Nat) : Wr w (w'.drewN k) b off n vs := ⟨h.os, h.tape, h.output, h.size, h.other, h.here⟩
theorem Wr.ofDrew (h : Wr w.drew w' b off n vs) : Wr w w' b off n vs := ⟨h.os, h.tape, h.output, h.size, h.other, h.here⟩

theorem Wr.congr (h : Wr w w' b off n vs) (e : ∀ i, i < n → us i = vs i) : Wr w w' b off n us := by
  obtain ⟨cs, t, fr, cs', h0, h1, hs, hv⟩ := h.here
  refine ⟨h.os, h.tape, h.output, h.size, h.other, cs, t, fr, cs', h0, h1, hs, fun o ho => ?_⟩
  rw [hv o ho]
  split
  · rw [e _ (by omega)]
  · rfl

theorem Wr.lt (h : Wr w w' b off n vs) : b < w.heap.size := by
  obtain ⟨cs, t, fr, cs', h0, h1, hs, hv⟩ := h.here
  rcases Nat.lt_or_ge b w.heap.size with hlt | hge
  · exact hlt
  · rw [Array.getElem?_eq_none hge] at h0; cases h0

/-- behind the write: what leaves the old blocks alone -/
theorem Wr.then (h : Wr w w1 b off n vs) (hb : Below w.heap.size w1 w2) : Wr w w2 b off n vs := by
  obtain ⟨cs, t, fr, cs', h0, h1, hs, hv⟩ := h.here
  exact ⟨hb.os.trans h.os, hb.tape.trans h.tape, hb.output.trans h.output, Nat.le_trans h.size hb.size, fun k hk hne => (hb.block k hk).trans (h.other k hk hne), cs, t, fr, cs', h0, (hb.block b h.lt).trans h1, hs, hv⟩

/-- ahead of the write: what leaves the old blocks alone -/
theorem Wr.ahead (hb : Below w.heap.size w w1) (h : Wr w1 w2 b off n vs) (hlt : b < w.heap.size) : Wr w w2 b off n vs := by
  obtain ⟨cs, t, fr, cs', h0, h1, hs, hv⟩ := h.here
  refine ⟨h.os.trans hb.os, h.tape.trans hb.tape, h.output.trans hb.output, Nat.le_trans hb.size h.size, fun k hk hne => (h.other k (Nat.lt_of_lt_of_le hk hb.size) hne).trans (hb.block k hk), cs, t, fr, cs', (hb.block b hlt).symm.trans h0, h1, hs, hv⟩

theorem Wr.trans (h : Wr w w1 b off n us) (h' : Wr w1 w2 b off n vs) : Wr w w2 b off n vs := by
  obtain ⟨cs, t, fr, cs', h0, h1, hs, hv⟩ := h.here
  obtain ⟨cs1, t1, fr1, cs2, h0', h1', hs', hv'⟩ := h'.here
  rw [h1] at h0'
  injection h0' with h0'
  injection h0' with e1 e2 e3
  subst e1; subst e2; subst e3
  refine ⟨h'.os.trans h.os, h'.tape.trans h.tape, h'.output.trans h.output, Nat.le_trans h.size h'.size, fun k hk hne => (h'.other k (Nat.lt_of_lt_of_le hk h.size) hne).trans (h.other k hk hne), cs, t, fr, cs2, h0, h1', hs'.trans hs, fun o ho => ?_⟩
  rw [hv' o (by omega)]
  split
  · rfl
  · rename_i hno
    rw [hv o ho, if_neg hno]

/-- the write lies in blocks from B on -/
theorem Wr.below (h : Wr w w' b off n vs) {B : Nat} (hb : B ≤ b) (hB : B ≤ w.heap.size) : Below B w w' :=
  ⟨h.os, h.tape, h.output, h.size, fun k hk => h.other k (by omega) (by omega)⟩

/-- a store into one of the cells -/
theorem Wr.set (h : Wr w w' b off n vs) (i : Nat) (v : Value) (_hi : i < n := by omega) : Wr w (w'.setCell ⟨b, off + i, none⟩ v) b off n (fun j => if j = i then v else vs j) := by
  obtain ⟨cs, t, fr, cs', h0, h1, hs, hv⟩ := h.here
  refine ⟨h.os, h.tape, h.output, by simp [World.setCell]; exact h.size, fun k hk hne => (Below.heap_setCell _ _ _ _ hne).trans (h.other k hk hne), cs, t, fr, cs'.setIfInBounds (off + i) v, h0, ?_, by simp [hs], fun o ho => ?_⟩
  · simp [World.setCell, Array.getElem?_modify, h1]
  · rw [Array.getElem?_setIfInBounds]
    by_cases e : off + i = o
    · rw [if_pos e, if_pos (by omega), if_pos (by omega), if_pos (by omega)]
    · rw [if_neg e, hv o ho]
      split
      · rw [if_neg (by omega)]
      · rfl

/-- a write to a part of a row -/
theorem Wr.part (h : Wr w w' b (off + m) k us) (hr : Row w b off n vs) (hk : m + k ≤ n) : Wr w w' b off n (fun i => if m ≤ i ∧ i < m + k then us (i - m) else vs i) := by
  obtain ⟨cs, t, fr, cs', h0, h1, hs, hv⟩ := h.here
  refine ⟨h.os, h.tape, h.output, h.size, h.other, cs, t, fr, cs', h0, h1, hs, fun o ho => ?_⟩
  rw [hv o ho]
  obtain ⟨cs0, t0, fr0, hb, hc⟩ := hr
  rw [h0] at hb
  injection hb with hb
  injection hb with e1 e2 e3
  subst e1
  by_cases h1 : off ≤ o ∧ o < off + n
  · rw [if_pos h1]
    by_cases h2 : off + m ≤ o ∧ o < off + m + k
    · rw [if_pos h2, if_pos (by omega)]; congr 2; omega
    · rw [if_neg h2, if_neg (by omega)]
      have := (hc (o - off) (by omega)).1
      rw [← this]; congr 1; omega
  · rw [if_neg h1, if_neg (by omega)]
end

/-- five limbs -/
structure L5 where
  l0 : Nat
  l1 : Nat
  l2 : Nat
  l3 : Nat
  l4 : Nat

def limbV (L : L5) (i : Nat) : Value :=
  .int .u64 ((if i = 0 then L.l0 else if i = 1 then L.l1 else if i = 2 then L.l2 else if i = 3 then L.l3 else L.l4 : Nat) : Int)

def pF : Nat := 57896044618658097711785492504343953926634992332820282019728792003956564819949

def val5 (L : L5) : Nat := L.l0 + 2251799813685248 * L.l1 + 5070602400912917605986812821504 * L.l2 + 11417981541647679048466287755595961091061972992 * L.l3 + 25711008708143844408671393477458601640355247900524685364822016 * L.l4

def Bd (L : L5) : Prop := L.l0 < 2252074691592192 ∧ L.l1 < 2252074691592192 ∧ L.l2 < 2252074691592192 ∧ L.l3 < 2252074691592192 ∧ L.l4 < 2252074691592192

def El (w : World) (b off : Nat) (L : L5) : Prop := Row w b off 5 (limbV L)

/-- the field element at (b, off) is x -/
def Fe (w : World) (b off x : Nat) : Prop := ∃ L, El w b off L ∧ Bd L ∧ val5 L % pF = x

/-- behind the call the field element at (b, off) is x, and nothing else that was there has turned -/
def Sets (w w' : World) (b off x : Nat) : Prop := ∃ L, Bd L ∧ val5 L % pF = x ∧ Wr w w' b off 5 (limbV L)

section
variable {w w' w1 w2 : World} {b off b' off' x y : Nat} {L : L5}
theorem El.c0 (h : El w b off L) : w.cell? ⟨b, off, none⟩ = some (.int .u64 (L.l0 : Int)) := Row.cell (i := 0) h (by omega)
theorem El.c1 (h : El w b off L) : w.cell? ⟨b, off + 1, none⟩ = some (.int .u64 (L.l1 : Int)) := Row.cell (i := 1) h (by omega)
theorem El.c2 (h : El w b off L) : w.cell? ⟨b, off + 2, none⟩ = some (.int .u64 (L.l2 : Int)) := Row.cell (i := 2) h (by omega)
theorem El.c3 (h : El w b off L) : w.cell? ⟨b, off + 3, none⟩ = some (.int .u64 (L.l3 : Int)) := Row.cell (i := 3) h (by omega)
theorem El.c4 (h : El w b off L) : w.cell? ⟨b, off + 4, none⟩ = some (.int .u64 (L.l4 : Int)) := Row.cell (i := 4) h (by omega)
theorem El.f0 (h : El w b off L) : w.frozen? ⟨b, off, none⟩ = false := Row.frozen (i := 0) h (by omega)
theorem El.f1 (h : El w b off L) : w.frozen? ⟨b, off + 1, none⟩ = false := Row.frozen (i := 1) h (by omega)
theorem El.f2 (h : El w b off L) : w.frozen? ⟨b, off + 2, none⟩ = false := Row.frozen (i := 2) h (by omega)
theorem El.f3 (h : El w b off L) : w.frozen? ⟨b, off + 3, none⟩ = false := Row.frozen (i := 3) h (by omega)
theorem El.f4 (h : El w b off L) : w.frozen? ⟨b, off + 4, none⟩ = false := Row.frozen (i := 4) h (by omega)
theorem El.lt (h : El w b off L) : b < w.heap.size := Row.lt h

theorem Fe.lt (h : Fe w b off x) : b < w.heap.size := by obtain ⟨L, h, _⟩ := h; exact Row.lt h
theorem Fe.small (h : Fe w b off x) : x < pF := by obtain ⟨L, _, _, rfl⟩ := h; exact Nat.mod_lt _ (by unfold pF; omega)
theorem Fe.keep (h : Fe w b off x) (e : w'.heap[b]? = w.heap[b]?) : Fe w' b off x := by
  obtain ⟨L, h, k⟩ := h; exact ⟨L, Row.keep h e, k⟩
theorem Fe.below_all (h : Fe w b off x) (hB : Below w.heap.size w w') : Fe w' b off x := h.keep (hB.block b h.lt)
theorem Fe.below {B : Nat} (h : Fe w b off x) (hB : Below B w w') (hb : b < B) : Fe w' b off x := h.keep (hB.block b hb)
theorem Fe.alloc (h : Fe w b off x) (o : Obj) : Fe (w.alloc o) b off x := h.keep (Below.heap_alloc w o b h.lt)
theorem Fe.drew (h : Fe w b off x) : Fe w.drew b off x := h
theorem Fe.drewN (h : Fe w b off x) (k : Nat) : Fe (w.drewN k) b off x := h

theorem Sets.fe (h : Sets w w' b off x) (h0 : El w b off L) : Fe w' b off x := by
  obtain ⟨L', hb, hx, hw⟩ := h
  exact ⟨L', hw.row h0, hb, hx⟩
theorem Sets.fe' (h : Sets w w' b off x) (h0 : Fe w b off y) : Fe w' b off x := by
  obtain ⟨L, h0, _⟩ := h0
  exact h.fe h0
theorem Sets.others (h : Sets w w' b off x) (h0 : Fe w b' off' y) (hd : b' ≠ b ∨ off' + 5 ≤ off ∨ off + 5 ≤ off') : Fe w' b' off' y := by
  obtain ⟨L', hb, hx, hw⟩ := h
  obtain ⟨L, h0, k⟩ := h0
  exact ⟨L, hw.others h0 hd, k⟩
theorem Sets.rows (h : Sets w w' b off x) {n : Nat} {us : Nat → Value} (h0 : Row w b' off' n us) (hd : b' ≠ b ∨ off' + n ≤ off ∨ off + 5 ≤ off') : Row w' b' off' n us := by
  obtain ⟨L', hb, hx, hw⟩ := h
  exact hw.others h0 hd
theorem Sets.elOthers (h : Sets w w' b off x) (h0 : El w b' off' L) (hd : b' ≠ b ∨ off' + 5 ≤ off ∨ off + 5 ≤ off') : El w' b' off' L := by
  obtain ⟨L', hb, hx, hw⟩ := h
  exact hw.others h0 hd
theorem Sets.size (h : Sets w w' b off x) : w.heap.size ≤ w'.heap.size := by obtain ⟨L', hb, hx, hw⟩ := h; exact hw.size
theorem Sets.below (h : Sets w w' b off x) {B : Nat} (hb : B ≤ b) (hB : B ≤ w.heap.size) : Below B w w' := by obtain ⟨L', _, _, hw⟩ := h; exact hw.below hb hB
theorem Sets.then (h : Sets w w1 b off x) (hb : Below w.heap.size w1 w2) : Sets w w2 b off x := by obtain ⟨L', h1, h2, hw⟩ := h; exact ⟨L', h1, h2, hw.then hb⟩
theorem Sets.ahead (hb : Below w.heap.size w w1) (h : Sets w1 w2 b off x) (hlt : b < w.heap.size) : Sets w w2 b off x := by obtain ⟨L', h1, h2, hw⟩ := h; exact ⟨L', h1, h2, hw.ahead hb hlt⟩
theorem Sets.trans (h : Sets w w1 b off x) (h' : Sets w1 w2 b off y) : Sets w w2 b off y := by
  obtain ⟨_, _, _, hw⟩ := h
  obtain ⟨L', h1, h2, hw'⟩ := h'
  exact ⟨L', h1, h2, hw.trans hw'⟩
theorem Sets.drew (h : Sets w w' b off x) : Sets w w'.drew b off x := by obtain ⟨L', h1, h2, hw⟩ := h; exact ⟨L', h1, h2, hw.drew⟩
theorem Sets.lt (h : Sets w w' b off x) : b < w.heap.size := by obtain ⟨L', h1, h2, hw⟩ := h; exact hw.lt
end

theorem limbV_0 (L : L5) : limbV L 0 = .int .u64 (L.l0 : Int) := rfl
theorem limbV_1 (L : L5) : limbV L 1 = .int .u64 (L.l1 : Int) := rfl
theorem limbV_2 (L : L5) : limbV L 2 = .int .u64 (L.l2 : Int) := rfl
theorem limbV_3 (L : L5) : limbV L 3 = .int .u64 (L.l3 : Int) := rfl
theorem limbV_4 (L : L5) : limbV L 4 = .int .u64 (L.l4 : Int) := rfl

end Go.Proofs.YtmabidcocdflkaaDoor
