/- Parts of the proof: Memory words: a row of cells in a block, what a call writes; the five limbs of a field element. Plain arithmetic of limbs and bytes. Primes: Fermat, Pocklington, and that 2^255 - 19 is one. The field of 2^255 - 19 as Fin: no divisors of 0, inverses. Square roots of ratios modulo 2^255 - 19. Both roads to the square root agree. Powers modulo 2^255 - 19. A script over a list of numbers modulo p. math/bits of 64 bits: Add64, Sub64, Mul64. math/bits. Squares of five limbs: plain arithmetic. The curve: d is no square, sums of points, their denominators. Points of the curve by their y: which there is, and its x. -/
import Derived.Deep.Draws
import Derived.Laws.Bits64b
import Derived.Laws.Externs
import Derived.Lib.Hide
import Derived.Test.YtemgflkecflhmaaDoorProg
import Derived.WalkKit
import Derived.WalkLawsBesides
import Derived.WalkSpells
set_option maxRecDepth 4000
set_option linter.unusedSimpArgs false
set_option linter.unusedVariables false
namespace Go.Proofs.YtemgflkecflhmaaDoor
section
open Go.RowKit

/-- n cells at offset off of block b hold vs, and none of them is frozen. -/
def Row (w : World) (b off n : Nat) (vs : Nat → Value) : Prop :=
  ∃ cs t fr, w.heap[b]? = some (.cells cs t fr) ∧ ∀ i, i < n → cs[off + i]? = some (vs i) ∧ ¬ (fr.1 ≤ off + i ∧ off + i < fr.2)

/-- w' is w but for the n cells at offset off of block b, which hold vs; blocks may have come. -/
structure Wr (w w' : World) (b off n : Nat) (vs : Nat → Value) : Prop where
  os : w'.os = w.os
  tape : w'.tape = w.tape
  output : w'.output = w.output
  size : w.heap.size ≤ w'.heap.size
  other : ∀ k, k < w.heap.size → k ≠ b → w'.heap[k]? = w.heap[k]?
  here : ∃ cs t fr cs', w.heap[b]? = some (.cells cs t fr) ∧ w'.heap[b]? = some (.cells cs' t fr) ∧ cs'.size = cs.size ∧
    ∀ o, o < cs.size → cs'[o]? = if off ≤ o ∧ o < off + n then some (vs (o - off)) else cs[o]?

section
variable {w w' w1 w2 : World} {b off n b' off' m k : Nat} {vs us : Nat → Value}

theorem Row.lt (h : Row w b off n vs) : b < w.heap.size := by
  obtain ⟨cs, t, fr, hb, _⟩ := h
  rcases Nat.lt_or_ge b w.heap.size with hlt | hge
  · exact hlt
  · rw [Array.getElem?_eq_none hge] at hb; cases hb

theorem Row.cell (h : Row w b off n vs) {i : Nat} (hi : i < n) : w.cell? ⟨b, off + i, none⟩ = some (vs i) := by
  obtain ⟨cs, t, fr, hb, hc⟩ := h
  simp [World.cell?, hb, (hc i hi).1]

theorem Row.frozen (h : Row w b off n vs) {i : Nat} (hi : i < n) : w.frozen? ⟨b, off + i, none⟩ = false := by
  obtain ⟨cs, t, fr, hb, hc⟩ := h
  obtain ⟨lo, hi'⟩ := fr
  have := (hc i hi).2
  simp only [World.frozen?, hb, Bool.and_eq_false_iff, decide_eq_false_iff_not]
  simp only [not_and] at this
  by_cases h1 : lo ≤ off + i
  · exact Or.inr (this h1)
  · exact Or.inl h1

theorem Row.keep (h : Row w b off n vs) (e : w'.heap[b]? = w.heap[b]?) : Row w' b off n vs := by
  obtain ⟨cs, t, fr, hb, hc⟩ := h
  exact ⟨cs, t, fr, e.trans hb, hc⟩

theorem Row.below {B : Nat} (h : Row w b off n vs) (hB : Below B w w') (hb : b < B) : Row w' b off n vs := h.keep (hB.block b hb)

theorem Row.below_all (h : Row w b off n vs) (hB : Below w.heap.size w w') : Row w' b off n vs := h.below hB h.lt

theorem Row.alloc (h : Row w b off n vs) (o : Obj) : Row (w.alloc o) b off n vs := h.keep (Below.heap_alloc w o b h.lt)

theorem Row.drew (h : Row w b off n vs) : Row w.drew b off n vs := h
theorem Row.drewN (h : Row w b off n vs) (k : Nat) : Row (w.drewN k) b off n vs := h

theorem Row.sub (h : Row w b off n vs) (m k : Nat) (hk : m + k ≤ n) : Row w b (off + m) k (fun i => vs (m + i)) := by
  obtain ⟨cs, t, fr, hb, hc⟩ := h
  refine ⟨cs, t, fr, hb, fun i hi => ?_⟩
  have := hc (m + i) (by omega)
  rw [Nat.add_assoc off m i]
  exact this

theorem Row.congr (h : Row w b off n vs) (e : ∀ i, i < n → us i = vs i) : Row w b off n us := by
  obtain ⟨cs, t, fr, hb, hc⟩ := h
  exact ⟨cs, t, fr, hb, fun i hi => ⟨by rw [(hc i hi).1, e i hi], (hc i hi).2⟩⟩

theorem heap_new (w : World) (o : Obj) : (w.alloc o).heap[w.heap.size]? = some o := by
  show (w.heap.push o)[w.heap.size]? = _
  simp

theorem Row.new (w : World) (cs : Array Value) (t : TypeId) (n : Nat) (vs : Nat → Value) (hv : ∀ i, i < n → cs[i]? = some (vs i)) :
    Row (w.alloc (.cells cs t)) w.heap.size 0 n vs :=
  ⟨cs, t, (0, 0), heap_new w _, fun i hi => ⟨by rw [Nat.zero_add]; exact hv i hi, by simp⟩⟩

theorem Wr.row (h : Wr w w' b off n vs) (hr : Row w b off n us) : Row w' b off n vs := by
  obtain ⟨cs, t, fr, hb, hc⟩ := hr
  obtain ⟨cs0, t0, fr0, cs', h0, h1, hs, hv⟩ := h.here
  rw [hb] at h0
  injection h0 with h0
  injection h0 with e1 e2 e3
  subst e1; subst e2; subst e3
  refine ⟨cs', t, fr, h1, fun i hi => ⟨?_, (hc i hi).2⟩⟩
  have hlt : off + i < cs.size := by
    have := (hc i hi).1
    rcases Nat.lt_or_ge (off + i) cs.size with h | h
    · exact h
    · rw [Array.getElem?_eq_none h] at this; cases this
  rw [hv _ hlt, if_pos (by omega)]
  congr 2; omega

theorem Wr.others (h : Wr w w' b off n vs) (hr : Row w b' off' m us) (hd : b' ≠ b ∨ off' + m ≤ off ∨ off + n ≤ off') : Row w' b' off' m us := by
  by_cases e : b' = b
  · subst e
    obtain ⟨cs, t, fr, hb, hc⟩ := hr
    obtain ⟨cs0, t0, fr0, cs', h0, h1, hs, hv⟩ := h.here
    rw [hb] at h0
    injection h0 with h0
    injection h0 with e1 e2 e3
    subst e1; subst e2; subst e3
    refine ⟨cs', t, fr, h1, fun i hi => ⟨?_, (hc i hi).2⟩⟩
    have hlt : off' + i < cs.size := by
      have := (hc i hi).1
      rcases Nat.lt_or_ge (off' + i) cs.size with h | h
      · exact h
      · rw [Array.getElem?_eq_none h] at this; cases this
    rw [hv _ hlt, if_neg (by omega)]
    exact (hc i hi).1
  · exact hr.keep (h.other b' hr.lt e)

theorem Row.inBounds {cs : Array Value} {t : TypeId} {fr : Nat × Nat} (hr : Row w b off n us) (hb : w.heap[b]? = some (.cells cs t fr)) {i : Nat} (hi : i < n) : off + i < cs.size := by
  obtain ⟨cs0, t0, fr0, h0, hc⟩ := hr
  rw [hb] at h0
  injection h0 with h0
  injection h0 with e1 e2 e3
  subst e1
  have := (hc i hi).1
  rcases Nat.lt_or_ge (off + i) cs.size with h | h
  · exact h
  · rw [Array.getElem?_eq_none h] at this; cases this

theorem Wr.start (hr : Row w b off n us) : Wr w w b off n us := by
  obtain ⟨cs, t, fr, hb, hc⟩ := hr
  refine ⟨rfl, rfl, rfl, Nat.le_refl _, fun _ _ _ => rfl, cs, t, fr, cs, hb, hb, rfl, fun o ho => ?_⟩
  split
  · rename_i h
    have := (hc (o - off) (by omega)).1
    rw [← this]; congr 1; omega
  · rfl

theorem Wr.drew (h : Wr w w' b off n vs) : Wr w w'.drew b off n vs := ⟨h.os, h.tape, h.output, h.size, h.other, h.here⟩
theorem Wr.drewN (h : Wr w w' b off n vs) (k : Nat) : Wr w (w'.drewN k) b off n vs := ⟨h.os, h.tape, h.output, h.size, h.other, h.here⟩
theorem Wr.ofDrew (h : Wr w.drew w' b off n vs) : Wr w w' b off n vs := ⟨h.os, h.tape, h.output, h.size, h.other, h.here⟩

theorem Wr.congr (h : Wr w w' b off n vs) (e : ∀ i, i < n → us i = vs i) : Wr w w' b off n us := by
  obtain ⟨cs, t, fr, cs', h0, h1, hs, hv⟩ := h.here
  refine ⟨h.os, h.tape, h.output, h.size, h.other, cs, t, fr, cs', h0, h1, hs, fun o ho => ?_⟩
  rw [hv o ho]
  split
  · rw [e _ (by omega)]
  · rfl

theorem Wr.lt (h : Wr w w' b off n vs) : b < w.heap.size := by
  obtain ⟨cs, t, fr, cs', h0, h1, hs, hv⟩ := h.here
  rcases Nat.lt_or_ge b w.heap.size with hlt | hge
  · exact hlt
  · rw [Array.getElem?_eq_none hge] at h0; cases h0

/-- behind the write: what leaves the old blocks alone -/
theorem Wr.then (h : Wr w w1 b off n vs) (hb : Below w.heap.size w1 w2) : Wr w w2 b off n vs := by
  obtain ⟨cs, t, fr, cs', h0, h1, hs, hv⟩ := h.here
  exact ⟨hb.os.trans h.os, hb.tape.trans h.tape, hb.output.trans h.output, Nat.le_trans h.size hb.size, fun k hk hne => (hb.block k hk).trans (h.other k hk hne), cs, t, fr, cs', h0, (hb.block b h.lt).trans h1, hs, hv⟩

/-- ahead of the write: what leaves the old blocks alone -/
theorem Wr.ahead (hb : Below w.heap.size w w1) (h : Wr w1 w2 b off n vs) (hlt : b < w.heap.size) : Wr w w2 b off n vs := by
  obtain ⟨cs, t, fr, cs', h0, h1, hs, hv⟩ := h.here
  refine ⟨h.os.trans hb.os, h.tape.trans hb.tape, h.output.trans hb.output, Nat.le_trans hb.size h.size, fun k hk hne => (h.other k (Nat.lt_of_lt_of_le hk hb.size) hne).trans (hb.block k hk), cs, t, fr, cs', (hb.block b hlt).symm.trans h0, h1, hs, hv⟩

theorem Wr.trans (h : Wr w w1 b off n us) (h' : Wr w1 w2 b off n vs) : Wr w w2 b off n vs := by
  obtain ⟨cs, t, fr, cs', h0, h1, hs, hv⟩ := h.here
  obtain ⟨cs1, t1, fr1, cs2, h0', h1', hs', hv'⟩ := h'.here
  rw [h1] at h0'
  injection h0' with h0'
  injection h0' with e1 e2 e3
  subst e1; subst e2; subst e3
  refine ⟨h'.os.trans h.os, h'.tape.trans h.tape, h'.output.trans h.output, Nat.le_trans h.size h'.size, fun k hk hne => (h'.other k (Nat.lt_of_lt_of_le hk h.size) hne).trans (h.other k hk hne), cs, t, fr, cs2, h0, h1', hs'.trans hs, fun o ho => ?_⟩
  rw [hv' o (by omega)]
  split
  · rfl
  · rename_i hno
    rw [hv o ho, if_neg hno]

/-- the write lies in blocks from B on -/
theorem Wr.below (h : Wr w w' b off n vs) {B : Nat} (hb : B ≤ b) (hB : B ≤ w.heap.size) : Below B w w' :=
  ⟨h.os, h.tape, h.output, h.size, fun k hk => h.other k (by omega) (by omega)⟩

/-- a store into one of the cells -/
theorem Wr.set (h : Wr w w' b off n vs) (i : Nat) (v : Value) (_hi : i < n := by omega) : Wr w (w'.setCell ⟨b, off + i, none⟩ v) b off n (fun j => if j = i then v else vs j) := by
  obtain ⟨cs, t, fr, cs', h0, h1, hs, hv⟩ := h.here
  refine ⟨h.os, h.tape, h.output, by simp [World.setCell]; exact h.size, fun k hk hne => (Below.heap_setCell _ _ _ _ hne).trans (h.other k hk hne), cs, t, fr, cs'.setIfInBounds (off + i) v, h0, ?_, by simp [hs], fun o ho => ?_⟩
  · simp [World.setCell, Array.getElem?_modify, h1]
  · rw [Array.getElem?_setIfInBounds]
    by_cases e : off + i = o
    · rw [if_pos e, if_pos (by omega), if_pos (by omega), if_pos (by omega)]
    · rw [if_neg e, hv o ho]
      split
      · rw [if_neg (by omega)]
      · rfl

/-- a write to a part of a row -/
theorem Wr.part (h : Wr w w' b (off + m) k us) (hr : Row w b off n vs) (hk : m + k ≤ n) : Wr w w' b off n (fun i => if m ≤ i ∧ i < m + k then us (i - m) else vs i) := by
  obtain ⟨cs, t, fr, cs', h0, h1, hs, hv⟩ := h.here
  refine ⟨h.os, h.tape, h.output, h.size, h.other, cs, t, fr, cs', h0, h1, hs, fun o ho => ?_⟩
  rw [hv o ho]
  obtain ⟨cs0, t0, fr0, hb, hc⟩ := hr
  rw [h0] at hb
  injection hb with hb
  injection hb with e1 e2 e3
  subst e1
  by_cases h1 : off ≤ o ∧ o < off + n
  · rw [if_pos h1]
    by_cases h2 : off + m ≤ o ∧ o < off + m + k
    · rw [if_pos h2, if_pos (by omega)]; congr 2; omega
    · rw [if_neg h2, if_neg (by omega)]
      have := (hc (o - off) (by omega)).1
      rw [← this]; congr 1; omega
  · rw [if_neg h1, if_neg (by omega)]
end

/-- five limbs -/
structure L5 where
  l0 : Nat
  l1 : Nat
  l2 : Nat
  l3 : Nat
  l4 : Nat

def limbV (L : L5) (i : Nat) : Value :=
  .int .u64 ((if i = 0 then L.l0 else if i = 1 then L.l1 else if i = 2 then L.l2 else if i = 3 then L.l3 else L.l4 : Nat) : Int)

def pF : Nat := 57896044618658097711785492504343953926634992332820282019728792003956564819949

def val5 (L : L5) : Nat := L.l0 + 2251799813685248 * L.l1 + 5070602400912917605986812821504 * L.l2 + 11417981541647679048466287755595961091061972992 * L.l3 + 25711008708143844408671393477458601640355247900524685364822016 * L.l4

def Bd (L : L5) : Prop := L.l0 < 2252074691592192 ∧ L.l1 < 2252074691592192 ∧ L.l2 < 2252074691592192 ∧ L.l3 < 2252074691592192 ∧ L.l4 < 2252074691592192

def El (w : World) (b off : Nat) (L : L5) : Prop := Row w b off 5 (limbV L)

/-- the field element at (b, off) is x -/
def Fe (w : World) (b off x : Nat) : Prop := ∃ L, El w b off L ∧ Bd L ∧ val5 L % pF = x

/-- behind the call the field element at (b, off) is x, and nothing else that was there has turned -/
def Sets (w w' : World) (b off x : Nat) : Prop := ∃ L, Bd L ∧ val5 L % pF = x ∧ Wr w w' b off 5 (limbV L)

section
variable {w w' w1 w2 : World} {b off b' off' x y : Nat} {L : L5}
theorem El.c0 (h : El w b off L) : w.cell? ⟨b, off, none⟩ = some (.int .u64 (L.l0 : Int)) := Row.cell (i := 0) h (by omega)
theorem El.c1 (h : El w b off L) : w.cell? ⟨b, off + 1, none⟩ = some (.int .u64 (L.l1 : Int)) := Row.cell (i := 1) h (by omega)
theorem El.c2 (h : El w b off L) : w.cell? ⟨b, off + 2, none⟩ = some (.int .u64 (L.l2 : Int)) := Row.cell (i := 2) h (by omega)
theorem El.c3 (h : El w b off L) : w.cell? ⟨b, off + 3, none⟩ = some (.int .u64 (L.l3 : Int)) := Row.cell (i := 3) h (by omega)
theorem El.c4 (h : El w b off L) : w.cell? ⟨b, off + 4, none⟩ = some (.int .u64 (L.l4 : Int)) := Row.cell (i := 4) h (by omega)
theorem El.f0 (h : El w b off L) : w.frozen? ⟨b, off, none⟩ = false := Row.frozen (i := 0) h (by omega)
theorem El.f1 (h : El w b off L) : w.frozen? ⟨b, off + 1, none⟩ = false := Row.frozen (i := 1) h (by omega)
theorem El.f2 (h : El w b off L) : w.frozen? ⟨b, off + 2, none⟩ = false := Row.frozen (i := 2) h (by omega)
theorem El.f3 (h : El w b off L) : w.frozen? ⟨b, off + 3, none⟩ = false := Row.frozen (i := 3) h (by omega)
theorem El.f4 (h : El w b off L) : w.frozen? ⟨b, off + 4, none⟩ = false := Row.frozen (i := 4) h (by omega)
theorem El.lt (h : El w b off L) : b < w.heap.size := Row.lt h

theorem Fe.lt (h : Fe w b off x) : b < w.heap.size := by obtain ⟨L, h, _⟩ := h; exact Row.lt h
theorem Fe.small (h : Fe w b off x) : x < pF := by obtain ⟨L, _, _, rfl⟩ := h; exact Nat.mod_lt _ (by unfold pF; omega)
theorem Fe.keep (h : Fe w b off x) (e : w'.heap[b]? = w.heap[b]?) : Fe w' b off x := by
  obtain ⟨L, h, k⟩ := h; exact ⟨L, Row.keep h e, k⟩
theorem Fe.below_all (h : Fe w b off x) (hB : Below w.heap.size w w') : Fe w' b off x := h.keep (hB.block b h.lt)
theorem Fe.below {B : Nat} (h : Fe w b off x) (hB : Below B w w') (hb : b < B) : Fe w' b off x := h.keep (hB.block b hb)
theorem Fe.alloc (h : Fe w b off x) (o : Obj) : Fe (w.alloc o) b off x := h.keep (Below.heap_alloc w o b h.lt)
theorem Fe.drew (h : Fe w b off x) : Fe w.drew b off x := h
theorem Fe.drewN (h : Fe w b off x) (k : Nat) : Fe (w.drewN k) b off x := h

theorem Sets.fe (h : Sets w w' b off x) (h0 : El w b off L) : Fe w' b off x := by
  obtain ⟨L', hb, hx, hw⟩ := h
  exact ⟨L', hw.row h0, hb, hx⟩
theorem Sets.fe' (h : Sets w w' b off x) (h0 : Fe w b off y) : Fe w' b off x := by
  obtain ⟨L, h0, _⟩ := h0
  exact h.fe h0
theorem Sets.others (h : Sets w w' b off x) (h0 : Fe w b' off' y) (hd : b' ≠ b ∨ off' + 5 ≤ off ∨ off + 5 ≤ off') : Fe w' b' off' y := by
  obtain ⟨L', hb, hx, hw⟩ := h
  obtain ⟨L, h0, k⟩ := h0
  exact ⟨L, hw.others h0 hd, k⟩
theorem Sets.rows (h : Sets w w' b off x) {n : Nat} {us : Nat → Value} (h0 : Row w b' off' n us) (hd : b' ≠ b ∨ off' + n ≤ off ∨ off + 5 ≤ off') : Row w' b' off' n us := by
  obtain ⟨L', hb, hx, hw⟩ := h
  exact hw.others h0 hd
theorem Sets.elOthers (h : Sets w w' b off x) (h0 : El w b' off' L) (hd : b' ≠ b ∨ off' + 5 ≤ off ∨ off + 5 ≤ off') : El w' b' off' L := by
  obtain ⟨L', hb, hx, hw⟩ := h
  exact hw.others h0 hd
theorem Sets.size (h : Sets w w' b off x) : w.heap.size ≤ w'.heap.size := by obtain ⟨L', hb, hx, hw⟩ := h; exact hw.size
theorem Sets.below (h : Sets w w' b off x) {B : Nat} (hb : B ≤ b) (hB : B ≤ w.heap.size) : Below B w w' := by obtain ⟨L', _, _, hw⟩ := h; exact hw.below hb hB
theorem Sets.then (h : Sets w w1 b off x) (hb : Below w.heap.size w1 w2) : Sets w w2 b off x := by obtain ⟨L', h1, h2, hw⟩ := h; exact ⟨L', h1, h2, hw.then hb⟩
theorem Sets.ahead (hb : Below w.heap.size w w1) (h : Sets w1 w2 b off x) (hlt : b < w.heap.size) : Sets w w2 b off x := by obtain ⟨L', h1, h2, hw⟩ := h; exact ⟨L', h1, h2, hw.ahead hb hlt⟩
theorem Sets.trans (h : Sets w w1 b off x) (h' : Sets w1 w2 b off y) : Sets w w2 b off y := by
  obtain ⟨_, _, _, hw⟩ := h
  obtain ⟨L', h1, h2, hw'⟩ := h'
  exact ⟨L', h1, h2, hw.trans hw'⟩
theorem Sets.drew (h : Sets w w' b off x) : Sets w w'.drew b off x := by obtain ⟨L', h1, h2, hw⟩ := h; exact ⟨L', h1, h2, hw.drew⟩
theorem Sets.lt (h : Sets w w' b off x) : b < w.heap.size := by obtain ⟨L', h1, h2, hw⟩ := h; exact hw.lt
end

theorem limbV_0 (L : L5) : limbV L 0 = .int .u64 (L.l0 : Int) := rfl
theorem limbV_1 (L : L5) : limbV L 1 = .int .u64 (L.l1 : Int) := rfl
theorem limbV_2 (L : L5) : limbV L 2 = .int .u64 (L.l2 : Int) := rfl
theorem limbV_3 (L : L5) : limbV L 3 = .int .u64 (L.l3 : Int) := rfl
theorem limbV_4 (L : L5) : limbV L 4 = .int .u64 (L.l4 : Int) := rfl
end
section
open Go.RowKit

def D51 : Nat := 2251799813685248

/-- every limb fits in a word -/
def W64 (L : L5) : Prop := L.l0 < 18446744073709551616 ∧ L.l1 < 18446744073709551616 ∧ L.l2 < 18446744073709551616 ∧ L.l3 < 18446744073709551616 ∧ L.l4 < 18446744073709551616

def cpL (L : L5) : L5 :=
  ⟨L.l0 % 2251799813685248 + 19 * (L.l4 / 2251799813685248), L.l1 % 2251799813685248 + L.l0 / 2251799813685248, L.l2 % 2251799813685248 + L.l1 / 2251799813685248,
    L.l3 % 2251799813685248 + L.l2 / 2251799813685248, L.l4 % 2251799813685248 + L.l3 / 2251799813685248⟩

theorem cpL_val (L : L5) : val5 (cpL L) + pF * (L.l4 / 2251799813685248) = val5 L := by
  unfold val5 cpL pF
  simp only
  omega

theorem cpL_bd (L : L5) (h : W64 L) : Bd (cpL L) := by
  unfold W64 at h
  unfold Bd cpL
  simp only
  omega

theorem cpL_mod (L : L5) : val5 (cpL L) % pF = val5 L % pF := by
  rw [← cpL_val L, Nat.add_mul_mod_self_left]

def addL (a b : L5) : L5 := ⟨a.l0 + b.l0, a.l1 + b.l1, a.l2 + b.l2, a.l3 + b.l3, a.l4 + b.l4⟩
theorem addL_val (a b : L5) : val5 (addL a b) = val5 a + val5 b := by unfold val5 addL; simp only; omega
theorem addL_w (a b : L5) (ha : Bd a) (hb : Bd b) : W64 (addL a b) := by unfold Bd at ha hb; unfold W64 addL; simp only; omega

def subL (a b : L5) : L5 := ⟨a.l0 + 4503599627370458 - b.l0, a.l1 + 4503599627370494 - b.l1, a.l2 + 4503599627370494 - b.l2, a.l3 + 4503599627370494 - b.l3, a.l4 + 4503599627370494 - b.l4⟩
theorem subL_val (a b : L5) (hb : Bd b) : val5 (subL a b) + val5 b = val5 a + 2 * pF := by
  unfold Bd at hb
  unfold val5 subL pF
  simp only
  omega
theorem subL_w (a b : L5) (ha : Bd a) : W64 (subL a b) := by unfold Bd at ha; unfold W64 subL; simp only; omega

theorem pF_pos : 0 < pF := by unfold pF; omega

theorem sub_mod (s a b : Nat) (h : s + b = a + 2 * pF) : s % pF = (a % pF + (pF - b % pF)) % pF := by
  have h1 : (a % pF + (pF - b % pF)) % pF = (a + (pF - b % pF)) % pF := by rw [Nat.add_mod, Nat.mod_mod, ← Nat.add_mod]
  rw [h1]
  have hb := Nat.mod_add_div b pF
  have hlt := Nat.mod_lt b pF_pos
  -- s = a + 2p - b = a + (p - b%p) + p - p * (b / p)
  have e : s + pF * (b / pF) = (a + (pF - b % pF)) + pF * 1 := by
    generalize pF * (b / pF) = q at *
    omega
  have e2 : (s + pF * (b / pF)) % pF = s % pF := Nat.add_mul_mod_self_left _ _ _
  rw [← e2, e, Nat.add_mul_mod_self_left]

/-- the mask of 51 bits -/
theorem mask51 (a : Nat) (ha : a < 18446744073709551616) : bits .and .u64 (a : Int) 2251799813685247 = ((a % 2251799813685248 : Nat) : Int) := by
  have h := bits_and_u64_nat a 2251799813685247 ha (by omega)
  have e : a &&& 2251799813685247 = a % 2251799813685248 := Nat.and_two_pow_sub_one_eq_mod a 51
  rw [e] at h
  exact h

theorem div51 (a : Nat) : (a : Int) / 2251799813685248 = ((a / 2251799813685248 : Nat) : Int) := by omega
theorem wrap_nat (a : Nat) (ha : a < 18446744073709551616) : IntKind.u64.wrap (a : Int) = (a : Int) := by rw [IntKind.wrap_u64]; omega
theorem wrap_natM (a : Nat) : IntKind.u64.wrap (a : Int) = ((a % 18446744073709551616 : Nat) : Int) := by rw [IntKind.wrap_u64]; omega

theorem cp_word (a b : Nat) (ha : a < 18446744073709551616) (hb : b < 18446744073709551616) :
    IntKind.u64.wrap (bits .and .u64 (a : Int) 2251799813685247 + (b : Int) / 2251799813685248) = ((a % 2251799813685248 + b / 2251799813685248 : Nat) : Int) := by
  rw [mask51 a ha, div51, ← Int.natCast_add, wrap_nat _ (by omega)]
theorem cp_word19 (a b : Nat) (ha : a < 18446744073709551616) (hb : b < 18446744073709551616) :
    IntKind.u64.wrap (bits .and .u64 (a : Int) 2251799813685247 + 19 * ((b : Int) / 2251799813685248)) = ((a % 2251799813685248 + 19 * (b / 2251799813685248) : Nat) : Int) := by
  rw [mask51 a ha, show (19 : Int) * ((b : Int) / 2251799813685248) = ((19 * (b / 2251799813685248) : Nat) : Int) by omega, ← Int.natCast_add, wrap_nat _ (by omega)]

theorem limbs_eq (L : L5) (f : Nat → Value) (h0 : f 0 = .int .u64 (L.l0 : Int)) (h1 : f 1 = .int .u64 (L.l1 : Int)) (h2 : f 2 = .int .u64 (L.l2 : Int)) (h3 : f 3 = .int .u64 (L.l3 : Int)) (h4 : f 4 = .int .u64 (L.l4 : Int)) :
    ∀ i, i < 5 → limbV L i = f i := by
  intro i hi
  have : i = 0 ∨ i = 1 ∨ i = 2 ∨ i = 3 ∨ i = 4 := by omega
  rcases this with rfl | rfl | rfl | rfl | rfl
  · rw [h0]; rfl
  · rw [h1]; rfl
  · rw [h2]; rfl
  · rw [h3]; rfl
  · rw [h4]; rfl

/-- five stores, in whatever order they came -/
theorem Wr.five {w w' : World} {b off : Nat} {vs : Nat → Value} {L : L5} (h : Wr w w' b off 5 vs) (h0 : vs 0 = .int .u64 (L.l0 : Int)) (h1 : vs 1 = .int .u64 (L.l1 : Int)) (h2 : vs 2 = .int .u64 (L.l2 : Int)) (h3 : vs 3 = .int .u64 (L.l3 : Int)) (h4 : vs 4 = .int .u64 (L.l4 : Int)) :
    Wr w w' b off 5 (limbV L) := h.congr (limbs_eq L vs h0 h1 h2 h3 h4)
theorem u64_eq {a b : Int} (h : a = b) : Value.int .u64 a = .int .u64 b := by rw [h]

/-- byte i of a number -/
def byteN (N i : Nat) : Nat := N / 256 ^ i % 256
theorem byteN_lt (N i : Nat) : byteN N i < 256 := Nat.mod_lt _ (by omega)
theorem byteN_shift (N m i : Nat) : byteN N (m + i) = byteN (N / 256 ^ m) i := by
  unfold byteN
  rw [Nat.pow_add, Nat.div_div_eq_div_mul]
theorem byteN_mod (N n i : Nat) (h : i < n) : byteN (N % 256 ^ n) i = byteN N i := by
  unfold byteN
  have e : (256 : Nat) ^ n = 256 ^ i * 256 ^ (n - i) := by rw [← Nat.pow_add]; congr 1; omega
  rw [e, Nat.mod_mul_right_div_self]
  have e2 : (256 : Nat) ^ (n - i) = 256 * 256 ^ (n - i - 1) := by rw [← Nat.pow_succ']; congr 1; omega
  rw [e2, Nat.mod_mul_right_mod]

/-- the bytes of a number as cells -/
def byV (N : Nat) (i : Nat) : Value := .int .u8 ((byteN N i : Nat) : Int)

/-- [32]byte as a value -/
def arrV (N : Nat) : Value := .agg ((List.range 32).map (byV N)).toArray

theorem or256 (x b : Nat) (hx : x < 72057594037927936) (hb : b < 256) : bits .or .u64 ((x * 256 : Nat) : Int) (b : Int) = ((x * 256 + b : Nat) : Int) := by
  have h := bits_or_u64_nat (x * 256) b (by omega) (by omega)
  have e : x * 256 ||| b = x * 256 + b := by
    have := Nat.shiftLeft_add_eq_or_of_lt (i := 8) (b := b) hb x
    rw [Nat.shiftLeft_eq] at this
    exact this.symm
  rw [e] at h
  exact h

theorem le_step (N k : Nat) (hk : k < 8) : N % 18446744073709551616 / 256 ^ (k + 1) * 256 + byteN N k = N % 18446744073709551616 / 256 ^ k := by
  have e : byteN N k = N % 18446744073709551616 / 256 ^ k % 256 := by
    have := byteN_mod N 8 k hk
    rw [← this]
    rfl
  rw [e, Nat.pow_succ, ← Nat.div_div_eq_div_mul]
  omega

theorem le_small (N k : Nat) (hk : 1 ≤ k) : N % 18446744073709551616 / 256 ^ k < 72057594037927936 := by
  have e : (256 : Nat) ^ k = 256 * 256 ^ (k - 1) := by rw [← Nat.pow_succ']; congr 1; omega
  rw [e, ← Nat.div_div_eq_div_mul]
  exact Nat.lt_of_le_of_lt (Nat.div_le_self _ _) (by omega)
end
section
namespace Pm

def Pr (t : Nat) : Prop := 2 ≤ t ∧ ∀ d, d ∣ t → d = 1 ∨ d = t

theorem Pr.euclid {t a b : Nat} (h : Pr t) (hd : t ∣ a * b) : t ∣ a ∨ t ∣ b := by
  rcases h.2 (Nat.gcd t a) (Nat.gcd_dvd_left t a) with h1 | h1
  · exact Or.inr (Nat.Coprime.dvd_of_dvd_mul_left h1 hd)
  · exact Or.inl (by rw [← h1]; exact Nat.gcd_dvd_right t a)

/-- binomial coefficients -/
def ch : Nat → Nat → Nat
  | _, 0 => 1
  | 0, _ + 1 => 0
  | n + 1, k + 1 => ch n k + ch n (k + 1)
theorem ch_big : ∀ n k, n < k → ch n k = 0
  | 0, 0, h => by omega
  | 0, _ + 1, _ => rfl
  | n + 1, 0, h => by omega
  | n + 1, k + 1, h => by rw [ch, ch_big n k (by omega), ch_big n (k + 1) (by omega)]
theorem ch_self : ∀ n, ch n n = 1
  | 0 => rfl
  | n + 1 => by rw [ch, ch_self n, ch_big n (n + 1) (by omega)]
theorem ch_zero (n : Nat) : ch n 0 = 1 := by cases n <;> rfl
theorem ch_absorb : ∀ n k, (k + 1) * ch (n + 1) (k + 1) = (n + 1) * ch n k
  | 0, 0 => rfl
  | 0, k + 1 => by simp [ch]
  | n + 1, 0 => by
    have h := ch_absorb n 0
    rw [ch_zero] at h ⊢
    rw [ch, ch_zero]
    omega
  | n + 1, k + 1 => by
    have h1 := ch_absorb n k
    have h2 := ch_absorb n (k + 1)
    rw [ch]
    have e : ch (n + 1) (k + 1) = ch n k + ch n (k + 1) := rfl
    grind

/-- Σ k < m, C(n, k) a^k -/
def bs (a n : Nat) : Nat → Nat
  | 0 => 0
  | m + 1 => bs a n m + ch n m * a ^ m
theorem bs_step (a n : Nat) : ∀ m, bs a (n + 1) (m + 1) = bs a n (m + 1) + a * bs a n m
  | 0 => by simp [bs, ch_zero]
  | m + 1 => by
    have ih := bs_step a n m
    rw [bs, ih]
    have e : ch (n + 1) (m + 1) = ch n m + ch n (m + 1) := rfl
    have e1 : bs a n (m + 1 + 1) = bs a n (m + 1) + ch n (m + 1) * a ^ (m + 1) := rfl
    have e2 : bs a n (m + 1) = bs a n m + ch n m * a ^ m := rfl
    rw [e, e1, e2, Nat.pow_succ]
    grind
theorem bs_all (a : Nat) : ∀ n, bs a n (n + 1) = (a + 1) ^ n
  | 0 => by simp [bs, ch]
  | n + 1 => by
    have ih := bs_all a n
    have e1 : bs a n (n + 1 + 1) = bs a n (n + 1) + ch n (n + 1) * a ^ (n + 1) := rfl
    rw [bs_step, e1, ch_big n (n + 1) (by omega), ih, Nat.pow_succ]
    grind

theorem ch_dvd {t : Nat} (h : Pr t) (k : Nat) (h0 : 0 < k) (h1 : k < t) : t ∣ ch t k := by
  obtain ⟨n, rfl⟩ : ∃ n, t = n + 1 := ⟨t - 1, by have := h.1; omega⟩
  obtain ⟨j, rfl⟩ : ∃ j, k = j + 1 := ⟨k - 1, by omega⟩
  have := ch_absorb n j
  rcases h.euclid (a := j + 1) (b := ch (n + 1) (j + 1)) ⟨ch n j, this⟩ with h2 | h2
  · exact absurd (Nat.le_of_dvd (by omega) h2) (by omega)
  · exact h2
theorem bs_mod {t : Nat} (h : Pr t) (a : Nat) : ∀ m, m < t → bs a t (m + 1) % t = 1 % t
  | 0, _ => by simp [bs, ch_zero]
  | m + 1, hm => by
    rw [bs, Nat.add_mod, bs_mod h a m (by omega)]
    obtain ⟨c, hc⟩ := ch_dvd h (m + 1) (by omega) hm
    rw [hc, Nat.mul_assoc, Nat.mul_mod_right, Nat.add_zero, Nat.mod_mod]
theorem frob {t : Nat} (h : Pr t) (a : Nat) : (a + 1) ^ t % t = (a ^ t + 1) % t := by
  rw [← bs_all, bs, ch_self, Nat.one_mul]
  obtain ⟨n, rfl⟩ : ∃ n, t = n + 1 := ⟨t - 1, by have := h.1; omega⟩
  rw [Nat.add_mod, bs_mod h a n (by omega), ← Nat.add_mod, Nat.add_comm]
theorem little {t : Nat} (h : Pr t) : ∀ a, a ^ t % t = a % t
  | 0 => by have := h.1; rw [Nat.zero_pow (by omega)]
  | a + 1 => by rw [frob h a, Nat.add_mod, little h a, ← Nat.add_mod]
theorem mod_dvd {a b n : Nat} (h : b ≤ a) : a % n = b % n ↔ n ∣ a - b := by
  constructor
  · intro e; exact Nat.dvd_of_mod_eq_zero (Nat.sub_mod_eq_zero_of_mod_eq e)
  · rintro ⟨c, hc⟩
    rw [show a = b + n * c by omega, Nat.add_mul_mod_self_left]
/-- Fermat's little theorem -/
theorem fermat {t : Nat} (h : Pr t) (a : Nat) (ha : ¬ t ∣ a) : a ^ (t - 1) % t = 1 % t := by
  have ht := h.1
  have h0 : 0 < a := by rcases Nat.eq_zero_or_pos a with rfl | h; exact absurd (Nat.dvd_zero t) ha; exact h
  have e : a ^ t = a * a ^ (t - 1) := by rw [← Nat.pow_succ']; congr 1; omega
  have hp : 1 ≤ a ^ (t - 1) := Nat.pow_pos h0
  have hl : a ≤ a ^ t := by rw [e]; exact Nat.le_mul_of_pos_right a hp
  have h1 := (mod_dvd hl).1 (little h a)
  rw [e, show a * a ^ (t - 1) - a = a * (a ^ (t - 1) - 1) by rw [Nat.mul_sub, Nat.mul_one]] at h1
  rcases h.euclid h1 with h2 | h2
  · exact absurd h2 ha
  · exact (mod_dvd hp).2 h2

/-- a power of b that is 1 for two exponents is 1 for their greatest common divisor -/
theorem pow_one_mod {t b m : Nat} (h : b ^ m % t = 1 % t) (k : Nat) : b ^ (m * k) % t = 1 % t := by
  rw [Nat.pow_mul, Nat.pow_mod, h, ← Nat.pow_mod, Nat.one_pow]
theorem order_gcd {t b : Nat} : ∀ (s m n : Nat), m ≤ s → b ^ m % t = 1 % t → b ^ n % t = 1 % t → b ^ (Nat.gcd m n) % t = 1 % t
  | 0, m, n, hs, h1, h2 => by
    obtain rfl : m = 0 := by omega
    rw [Nat.gcd_zero_left]; exact h2
  | s + 1, 0, n, hs, h1, h2 => by rw [Nat.gcd_zero_left]; exact h2
  | s + 1, m + 1, n, hs, h1, h2 => by
    rw [Nat.gcd_rec]
    refine order_gcd s (n % (m + 1)) (m + 1) ?_ ?_ h1
    · have := Nat.mod_lt n (show 0 < m + 1 by omega); omega
    · have e : b ^ n = b ^ ((m + 1) * (n / (m + 1))) * b ^ (n % (m + 1)) := by
        rw [← Nat.pow_add, Nat.div_add_mod]
      rw [e, Nat.mul_mod, pow_one_mod h1, ← Nat.mul_mod, Nat.one_mul] at h2
      exact h2

/-- every number from 2 on has a prime divisor -/
theorem has_prime : ∀ (s n : Nat), n ≤ s → 2 ≤ n → ∃ t, Pr t ∧ t ∣ n
  | 0, n, h, h2 => by omega
  | s + 1, n, h, h2 => by
    by_cases hp : Pr n
    · exact ⟨n, hp, Nat.dvd_refl n⟩
    · have : ∃ d, d ∣ n ∧ ¬ (d = 1 ∨ d = n) := by
        refine Classical.byContradiction fun hn => hp ⟨h2, fun d hd => ?_⟩
        exact Classical.byContradiction fun h3 => hn ⟨d, hd, h3⟩
      obtain ⟨d, hd, h1⟩ := this
      have hle := Nat.le_of_dvd (by omega) hd
      have h0 : d ≠ 0 := by rintro rfl; have := Nat.eq_zero_of_zero_dvd hd; omega
      obtain ⟨t, ht, htd⟩ := has_prime s d (by omega) (by omega)
      exact ⟨t, ht, Nat.dvd_trans htd hd⟩

/-- Pocklington's step: of a prime q with n - 1 = q * c, every prime divisor of n is 1 modulo q -/
theorem pock {n q c a t : Nat} (hq : Pr q) (hn : n = q * c + 1) (h1 : a ^ (q * c) % n = 1) (hg : Nat.gcd (a ^ c % n + (n - 1)) n = 1) (ht : Pr t) (hd : t ∣ n) : q ∣ t - 1 := by
  obtain ⟨m, hm⟩ := hd
  have t2 := ht.1
  have hm1 : a ^ (q * c) % t = 1 % t := by
    have : a ^ (q * c) % n % t = 1 % t := by rw [h1]
    rw [hm, Nat.mod_mul_right_mod] at this
    exact this
  have hta : ¬ t ∣ a ^ c := by
    rintro ⟨z, hz⟩
    have hqz : q ≠ 0 := by have := hq.1; omega
    rw [Nat.mul_comm q c, Nat.pow_mul, hz, Nat.mul_pow, show q = (q - 1) + 1 by have := hq.1; omega, Nat.pow_succ, Nat.mul_comm (t ^ (q - 1)) t, Nat.mul_assoc, Nat.mul_mod_right] at hm1
    rw [Nat.mod_eq_of_lt (by omega)] at hm1
    omega
  have hf := fermat ht (a ^ c) hta
  have hb : (a ^ c) ^ q % t = 1 % t := by rw [← Nat.pow_mul, Nat.mul_comm c q]; exact hm1
  have hG := order_gcd q q (t - 1) (Nat.le_refl _) hb hf
  rcases hq.2 (Nat.gcd q (t - 1)) (Nat.gcd_dvd_left _ _) with h | h
  · exfalso
    rw [h, Nat.pow_one] at hG
    -- t divides a^c - 1, so t divides the gcd
    have : t ∣ Nat.gcd (a ^ c % n + (n - 1)) n := by
      refine Nat.dvd_gcd ?_ ⟨m, hm⟩
      refine Nat.dvd_of_mod_eq_zero ?_
      have e1 : a ^ c % n % t = 1 % t := by rw [hm, Nat.mod_mul_right_mod]; exact hG
      have n1 : 1 ≤ n := by omega
      rw [Nat.add_mod, e1, ← Nat.add_mod, show 1 + (n - 1) = n by omega, hm, Nat.mul_mod_right]
    rw [hg] at this
    have := Nat.le_of_dvd (by omega) this
    omega
  · rw [← h]; exact Nat.gcd_dvd_right _ _

/-- a number without a prime divisor up to its root is prime -/
theorem prime_of {n B : Nat} (h2 : 2 ≤ n) (hB : n < B * B) (h : ∀ t, Pr t → t ∣ n → B ≤ t) : Pr n := by
  obtain ⟨t, ht, hd⟩ := has_prime n n (Nat.le_refl _) h2
  obtain ⟨m, hm⟩ := hd
  have hBt := h t ht ⟨m, hm⟩
  rcases Nat.lt_or_ge m 2 with hm2 | hm2
  · have : m = 1 := by
      rcases Nat.eq_zero_or_pos m with h0 | h0
      · rw [h0] at hm; omega
      · omega
    rw [this, Nat.mul_one] at hm
    rw [hm]; exact ht
  · obtain ⟨s, hs, hsm⟩ := has_prime m m (Nat.le_refl _) hm2
    have hBs := h s hs (by rw [hm]; exact Nat.dvd_mul_left_of_dvd hsm t)
    have hsm' := Nat.le_of_dvd (by omega) hsm
    exfalso
    have h5 : B * B ≤ t * m := Nat.mul_le_mul hBt (Nat.le_trans hBs hsm')
    omega

/-- powers modulo n by squaring, the exponent's bits from the lowest -/
def pw (n : Nat) : Nat → Nat → Nat → Nat → Nat
  | 0, _, _, r => r
  | f + 1, b, e, r => pw n f (b * b % n) (e / 2) (if e % 2 = 1 then r * b % n else r)
theorem pw_eq (n : Nat) : ∀ f b e r, e < 2 ^ f → pw n f b e r % n = r * b ^ e % n
  | 0, b, e, r, h => by
    obtain rfl : e = 0 := by simpa using h
    simp [pw]
  | f + 1, b, e, r, h => by
    rw [pw, pw_eq n f _ _ _ (by rw [Nat.pow_succ] at h; omega)]
    have e1 : (b * b % n) ^ (e / 2) % n = b ^ (2 * (e / 2)) % n := by
      rw [← Nat.pow_mod, Nat.pow_mul, Nat.pow_two]
    split
    · rename_i h1
      have e2 : e = 2 * (e / 2) + 1 := by omega
      rw [Nat.mul_mod, e1, Nat.mod_mod, ← Nat.mul_mod]
      conv => rhs; rw [e2, Nat.pow_succ]
      rw [Nat.mul_assoc, Nat.mul_comm b]
    · rename_i h1
      have e2 : e = 2 * (e / 2) := by omega
      rw [Nat.mul_mod, e1, ← Nat.mul_mod]
      conv => rhs; rw [e2]

theorem pw_pow {n f b e r : Nat} (h : pw n f b e 1 % n = r) (he : e < 2 ^ f) : b ^ e % n = r := by
  rw [← h, pw_eq n f b e 1 he, Nat.one_mul]
/-- a small prime, by trial -/
theorem small_prime {n B : Nat} (h2 : 2 ≤ n) (hB : n < B * B) (h : ∀ t, t < B → t < 2 ∨ n % t ≠ 0) : Pr n := by
  refine prime_of h2 hB fun t ht hd => ?_
  rcases Nat.lt_or_ge t B with hlt | hge
  · rcases h t hlt with h1 | h1
    · have := ht.1; omega
    · exact absurd (Nat.mod_eq_zero_of_dvd hd) h1
  · exact hge
theorem pock1 {n q c a x : Nat} (f : Nat) (hq : Pr q) (hn : n = q * c + 1) (h1 : pw n f a (q * c) 1 % n = 1) (hx : pw n f a c 1 % n = x) (hg : Nat.gcd (x + (n - 1)) n = 1) (hf1 : q * c < 2 ^ f) (hf2 : c < 2 ^ f) {t : Nat} (ht : Pr t) (hd : t ∣ n) : q ∣ t - 1 :=
  pock hq hn (pw_pow h1 hf1) (by rw [pw_pow hx hf2]; exact hg) ht hd
theorem two_dvd {q r m : Nat} (h : Nat.gcd q r = 1) (h1 : q ∣ m) (h2 : r ∣ m) : q * r ∣ m := Nat.Coprime.mul_dvd_of_dvd_of_dvd h h1 h2
theorem lt_of_dvd_pred {F t : Nat} (ht : Pr t) (h : F ∣ t - 1) : F + 1 ≤ t := by
  have := ht.1
  have := Nat.le_of_dvd (by omega) h
  omega
theorem pr_127 : Pr 127 := small_prime (B := 12) (by decide +kernel) (by decide +kernel) (by decide +kernel)
theorem pr_353 : Pr 353 := small_prime (B := 19) (by decide +kernel) (by decide +kernel) (by decide +kernel)
theorem pr_75707 : Pr 75707 := small_prime (B := 276) (by decide +kernel) (by decide +kernel) (by decide +kernel)
theorem pr_103 : Pr 103 := small_prime (B := 11) (by decide +kernel) (by decide +kernel) (by decide +kernel)
theorem pr_991 : Pr 991 := small_prime (B := 32) (by decide +kernel) (by decide +kernel) (by decide +kernel)
theorem pr_8574133 : Pr 8574133 := prime_of (B := 102074) (by decide +kernel) (by decide +kernel) fun t ht hd =>
  lt_of_dvd_pred (F := 103 * 991) ht (two_dvd (by decide +kernel) (pock1 (a := 2) (c := 83244) (x := 4321357) 256 pr_103 (by decide +kernel) (by decide +kernel) (by decide +kernel) (by decide +kernel) (by decide +kernel) (by decide +kernel) ht hd) (pock1 (a := 2) (c := 8652) (x := 3435729) 256 pr_991 (by decide +kernel) (by decide +kernel) (by decide +kernel) (by decide +kernel) (by decide +kernel) (by decide +kernel) ht hd))
theorem pr_s : Pr 1919519569386763 := prime_of (B := 1088914892) (by decide +kernel) (by decide +kernel) fun t ht hd =>
  lt_of_dvd_pred (F := 127 * 8574133) ht (two_dvd (by decide +kernel) (pock1 (a := 2) (c := 15114327318006) (x := 576774792492622) 256 pr_127 (by decide +kernel) (by decide +kernel) (by decide +kernel) (by decide +kernel) (by decide +kernel) (by decide +kernel) ht hd) (pock1 (a := 2) (c := 223873314) (x := 1059928654987441) 256 pr_8574133 (by decide +kernel) (by decide +kernel) (by decide +kernel) (by decide +kernel) (by decide +kernel) (by decide +kernel) ht hd))
theorem pr_r : Pr 75445702479781427272750846543864801 := prime_of (B := 145321068039563666442) (by decide +kernel) (by decide +kernel) fun t ht hd =>
  lt_of_dvd_pred (F := 75707 * 1919519569386763) ht (two_dvd (by decide +kernel) (pock1 (a := 2) (c := 996548568557483816196003626400) (x := 58781699294900834553279248901967638) 256 pr_75707 (by decide +kernel) (by decide +kernel) (by decide +kernel) (by decide +kernel) (by decide +kernel) (by decide +kernel) ht hd) (pock1 (a := 2) (c := 39304471641247389600) (x := 56747016255153332959347766392083459) 256 pr_s (by decide +kernel) (by decide +kernel) (by decide +kernel) (by decide +kernel) (by decide +kernel) (by decide +kernel) ht hd))
theorem pr_q : Pr 74058212732561358302231226437062788676166966415465897661863160754340907 := prime_of (B := 26632332975362843827281048829984274754) (by decide +kernel) (by decide +kernel) fun t ht hd =>
  lt_of_dvd_pred (F := 353 * 75445702479781427272750846543864801) ht (two_dvd (by decide +kernel) (pock1 (a := 2) (c := 209796636636151156663544550813209033076960244803019540118592523383402) (x := 8562916886866218785688304546164188478888058893729309188831496247839076) 256 pr_353 (by decide +kernel) (by decide +kernel) (by decide +kernel) (by decide +kernel) (by decide +kernel) (by decide +kernel) ht hd) (pock1 (a := 2) (c := 981609426360740691344999861639072106) (x := 69490809710348678725736597923071784769591275419387514694139338586948360) 256 pr_r (by decide +kernel) (by decide +kernel) (by decide +kernel) (by decide +kernel) (by decide +kernel) (by decide +kernel) ht hd))
theorem pr_p : Pr 57896044618658097711785492504343953926634992332820282019728792003956564819949 := prime_of (B := 74058212732561358302231226437062788676166966415465897661863160754340908) (by decide +kernel) (by decide +kernel) fun t ht hd =>
  lt_of_dvd_pred (F := 74058212732561358302231226437062788676166966415465897661863160754340907) ht (pock1 (a := 2) (c := 781764) (x := 427094198651976259540344842774561673889945192655078505504941250475370961481) 256 pr_q (by decide +kernel) (by decide +kernel) (by decide +kernel) (by decide +kernel) (by decide +kernel) (by decide +kernel) ht hd)
end Pm
end
section
instance pF_nz : NeZero pF := ⟨by unfold pF; omega⟩
abbrev Fp := Fin pF
/-- a number as an element of the field -/
def fp (x : Nat) : Fp := Fin.ofNat pF x
theorem fp_val (x : Nat) : (fp x).val = x % pF := rfl
theorem fp_mod (x : Nat) : fp (x % pF) = fp x := by apply Fin.ext; simp [fp_val]
theorem fp_eq {x y : Nat} : fp x = fp y ↔ x % pF = y % pF := by
  constructor
  · intro h; have := congrArg Fin.val h; simpa [fp_val] using this
  · intro h; apply Fin.ext; simpa [fp_val] using h
theorem fp_inj {x y : Nat} (hx : x < pF) (hy : y < pF) (h : fp x = fp y) : x = y := by
  have := fp_eq.1 h
  rwa [Nat.mod_eq_of_lt hx, Nat.mod_eq_of_lt hy] at this
theorem fp_add (x y : Nat) : fp (x + y) = fp x + fp y := by
  apply Fin.ext; simp [fp_val, Fin.val_add, Nat.add_mod]
theorem fp_mul (x y : Nat) : fp (x * y) = fp x * fp y := by
  apply Fin.ext; simp [fp_val, Fin.val_mul, Nat.mul_mod]
theorem fp_zero : fp 0 = 0 := rfl
theorem fp_one : fp 1 = 1 := rfl
theorem fp_p : fp pF = 0 := by apply Fin.ext; simp [fp_val]
theorem fp_sub (x y : Nat) (h : y ≤ pF) : fp (x + (pF - y)) = fp x - fp y := by
  have h1 : fp (x + (pF - y)) + fp y = fp x := by
    rw [← fp_add, show x + (pF - y) + y = x + pF by omega, fp_add, fp_p]; grind
  grind
theorem fp_neg (y : Nat) (h : y ≤ pF) : fp (pF - y) = - fp y := by
  have := fp_sub 0 y h
  rw [Nat.zero_add] at this
  rw [this, fp_zero]; grind
theorem fp_pow (x : Nat) : ∀ n, fp (x ^ n) = fp x ^ n
  | 0 => by rw [Nat.pow_zero, fp_one]; grind
  | n + 1 => by rw [Nat.pow_succ, fp_mul, fp_pow x n]; grind
theorem fp_of (a : Fp) : fp a.val = a := by apply Fin.ext; rw [fp_val]; exact Nat.mod_eq_of_lt a.isLt
theorem fp_ne (x : Nat) : fp x = 0 ↔ x % pF = 0 := by
  rw [← fp_zero, fp_eq, Nat.zero_mod]
theorem fp_dvd (x : Nat) : fp x = 0 ↔ pF ∣ x := by rw [fp_ne]; exact ⟨Nat.dvd_of_mod_eq_zero, Nat.mod_eq_zero_of_dvd⟩
theorem pr_pF : Pm.Pr pF := Pm.pr_p
theorem fp_nodiv {a b : Fp} (h : a * b = 0) : a = 0 ∨ b = 0 := by
  rw [← fp_of a, ← fp_of b, ← fp_mul, fp_dvd] at h
  rcases pr_pF.euclid h with h | h
  · left; rw [← fp_of a]; exact (fp_dvd _).2 h
  · right; rw [← fp_of b]; exact (fp_dvd _).2 h
theorem fp_cancel {a b c : Fp} (ha : a ≠ 0) (h : a * b = a * c) : b = c := by
  have : a * (b - c) = 0 := by grind
  rcases fp_nodiv this with h | h
  · exact absurd h ha
  · grind
theorem fp_fermat (a : Fp) (h : a ≠ 0) : a ^ (pF - 1) = 1 := by
  have h1 : ¬ pF ∣ a.val := fun hd => h (by rw [← fp_of a]; exact (fp_dvd _).2 hd)
  have := Pm.fermat pr_pF a.val h1
  rw [← fp_of a, ← fp_pow, ← fp_one]
  exact fp_eq.2 this
/-- 1 / a, and 0 of 0 -/
def fpInv (a : Fp) : Fp := a ^ (pF - 2)
theorem fpInv_mul (a : Fp) (h : a ≠ 0) : a * fpInv a = 1 := by
  rw [← fp_fermat a h]
  unfold fpInv
  rw [show pF - 1 = (pF - 2) + 1 by unfold pF; omega]
  generalize pF - 2 = e
  grind
theorem fpInv_zero : fpInv 0 = 0 := by
  unfold fpInv
  rw [show pF - 2 = (pF - 3) + 1 by unfold pF; omega]
  generalize pF - 3 = e
  grind
theorem fp_one_ne : (1 : Fp) ≠ 0 := by
  intro h
  have := congrArg Fin.val h
  revert this; decide +kernel
end
section
theorem fpow_succ (a : Fp) (n : Nat) : a ^ (n + 1) = a ^ n * a := by grind
theorem fpow_zero (a : Fp) : a ^ 0 = 1 := by grind
theorem fpow_one (a : Fp) : a ^ 1 = a := by grind
theorem fpow_add (a : Fp) (m : Nat) : ∀ n : Nat, a ^ (m + n) = a ^ m * a ^ n
  | 0 => by rw [Nat.add_zero, fpow_zero]; grind
  | n + 1 => by rw [← Nat.add_assoc, fpow_succ, fpow_add a m n, fpow_succ]; grind
theorem fpow_mul (a : Fp) (m : Nat) : ∀ n : Nat, a ^ (m * n) = (a ^ m) ^ n
  | 0 => by rw [Nat.mul_zero, fpow_zero, fpow_zero]
  | n + 1 => by rw [Nat.mul_succ, fpow_add, fpow_mul a m n, fpow_succ]
theorem fmul_pow (a b : Fp) : ∀ n : Nat, (a * b) ^ n = a ^ n * b ^ n
  | 0 => by rw [fpow_zero, fpow_zero, fpow_zero]; grind
  | n + 1 => by rw [fpow_succ, fmul_pow a b n, fpow_succ, fpow_succ]; grind
theorem fone_pow : ∀ n : Nat, (1 : Fp) ^ n = 1
  | 0 => fpow_zero _
  | n + 1 => by rw [fpow_succ, fone_pow n]; grind
theorem fzero_pow (n : Nat) : (0 : Fp) ^ (n + 1) = 0 := by rw [fpow_succ]; grind
theorem fpow_ne (a : Fp) (h : a ≠ 0) : ∀ n : Nat, a ^ n ≠ 0
  | 0 => by rw [fpow_zero]; exact fp_one_ne
  | n + 1 => by
    rw [fpow_succ]
    intro h0
    rcases fp_nodiv h0 with h1 | h1
    · exact fpow_ne a h n h1
    · exact h h1
theorem fp_two_ne : (2 : Fp) ≠ 0 := by
  intro h
  have := congrArg Fin.val h
  revert this; decide +kernel
theorem fp_neg_ne (a : Fp) (h : a ≠ 0) : a ≠ -a := by
  intro h0
  have : 2 * a = 0 := by grind
  rcases fp_nodiv this with h1 | h1
  · exact fp_two_ne h1
  · exact h h1
/-- (p - 5) / 8 -/
def eQ : Nat := 7237005577332262213973186563042994240829374041602535252466099000494570602493
theorem eQ_p : pF - 1 = (2 * eQ + 1) * 4 := by unfold pF eQ; omega
/-- the square root of -1 that is even -/
def iN : Nat := 19681161376707505956807079304988542015446066515923890162744021073123829784752
theorem iN_lt : iN < pF := by unfold iN pF; omega
theorem iN_even : iN % 2 = 0 := by unfold iN; omega
theorem iN_sq : iN * iN % pF = pF - 1 := by decide +kernel
theorem fi_sq : fp iN * fp iN = -1 := by
  rw [← fp_mul, ← fp_mod, iN_sq]
  have h := fp_neg 1 (by unfold pF; omega)
  rw [h, fp_one]
theorem two_non : (2 : Fp) ^ (2 * (2 * eQ + 1)) = -1 := by
  have h : 2 ^ (2 * (2 * eQ + 1)) % pF = pF - 1 := Pm.pw_pow (f := 256) (by decide +kernel) (by decide +kernel)
  have e : (2 : Fp) = fp 2 := rfl
  rw [e, ← fp_pow, ← fp_mod, h]
  have h := fp_neg 1 (by unfold pF; omega)
  rw [h, fp_one]
theorem four_roots {c i : Fp} (hi : i * i = -1) (h : c ^ 4 = 1) : c = 1 ∨ c = -1 ∨ c = i ∨ c = -i := by
  have h1 : (c - 1) * ((c + 1) * ((c - i) * (c + i))) = 0 := by grind
  rcases fp_nodiv h1 with h1 | h1
  · left; grind
  · rcases fp_nodiv h1 with h1 | h1
    · right; left; grind
    · rcases fp_nodiv h1 with h1 | h1
      · right; right; left; grind
      · right; right; right; grind
theorem chi_four (z : Fp) (h : z ≠ 0) : (z ^ (2 * eQ + 1)) ^ 4 = 1 := by
  rw [← fpow_mul, ← eQ_p]; exact fp_fermat z h
/-- the root before its sign is chosen, times v and squared -/
theorem check_val (u v : Fp) : v * ((u * (v * v * v) * (u * (v * v * v) * ((v * v) * (v * v))) ^ eQ) * (u * (v * v * v) * (u * (v * v * v) * ((v * v) * (v * v))) ^ eQ)) = u * (u * (v * v * v) * ((v * v) * (v * v))) ^ (2 * eQ + 1) := by
  rw [fpow_succ, Nat.mul_comm 2, fpow_mul]
  generalize (u * (v * v * v) * ((v * v) * (v * v))) ^ eQ = s
  grind
theorem z_ne {u v : Fp} (hu : u ≠ 0) (hv : v ≠ 0) : u * (v * v * v) * ((v * v) * (v * v)) ≠ 0 := by
  intro h
  rcases fp_nodiv h with h | h
  · rcases fp_nodiv h with h | h
    · exact hu h
    · rcases fp_nodiv h with h | h
      · rcases fp_nodiv h with h | h <;> exact hv h
      · exact hv h
  · rcases fp_nodiv h with h | h <;> (rcases fp_nodiv h with h | h <;> exact hv h)
/-- equal squares -/
theorem sq_eq {a b : Fp} (h : a * a = b * b) : a = b ∨ a = -b := by
  have : (a - b) * (a + b) = 0 := by grind
  rcases fp_nodiv this with h | h
  · left; grind
  · right; grind
/-- |x|: the even one of x and -x -/
def absN (x : Nat) : Nat := if x % 2 = 1 then (pF - x) % pF else x
theorem absN_lt (x : Nat) (h : x < pF) : absN x < pF := by
  unfold absN; split
  · exact Nat.mod_lt _ pF_pos
  · exact h
theorem absN_even (x : Nat) (h : x < pF) : absN x % 2 = 0 := by
  unfold absN
  have hp : pF % 2 = 1 := by unfold pF; omega
  split
  · rename_i h1; rw [Nat.mod_eq_of_lt (show pF - x < pF by omega)]; omega
  · omega
theorem absN_sq (x : Nat) (h : x < pF) : fp (absN x) * fp (absN x) = fp x * fp x := by
  unfold absN; split
  · rw [fp_mod, fp_neg _ (by omega)]; grind
  · rfl
theorem absN_zero : absN 0 = 0 := by unfold absN; simp
/-- the even root is one alone -/
theorem even_root {a b : Nat} (ha : a < pF) (hb : b < pF) (ea : a % 2 = 0) (eb : b % 2 = 0) (h : fp a * fp a = fp b * fp b) : a = b := by
  have hp : pF % 2 = 1 := by unfold pF; omega
  rcases sq_eq h with h | h
  · exact fp_inj ha hb h
  · rw [← fp_neg b (by omega), ← fp_mod (pF - b)] at h
    have := fp_inj ha (Nat.mod_lt _ pF_pos) h
    rcases Nat.eq_zero_or_pos b with rfl | h0
    · rw [Nat.sub_zero, Nat.mod_self] at this; exact this
    · rw [Nat.mod_eq_of_lt (by omega)] at this; omega
/-- the root of u / v ahead of its sign -/
def sqRR (u v : Nat) : Nat :=
  u * (v * v % pF * v % pF) % pF * ((u * (v * v % pF * v % pF) % pF * (v * v % pF * (v * v % pF) % pF) % pF) ^ eQ % pF) % pF
def sqC (u v : Nat) : Nat := v * (sqRR u v * sqRR u v % pF) % pF
def sqB (u v : Nat) : Bool := sqC u v = (pF - u) % pF || sqC u v = (pF - u) % pF * iN % pF
def sqR (u v : Nat) : Nat := absN (if sqB u v then sqRR u v * iN % pF else sqRR u v)
def sqW (u v : Nat) : Bool := sqC u v = u || sqC u v = (pF - u) % pF
def sqZ (u v : Nat) : Nat := if sqW u v then 1 else 0
def sqz (u v : Fp) : Fp := u * (v * v * v) * ((v * v) * (v * v))
theorem fp_sqRR (u v : Nat) : fp (sqRR u v) = fp u * (fp v * fp v * fp v) * sqz (fp u) (fp v) ^ eQ := by
  unfold sqRR sqz
  simp only [fp_mod, fp_mul, fp_pow]
theorem sqRR_lt (u v : Nat) : sqRR u v < pF := Nat.mod_lt _ pF_pos
theorem sqC_lt (u v : Nat) : sqC u v < pF := Nat.mod_lt _ pF_pos
theorem fp_sqC (u v : Nat) : fp (sqC u v) = fp u * sqz (fp u) (fp v) ^ (2 * eQ + 1) := by
  have h : fp (sqC u v) = fp v * (fp (sqRR u v) * fp (sqRR u v)) := by
    unfold sqC
    simp only [fp_mod, fp_mul]
  rw [h, fp_sqRR]
  unfold sqz
  exact check_val (fp u) (fp v)
theorem fp_eq_iff {a b : Nat} (ha : a < pF) (hb : b < pF) : a = b ↔ fp a = fp b := ⟨fun h => by rw [h], fp_inj ha hb⟩
theorem fp_negm (u : Nat) (h : u ≤ pF) : fp ((pF - u) % pF) = - fp u := by rw [fp_mod, fp_neg u h]
theorem fp_zero_iff {a : Nat} (ha : a < pF) : a = 0 ↔ fp a = 0 := by rw [← fp_zero]; exact fp_eq_iff ha pF_pos
theorem sq_c1 (u v : Nat) (hu : u < pF) : (sqC u v = u) ↔ fp u * sqz (fp u) (fp v) ^ (2 * eQ + 1) = fp u := by
  rw [fp_eq_iff (sqC_lt u v) hu, fp_sqC]
theorem sq_c2 (u v : Nat) (hu : u < pF) : (sqC u v = (pF - u) % pF) ↔ fp u * sqz (fp u) (fp v) ^ (2 * eQ + 1) = - fp u := by
  rw [fp_eq_iff (sqC_lt u v) (Nat.mod_lt _ pF_pos), fp_sqC, fp_negm u (by omega)]
theorem sq_c3 (u v : Nat) (hu : u < pF) : (sqC u v = (pF - u) % pF * iN % pF) ↔ fp u * sqz (fp u) (fp v) ^ (2 * eQ + 1) = - fp u * fp iN := by
  rw [fp_eq_iff (sqC_lt u v) (Nat.mod_lt _ pF_pos), fp_sqC, fp_mod, fp_mul, fp_negm u (by omega)]
theorem sqR_lt (u v : Nat) : sqR u v < pF := by
  unfold sqR; refine absN_lt _ ?_; split
  · exact Nat.mod_lt _ pF_pos
  · exact sqRR_lt u v
theorem sqR_even (u v : Nat) : sqR u v % 2 = 0 := by
  unfold sqR; refine absN_even _ ?_; split
  · exact Nat.mod_lt _ pF_pos
  · exact sqRR_lt u v
theorem sqR_sq (u v : Nat) : fp (sqR u v) * fp (sqR u v) = if sqB u v then - (fp (sqRR u v) * fp (sqRR u v)) else fp (sqRR u v) * fp (sqRR u v) := by
  have hi := fi_sq
  unfold sqR
  split
  · rw [absN_sq _ (Nat.mod_lt _ pF_pos), fp_mod, fp_mul]; grind
  · rw [absN_sq _ (sqRR_lt u v)]
/-- v = 0 -/
theorem sqR_v0 (u : Nat) : sqR u 0 = 0 := by
  have h : sqRR u 0 = 0 := by unfold sqRR; simp
  unfold sqR; rw [h]; simp [absN_zero]
theorem sqC_v0 (u : Nat) : sqC u 0 = 0 := by unfold sqC; simp
theorem sqW_v0 (u : Nat) (hu : u < pF) : sqW u 0 = decide (u = 0) := by
  unfold sqW; rw [sqC_v0]
  rcases Nat.eq_zero_or_pos u with rfl | h
  · simp
  · have : (pF - u) % pF = pF - u := Nat.mod_eq_of_lt (by omega)
    rw [this]
    have h1 : ¬ 0 = u := by omega
    have h2 : ¬ 0 = pF - u := by omega
    have h3 : ¬ u = 0 := by omega
    simp [h1, h2, h3]
theorem sqC_u0 (v : Nat) : sqC 0 v = 0 := by
  have h : sqRR 0 v = 0 := by unfold sqRR; simp
  unfold sqC; rw [h]; simp
theorem sqW_u0 (v : Nat) : sqW 0 v = true := by unfold sqW; rw [sqC_u0]; simp
theorem w_fin1 {R2 r V U C c : Fp} (h1 : R2 = r) (h2 : C = V * r) (h3 : C = U * c) (h : c = 1) : R2 * V = U := by grind
theorem w_fin2 {R2 r V U C c : Fp} (h1 : R2 = -r) (h2 : C = V * r) (h3 : C = U * c) (h : c = -1) : R2 * V = U := by grind
theorem w_fin3 {R2 r V U C c i : Fp} (h1 : R2 = r) (h2 : C = V * r) (h3 : C = U * c) (h : c = i) : R2 * V = i * U := by grind
theorem w_fin4 {R2 r V U C c i : Fp} (h1 : R2 = -r) (h2 : C = V * r) (h3 : C = U * c) (h : c = -i) : R2 * V = i * U := by grind
theorem w_u1 {U c : Fp} (h : c = 1) : U * c = U := by grind
theorem w_u2 {U c : Fp} (h : c = -1) : U * c = -U := by grind
theorem w_u3 {U c i : Fp} (h : c = -i) : U * c = -U * i := by grind
theorem w_n {U c a : Fp} (hU : U ≠ 0) (hca : c ≠ a) : ¬ U * c = U * a := fun h => hca (fp_cancel hU h)
theorem w_sq1 {c : Fp} (h : c = 1) : c ^ 2 = 1 := by grind
theorem w_sq2 {c : Fp} (h : c = -1) : c ^ 2 = 1 := by grind
theorem w_sq3 {c i : Fp} (hi : i * i = -1) (h : c = i) : c ^ 2 = -1 := by grind
theorem w_sq4 {c i : Fp} (hi : i * i = -1) (h : c = -i) : c ^ 2 = -1 := by grind
theorem i_ne1 {i : Fp} (hi : i * i = -1) : i ≠ 1 := fun h => fp_neg_ne 1 fp_one_ne (by rw [h] at hi; grind)
theorem i_ne2 {i : Fp} (hi : i * i = -1) : i ≠ -1 := fun h => fp_neg_ne 1 fp_one_ne (by rw [h] at hi; grind)
theorem i_ne0 {i : Fp} (hi : i * i = -1) : i ≠ 0 := fun h => fp_one_ne (by
  have e : (1 : Fp) = - (i * i) := by rw [hi]; grind
  rw [e, h]; grind)
theorem ni_ne1 {i : Fp} (hi : i * i = -1) : -i ≠ 1 := fun h => i_ne2 hi (by grind)
theorem ni_ne2 {i : Fp} (hi : i * i = -1) : -i ≠ -1 := fun h => i_ne1 hi (by grind)
theorem w_m {U i : Fp} : - U * i = U * (-i) := by grind
theorem w_m1 {U : Fp} : - U = U * (-1) := by grind
theorem w_m2 {U : Fp} : U = U * 1 := by grind
/-- the four ways -/
theorem sq_ways (u v : Nat) (hu : u < pF) (hv : v < pF) (u0 : u ≠ 0) (v0 : v ≠ 0) :
    (sqW u v = true ∧ (sqz (fp u) (fp v) ^ (2 * eQ + 1)) ^ 2 = 1 ∧ fp (sqR u v) * fp (sqR u v) * fp v = fp u) ∨
    (sqW u v = false ∧ (sqz (fp u) (fp v) ^ (2 * eQ + 1)) ^ 2 = -1 ∧ fp (sqR u v) * fp (sqR u v) * fp v = fp iN * fp u) := by
  have hU : fp u ≠ 0 := fun h => u0 ((fp_zero_iff hu).2 h)
  have hV : fp v ≠ 0 := fun h => v0 ((fp_zero_iff hv).2 h)
  have hi := fi_sq
  have hz := z_ne hU hV
  have h4 : (sqz (fp u) (fp v) ^ (2 * eQ + 1)) ^ 4 = 1 := by
    unfold sqz; exact chi_four _ hz
  have hC := fp_sqC u v
  have hC' : fp (sqC u v) = fp v * (fp (sqRR u v) * fp (sqRR u v)) := by
    unfold sqC
    simp only [fp_mod, fp_mul]
  have k1 := sq_c1 u v hu
  have k2 := sq_c2 u v hu
  have k3 := sq_c3 u v hu
  have hsq := sqR_sq u v
  have n1 := fp_neg_ne 1 fp_one_ne
  have n2 := fp_neg_ne (fp u) hU
  generalize sqz (fp u) (fp v) ^ (2 * eQ + 1) = c at *
  have hi1 := i_ne1 hi
  have hi2 := i_ne2 hi
  have hi0 := i_ne0 hi
  have hn1 := ni_ne1 hi
  have hn2 := ni_ne2 hi
  generalize fp iN = I at *
  generalize fp u = U at *
  generalize fp v = V at *
  generalize fp (sqR u v) * fp (sqR u v) = R2 at *
  generalize fp (sqRR u v) * fp (sqRR u v) = r2 at *
  generalize fp (sqC u v) = CC at *
  unfold sqW
  unfold sqB at hsq
  clear hz hV u0 v0 hv hu
  rcases four_roots hi h4 with h | h | h | h
  · left
    have e1 : sqC u v = u := k1.2 (w_u1 h)
    have e2 : ¬ sqC u v = (pF - u) % pF := fun e => w_n hU (h ▸ n1) ((k2.1 e).trans w_m1)
    have e3 : ¬ sqC u v = (pF - u) % pF * iN % pF := fun e => w_n hU (h ▸ hn1.symm) ((k3.1 e).trans w_m)
    rw [decide_eq_false e2, decide_eq_false e3] at hsq
    rw [decide_eq_true e1]
    exact ⟨rfl, w_sq1 h, w_fin1 hsq hC' hC h⟩
  · left
    have e2 : sqC u v = (pF - u) % pF := k2.2 (w_u2 h)
    rw [decide_eq_true e2, Bool.true_or] at hsq
    rw [decide_eq_true e2, Bool.or_true]
    exact ⟨rfl, w_sq2 h, w_fin2 hsq hC' hC h⟩
  · right
    have e1 : ¬ sqC u v = u := fun e => w_n hU (h ▸ hi1) ((k1.1 e).trans w_m2)
    have e2 : ¬ sqC u v = (pF - u) % pF := fun e => w_n hU (h ▸ hi2) ((k2.1 e).trans w_m1)
    have e3 : ¬ sqC u v = (pF - u) % pF * iN % pF := fun e => w_n hU (h ▸ fp_neg_ne I hi0) ((k3.1 e).trans w_m)
    rw [decide_eq_false e2, decide_eq_false e3] at hsq
    rw [decide_eq_false e1, decide_eq_false e2]
    exact ⟨rfl, w_sq3 hi h, w_fin3 hsq hC' hC h⟩
  · right
    have e1 : ¬ sqC u v = u := fun e => w_n hU (h ▸ hn1) ((k1.1 e).trans w_m2)
    have e2 : ¬ sqC u v = (pF - u) % pF := fun e => w_n hU (h ▸ hn2) ((k2.1 e).trans w_m1)
    have e3 : sqC u v = (pF - u) % pF * iN % pF := k3.2 (w_u3 h)
    rw [decide_eq_true e3, Bool.or_true] at hsq
    rw [decide_eq_false e1, decide_eq_false e2]
    exact ⟨rfl, w_sq4 hi h, w_fin4 hsq hC' hC h⟩
/-- of u / v and 2 u / v just one is a square -/
theorem sq_two (u v : Nat) (hu : u < pF) (hv : v < pF) (u0 : u ≠ 0) (v0 : v ≠ 0) : sqW ((u + u) % pF) v = !sqW u v := by
  have hU : fp u ≠ 0 := fun h => u0 ((fp_zero_iff hu).2 h)
  have e2 : fp ((u + u) % pF) = 2 * fp u := by rw [fp_mod, fp_add]; grind
  have w0 : (u + u) % pF ≠ 0 := by
    intro h
    have : fp ((u + u) % pF) = 0 := by rw [h]; rfl
    rw [e2] at this
    rcases fp_nodiv this with h | h
    · exact fp_two_ne h
    · exact hU h
  have h1 := sq_ways u v hu hv u0 v0
  have h2 := sq_ways ((u + u) % pF) v (Nat.mod_lt _ pF_pos) hv w0 v0
  have ez : sqz (fp ((u + u) % pF)) (fp v) = 2 * sqz (fp u) (fp v) := by unfold sqz; rw [e2]; grind
  have n1 := fp_neg_ne 1 fp_one_ne
  have ht : ((2 : Fp) ^ (2 * eQ + 1)) ^ 2 = -1 := by rw [← fpow_mul, Nat.mul_comm]; exact two_non
  rw [ez, fmul_pow] at h2
  generalize sqz (fp u) (fp v) ^ (2 * eQ + 1) = c at *
  generalize (2 : Fp) ^ (2 * eQ + 1) = t at *
  rcases h1 with ⟨a1, a2, _⟩ | ⟨a1, a2, _⟩ <;> rcases h2 with ⟨b1, b2, _⟩ | ⟨b1, b2, _⟩
  · exfalso; exact n1 (by grind)
  · rw [a1, b1]; rfl
  · rw [a1, b1]; rfl
  · exfalso; exact n1 (by grind)
end
section
theorem mlt (x : Nat) : x % pF < pF := Nat.mod_lt _ pF_pos
theorem fne_mul' {a b : Fp} (ha : a ≠ 0) (hb : b ≠ 0) : a * b ≠ 0 := fun h => (fp_nodiv h).elim ha hb
theorem xp_fp (x E : Nat) : fp (x ^ E % pF) = fp x ^ E := by rw [fp_mod, fp_pow]
/-- the reference's root: whether there is one, and which -/
def rtA (q : Nat) : Nat := q ^ (eQ + 1) % pF
def rtJ : Nat := 19681161376707505956807079304988542015446066515923890162744021073123829784752
theorem rtJ_lt : rtJ < pF := by unfold rtJ pF; omega
theorem rtJ_sq' : rtJ * rtJ % pF = pF - 1 := by decide +kernel
def rtB (q : Nat) : Nat := rtA q * rtJ % pF
def rtIs (q : Nat) : Bool := rtA q * rtA q % pF = q || rtB q * rtB q % pF = q
def rtR (q : Nat) : Nat := if rtA q * rtA q % pF = q then absN (rtA q) else if rtB q * rtB q % pF = q then absN (rtB q) else 0
theorem rtA_lt (q : Nat) : rtA q < pF := Nat.mod_lt _ pF_pos
theorem rtB_lt (q : Nat) : rtB q < pF := Nat.mod_lt _ pF_pos
theorem rtJ_sq : fp rtJ * fp rtJ = -1 := by
  rw [← fp_mul, ← fp_mod, rtJ_sq']
  have h := fp_neg 1 (by unfold pF; omega)
  rw [h, fp_one]
theorem half_pow (z : Fp) : z ^ (eQ + 1) * z ^ (eQ + 1) = z * z ^ (2 * eQ + 1) := by
  rw [fpow_succ, fpow_succ, Nat.mul_comm 2, fpow_mul]
  generalize z ^ eQ = s
  grind
theorem rtA_sq (q : Nat) : fp (rtA q) * fp (rtA q) = fp q * fp q ^ (2 * eQ + 1) := by
  unfold rtA
  rw [fp_mod, fp_pow]
  exact half_pow (fp q)
theorem rtB_sq (q : Nat) : fp (rtB q) * fp (rtB q) = - (fp q * fp q ^ (2 * eQ + 1)) := by
  have h : fp (rtB q) = fp (rtA q) * fp rtJ := by unfold rtB; rw [fp_mod, fp_mul]
  have h1 := rtA_sq q
  have h2 := rtJ_sq
  rw [h]
  generalize fp rtJ = J at *
  generalize fp (rtA q) = A at *
  generalize fp q ^ (2 * eQ + 1) = z at *
  generalize fp q = Q at *
  clear h
  grind
theorem rt_c1 (q : Nat) (hq : q < pF) : (rtA q * rtA q % pF = q) ↔ fp q * fp q ^ (2 * eQ + 1) = fp q := by
  refine Iff.trans (fp_eq_iff (mlt _) hq) ?_
  rw [fp_mod, fp_mul, rtA_sq]
theorem rt_c2 (q : Nat) (hq : q < pF) : (rtB q * rtB q % pF = q) ↔ - (fp q * fp q ^ (2 * eQ + 1)) = fp q := by
  refine Iff.trans (fp_eq_iff (mlt _) hq) ?_
  rw [fp_mod, fp_mul, rtB_sq]
theorem rtR_lt (q : Nat) : rtR q < pF := by
  unfold rtR; split
  · exact absN_lt _ (rtA_lt q)
  · split
    · exact absN_lt _ (rtB_lt q)
    · exact pF_pos
theorem rtR_even (q : Nat) : rtR q % 2 = 0 := by
  unfold rtR; split
  · exact absN_even _ (rtA_lt q)
  · split
    · exact absN_even _ (rtB_lt q)
    · rfl
theorem rtR_sq (q : Nat) (h : rtIs q = true) : fp (rtR q) * fp (rtR q) = fp q := by
  unfold rtR
  unfold rtIs at h
  by_cases h1 : rtA q * rtA q % pF = q
  · rw [if_pos h1, absN_sq _ (rtA_lt q), ← fp_mul, ← fp_mod, h1]
  · rw [if_neg h1]
    by_cases h2 : rtB q * rtB q % pF = q
    · rw [if_pos h2, absN_sq _ (rtB_lt q), ← fp_mul, ← fp_mod, h2]
    · rw [decide_eq_false h1, decide_eq_false h2] at h
      cases h
/-- a square has a root -/
theorem rtIs_of (q : Nat) (hq : q < pF) (s : Fp) (h : s * s = fp q) : rtIs q = true := by
  unfold rtIs
  by_cases q0 : q = 0
  · subst q0
    have : rtA 0 * rtA 0 % pF = 0 := by
      refine (rt_c1 0 pF_pos).2 ?_
      rw [fp_zero, Fin.zero_mul]
    rw [decide_eq_true this, Bool.true_or]
  · have hs : s ≠ 0 := by
      intro h0
      rw [h0] at h
      have : fp q = 0 := by rw [← h, Fin.zero_mul]
      exact q0 ((fp_zero_iff hq).2 this)
    have hc : (fp q ^ (2 * eQ + 1)) ^ 2 = 1 := by
      rw [← h, show s * s = s ^ 2 by grind, ← fpow_mul, ← fpow_mul, show 2 * ((2 * eQ + 1) * 2) = pF - 1 by have := eQ_p; omega]
      exact fp_fermat s hs
    have k1 := rt_c1 q hq
    have k2 := rt_c2 q hq
    generalize fp q ^ (2 * eQ + 1) = c at *
    rcases sq_eq (a := c) (b := 1) (by grind) with h1 | h1
    · rw [decide_eq_true (k1.2 (by rw [h1]; grind)), Bool.true_or]
    · rw [decide_eq_true (k2.2 (by rw [h1]; grind)), Bool.or_true]
/-- the root of u / v where it is a square -/
theorem sqR_u0 (v : Nat) : sqR 0 v = 0 := by
  have h : sqRR 0 v = 0 := by unfold sqRR; rw [Nat.zero_mul, Nat.zero_mod, Nat.zero_mul, Nat.zero_mod]
  unfold sqR
  rw [h, Nat.zero_mul, Nat.zero_mod]
  split <;> exact absN_zero
theorem sqW_sq (u v : Nat) (hu : u < pF) (hv : v < pF) (v0 : v ≠ 0) (h : sqW u v = true) : fp (sqR u v) * fp (sqR u v) * fp v = fp u := by
  by_cases u0 : u = 0
  · subst u0
    rw [sqR_u0, fp_zero, Fin.zero_mul, Fin.zero_mul]
  · rcases sq_ways u v hu hv u0 v0 with ⟨_, _, h3⟩ | ⟨h1, _, _⟩
    · exact h3
    · rw [h] at h1; cases h1
theorem sqW_of (u v : Nat) (hu : u < pF) (hv : v < pF) (v0 : v ≠ 0) (s : Fp) (h : s * s * fp v = fp u) : sqW u v = true := by
  by_cases u0 : u = 0
  · subst u0; exact sqW_u0 v
  · rcases sq_ways u v hu hv u0 v0 with ⟨h1, _, _⟩ | ⟨_, h2, _⟩
    · exact h1
    · exfalso
      have hU : fp u ≠ 0 := fun h => u0 ((fp_zero_iff hu).2 h)
      have hV : fp v ≠ 0 := fun h => v0 ((fp_zero_iff hv).2 h)
      have hs : s ≠ 0 := by intro h0; rw [h0] at h; exact hU (by rw [← h, Fin.zero_mul, Fin.zero_mul])
      have ez : sqz (fp u) (fp v) = (s * (fp v * fp v * (fp v * fp v))) ^ 2 := by unfold sqz; rw [← h]; grind
      have hn := fne_mul' hs (fne_mul' (fne_mul' hV hV) (fne_mul' hV hV))
      rw [ez, ← fpow_mul, ← fpow_mul, show 2 * ((2 * eQ + 1) * 2) = pF - 1 by have := eQ_p; omega, fp_fermat _ hn] at h2
      exact fp_neg_ne 1 fp_one_ne h2
/-- both roads to the root agree -/
theorem root_same (u v q : Nat) (hu : u < pF) (hv : v < pF) (hq : q < pF) (v0 : v ≠ 0) (h : fp q * fp v = fp u) : rtIs q = sqW u v ∧ (sqW u v = true → rtR q = sqR u v) := by
  have hV : fp v ≠ 0 := fun h => v0 ((fp_zero_iff hv).2 h)
  have k : rtIs q = true ↔ sqW u v = true := by
    constructor
    · intro h1
      exact sqW_of u v hu hv v0 (fp (rtR q)) (by rw [rtR_sq q h1, h])
    · intro h1
      refine rtIs_of q hq (fp (sqR u v)) ?_
      have := sqW_sq u v hu hv v0 h1
      refine fp_cancel hV ?_
      grind
  refine ⟨by cases h1 : rtIs q <;> cases h2 : sqW u v <;> simp_all, fun h1 => ?_⟩
  have h2 := k.2 h1
  refine even_root (rtR_lt q) (sqR_lt u v) (rtR_even q) (sqR_even u v) ?_
  rw [rtR_sq q h2]
  have := sqW_sq u v hu hv v0 h1
  refine fp_cancel hV ?_
  grind
end
section
open Go.RowKit

/-- x to the power of E, modulo p -/
def xp (x E : Nat) : Nat := x ^ E % pF
theorem xp_lt (x E : Nat) : xp x E < pF := Nat.mod_lt _ pF_pos
theorem xp_mul (x A B : Nat) : xp x A * xp x B % pF = xp x (A + B) := by
  unfold xp; rw [← Nat.mul_mod, ← Nat.pow_add]
theorem xp_to (x A B C : Nat) (h : A + B = C) : xp x C = xp x A * xp x B % pF := by rw [xp_mul, h]
theorem xp_two (x k : Nat) : xp x (2 ^ k) * xp x (2 ^ k) % pF = xp x (2 ^ (k + 1)) := by
  rw [xp_mul, Nat.pow_succ, Nat.mul_two]
theorem xp_one (x : Nat) (h : x < pF) : xp x 1 = x := by unfold xp; rw [Nat.pow_one, Nat.mod_eq_of_lt h]
theorem xp_xp (x A B : Nat) : xp (xp x A) B = xp x (A * B) := by
  unfold xp; rw [← Nat.pow_mod, Nat.pow_mul]
theorem xp_of (x A B C : Nat) (h : A * B = C) : xp x C = xp (xp x A) B := by rw [xp_xp, h]
end
section
/-- a step: its kind, the receiver, two arguments, a number of 32 bits -/
structure FOp where
  kind : Int
  z : Int
  x : Int
  y : Int
  n : Nat
instance : Inhabited FOp := ⟨⟨0, 0, 0, 0, 0⟩⟩
/-- is it a kind, does it use x, does it use y -/
def usesN (k : Int) : Bool × Bool × Bool :=
  if k = 0 ∨ k = 1 ∨ k = 2 ∨ k = 9 ∨ k = 10 then (true, true, true)
  else if k = 3 ∨ k = 4 ∨ k = 5 ∨ k = 6 ∨ k = 7 ∨ k = 8 ∨ k = 11 ∨ k = 12 ∨ k = 15 then (true, true, false)
  else if k = 13 ∨ k = 14 then (true, false, false) else (false, false, false)
def regN (i : Int) (len : Nat) : Bool := decide (0 ≤ i) && decide (i < (len : Int))
/-- the step is one that is made -/
def madeN (o : FOp) (len : Nat) : Bool := (usesN o.kind).1 && regN o.z len && (!(usesN o.kind).2.1 || regN o.x len) && (!(usesN o.kind).2.2 || regN o.y len)
/-- what a step (of another kind than 11) makes of x and y -/
def valueN (o : FOp) (x y : Nat) : Nat :=
  if o.kind = 0 then (x + y) % pF else if o.kind = 1 then (x + (pF - y)) % pF else if o.kind = 2 then x * y % pF else if o.kind = 3 then x * x % pF
  else if o.kind = 4 then (pF - x) % pF else if o.kind = 5 then x * o.n % pF else if o.kind = 6 then xp x 57896044618658097711785492504343953926634992332820282019728792003956564819947
  else if o.kind = 7 then absN x else if o.kind = 8 then xp x 7237005577332262213973186563042994240829374041602535252466099000494570602493 else if o.kind = 9 then sqR x y else if o.kind = 10 then (if o.n % 2 = 1 then x else y)
  else if o.kind = 12 then x else if o.kind = 13 then 0 else if o.kind = 14 then 1 else xp x (2 ^ (o.n % 10 + 1))
theorem ite_lt {c : Prop} [Decidable c] {a b m : Nat} (h1 : a < m) (h2 : b < m) : (if c then a else b) < m := by split <;> assumption
theorem valueN_lt (o : FOp) (x y : Nat) (hx : x < pF) (hy : y < pF) : valueN o x y < pF := by
  have hp := pF_pos
  have h1 : 1 < pF := by unfold pF; omega
  have hm : ∀ a, a % pF < pF := fun a => Nat.mod_lt _ hp
  unfold valueN
  refine ite_lt (hm _) (ite_lt (hm _) (ite_lt (hm _) (ite_lt (hm _) (ite_lt (hm _) (ite_lt (hm _) (ite_lt (xp_lt _ _) (ite_lt (absN_lt _ hx) (ite_lt (xp_lt _ _) (ite_lt (sqR_lt _ _) (ite_lt (ite_lt hx hy) (ite_lt hx (ite_lt hp (ite_lt h1 (xp_lt _ _))))))))))))))
def getN (r : List Nat) (i : Int) : Nat := r.getD i.toNat 0
def stepN (o : FOp) (r : List Nat) : List Nat :=
  if madeN o r.length then
    if o.kind = 11 then (if o.n % 2 = 1 then (r.set o.x.toNat (getN r o.z)).set o.z.toNat (getN r o.x) else r)
    else r.set o.z.toNat (valueN o (getN r o.x) (getN r o.y))
  else r
theorem stepN_length (o : FOp) (r : List Nat) : (stepN o r).length = r.length := by
  unfold stepN
  split
  · split
    · split
      · simp
      · rfl
    · simp
  · rfl
theorem stepN_no {o : FOp} {r : List Nat} (h : madeN o r.length = false) : stepN o r = r := by unfold stepN; rw [h]; rfl
theorem getN_lt {r : List Nat} (h : ∀ x ∈ r, x < pF) (i : Int) : getN r i < pF := by
  unfold getN
  by_cases hi : i.toNat < r.length
  · simp only [List.getD, List.getElem?_eq_getElem hi, Option.getD_some]
    exact h _ (List.getElem_mem hi)
  · simp only [List.getD, List.getElem?_eq_none (Nat.le_of_not_lt hi), Option.getD_none]
    exact pF_pos
theorem set_all {r : List Nat} {p : Nat → Prop} (h : ∀ x ∈ r, p x) (i v : Nat) (hv : p v) : ∀ x ∈ r.set i v, p x := by
  intro x hx
  rcases List.mem_or_eq_of_mem_set hx with h1 | rfl
  · exact h x h1
  · exact hv
theorem stepN_lt (o : FOp) {r : List Nat} (h : ∀ x ∈ r, x < pF) : ∀ x ∈ stepN o r, x < pF := by
  unfold stepN
  split
  · split
    · split
      · exact set_all (set_all h _ _ (getN_lt h _)) _ _ (getN_lt h _)
      · exact h
    · exact set_all h _ _ (valueN_lt o _ _ (getN_lt h _) (getN_lt h _))
  · exact h
/-- the script -/
def runN (r : List Nat) (os : List FOp) : List Nat := os.foldl (fun r o => stepN o r) r
theorem runN_zero (r : List Nat) (os : List FOp) : runN r (os.take 0) = r := rfl
theorem runN_succ (r : List Nat) (os : List FOp) (k : Nat) (h : k < os.length) : runN r (os.take (k + 1)) = stepN (os.getD k default) (runN r (os.take k)) := by
  unfold runN
  rw [List.take_succ_eq_append_getElem h, List.foldl_append]
  simp [List.getD, List.getElem?_eq_getElem h]
theorem runN_all (r : List Nat) (os : List FOp) : runN r (os.take os.length) = runN r os := by rw [List.take_length]
theorem runN_length (os : List FOp) : ∀ r : List Nat, (runN r os).length = r.length := by
  induction os with
  | nil => intro r; rfl
  | cons o os ih => intro r; exact (ih _).trans (stepN_length o r)
theorem runN_lt (os : List FOp) : ∀ {r : List Nat}, (∀ x ∈ r, x < pF) → ∀ x ∈ runN r os, x < pF := by
  induction os with
  | nil => intro r h; exact h
  | cons o os ih => intro r h; exact ih (stepN_lt o h)
theorem regN_true {i : Int} {len : Nat} (h : regN i len = true) : ∃ k : Nat, i = (k : Int) ∧ k < len := by
  unfold regN at h
  simp only [Bool.and_eq_true, decide_eq_true_eq] at h
  exact ⟨i.toNat, by omega, by omega⟩
theorem regN_nat {k len : Nat} (h : k < len) : regN (k : Int) len = true := by
  unfold regN
  simp only [Bool.and_eq_true, decide_eq_true_eq]
  omega
end
section
open Go.RowKit

theorem run_Add64 (x y c : Nat) (hc : c ≤ 1) (w : World) :
    (callFunc 75 #[.int .u64 (x : Int), .int .u64 (y : Int), .int .u64 (c : Int)]).run Tryd.prog w =
      .ok (.value (.tuple #[.int .u64 (((x + y + c) % 18446744073709551616 : Nat) : Int), .int .u64 (((x + y + c) / 18446744073709551616 : Nat) : Int)])) w := by
  rw [run_callFunc_extern Tryd.func75 (by kernel_rfl) (by kernel_rfl) (by kernel_rfl) (e := add64Entry) (by kernel_rfl), run_add64 x y c (by omega) (by omega) (by omega) (by omega)]
  simp only [Result.andThen]
  congr 5 <;> omega

def sub64Entry : Array Value → Sem Value := fun args => do
  let (x, y, b) ← Extern.MathBitsCarry.three "Sub64" args
  pure (Extern.MathBitsCarry.pair ((x + Extern.MathBitsCarry.m64 - y - b) % Extern.MathBitsCarry.m64) (if x < y + b then 1 else 0))

theorem run_sub64 {P : Program} (x y b : Nat) (hb : b ≤ 1) (w : World) :
    (sub64Entry #[.int .u64 (x : Int), .int .u64 (y : Int), .int .u64 (b : Int)]).run P w =
      .ok (.tuple #[.int .u64 (((x + 18446744073709551616 - y - b) % 18446744073709551616 : Nat) : Int), .int .u64 ((if x < y + b then 1 else 0 : Nat) : Int)]) w := by
  have : b = 0 ∨ b = 1 := by omega
  rcases this with rfl | rfl <;> rfl

theorem run_Sub64 (x y b : Nat) (hb : b ≤ 1) (w : World) :
    (callFunc 76 #[.int .u64 (x : Int), .int .u64 (y : Int), .int .u64 (b : Int)]).run Tryd.prog w =
      .ok (.value (.tuple #[.int .u64 (((x + 18446744073709551616 - y - b) % 18446744073709551616 : Nat) : Int), .int .u64 ((if x < y + b then 1 else 0 : Nat) : Int)])) w := by
  rw [run_callFunc_extern Tryd.func76 (by kernel_rfl) (by kernel_rfl) (by kernel_rfl) (e := sub64Entry) (by kernel_rfl), run_sub64 x y b hb]
  rfl
end
section
open Go.RowKit

theorem mask32 (a : Nat) (ha : a < 18446744073709551616) : bits .and .u64 (a : Int) 4294967295 = ((a % 4294967296 : Nat) : Int) := by
  have h := bits_and_u64_nat a 4294967295 ha (by omega)
  have e : a &&& 4294967295 = a % 4294967296 := Nat.and_two_pow_sub_one_eq_mod a 32
  rw [e] at h
  exact h

theorem mulb (a b A B : Nat) (ha : a ≤ A) (hb : b ≤ B) : (a : Int) * (b : Int) ≤ (A * B : Nat) ∧ 0 ≤ (a : Int) * (b : Int) := by
  have := Nat.mul_le_mul ha hb
  have h2 : (a : Int) * (b : Int) = ((a * b : Nat) : Int) := by simp
  rw [h2]; omega

set_option maxHeartbeats 1000000 in
theorem Mul64_raw (x y x0 x1 y0 y1 t w1 : Nat) (h0 : x0 ≤ 4294967295) (h1 : x1 ≤ 4294967295) (k0 : y0 ≤ 4294967295) (k1 : y1 ≤ 4294967295)
    (ex0 : bits .and .u64 (x : Int) 4294967295 = (x0 : Int)) (ex1 : (x : Int) / 4294967296 = (x1 : Int)) (ey0 : bits .and .u64 (y : Int) 4294967295 = (y0 : Int)) (ey1 : (y : Int) / 4294967296 = (y1 : Int))
    (p00 : (x0 : Int) * y0 ≤ 18446744065119617025) (p01 : (x0 : Int) * y1 ≤ 18446744065119617025) (p10 : (x1 : Int) * y0 ≤ 18446744065119617025) (p11 : (x1 : Int) * y1 ≤ 18446744065119617025)
    (q00 : 0 ≤ (x0 : Int) * y0) (q01 : 0 ≤ (x0 : Int) * y1) (q10 : 0 ≤ (x1 : Int) * y0) (q11 : 0 ≤ (x1 : Int) * y1)
    (et : (x1 : Int) * y0 + (x0 : Int) * y0 / 4294967296 = (t : Int)) (bt : t ≤ 18446744069414584319) (w0 : Nat) (bw0 : w0 ≤ 4294967295) (ew0 : bits .and .u64 (t : Int) 4294967295 = (w0 : Int)) (w : World) :
    Calls Tryd.prog 71 #[.int .u64 (x : Int), .int .u64 (y : Int)] w fun e w' => e = .returned (.tuple #[.int .u64 ((x1 : Int) * y1 + (t : Int) / 4294967296 + ((w0 : Int) + (x0 : Int) * y1) / 4294967296), .int .u64 (IntKind.u64.wrap ((x : Int) * y))]) ∧ w' = w := by
  have g1 : (t : Int) / 4294967296 ≤ 4294967295 := by omega
  have g2 : ((w0 : Int) + (x0 : Int) * y1) / 4294967296 ≤ 4294967295 := by omega
  go_enter Tryd.func71, Tryd.ntmps71
  go_wp2
  go_ret2
  exact ⟨rfl, rfl⟩
theorem Mul64_any (x y : Nat) (hx : x < 18446744073709551616) (hy : y < 18446744073709551616) (w : World) :
    Calls Tryd.prog 71 #[.int .u64 (x : Int), .int .u64 (y : Int)] w fun e w' => e = .returned (.tuple #[.int .u64 ((x * y / 18446744073709551616 : Nat) : Int), .int .u64 ((x * y % 18446744073709551616 : Nat) : Int)]) ∧ w = w' := by
  obtain ⟨x0, hx0⟩ : ∃ u, u = x % 4294967296 := ⟨_, rfl⟩
  obtain ⟨x1, hx1⟩ : ∃ u, u = x / 4294967296 := ⟨_, rfl⟩
  obtain ⟨y0, hy0⟩ : ∃ u, u = y % 4294967296 := ⟨_, rfl⟩
  obtain ⟨y1, hy1⟩ : ∃ u, u = y / 4294967296 := ⟨_, rfl⟩
  have b0 : x0 ≤ 4294967295 := by omega
  have b1 : x1 ≤ 4294967295 := by omega
  have c0 : y0 ≤ 4294967295 := by omega
  have c1 : y1 ≤ 4294967295 := by omega
  have m00 := mulb x0 y0 _ _ b0 c0
  have m01 := mulb x0 y1 _ _ b0 c1
  have m10 := mulb x1 y0 _ _ b1 c0
  have m11 := mulb x1 y1 _ _ b1 c1
  have hxy : (x : Int) * (y : Int) = (x0 : Int) * y0 + 4294967296 * ((x1 : Int) * y0) + 4294967296 * ((x0 : Int) * y1) + 18446744073709551616 * ((x1 : Int) * y1) := by
    have e1 : (x : Int) = x0 + 4294967296 * x1 := by omega
    have e2 : (y : Int) = y0 + 4294967296 * y1 := by omega
    rw [e1, e2]; grind
  have hn : ((x * y : Nat) : Int) = (x : Int) * (y : Int) := by simp
  obtain ⟨t, ht⟩ : ∃ t : Nat, (x1 : Int) * y0 + (x0 : Int) * y0 / 4294967296 = (t : Int) := ⟨((x1 : Int) * y0 + (x0 : Int) * y0 / 4294967296).toNat, by omega⟩
  have bt : t ≤ 18446744069414584319 := by omega
  have hX := mask32 x hx
  have hY := mask32 y hy
  have hT := mask32 t (by omega)
  rw [← hx0] at hX
  rw [← hy0] at hY
  obtain ⟨w0, hw0⟩ : ∃ u, u = t % 4294967296 := ⟨_, rfl⟩
  rw [← hw0] at hT
  refine (Mul64_raw x y x0 x1 y0 y1 t 0 b0 b1 c0 c1 hX (by omega) hY (by omega) (by omega) (by omega) (by omega) (by omega) (by omega) (by omega) (by omega) (by omega) ht bt w0 (by omega) hT w).mono ?_
  rintro e w' ⟨rfl, rfl⟩
  refine ⟨?_, rfl⟩
  rw [IntKind.wrap_u64]
  have e1 : (x1 : Int) * y1 + (t : Int) / 4294967296 + ((w0 : Int) + (x0 : Int) * y1) / 4294967296 = ((x * y / 18446744073709551616 : Nat) : Int) := by
    rw [Int.natCast_ediv, hn, hxy]
    generalize (x0 : Int) * y0 = P00 at *
    generalize (x1 : Int) * y0 = P10 at *
    generalize (x0 : Int) * y1 = P01 at *
    generalize (x1 : Int) * y1 = P11 at *
    omega
  have e2 : (x : Int) * (y : Int) % 18446744073709551616 = ((x * y % 18446744073709551616 : Nat) : Int) := by
    rw [Int.natCast_emod, hn]; rfl
  rw [e1, e2]
end
section
open Go.RowKit

theorem sq_id (a0 a1 a2 a3 a4 : Nat) : (a0 * a0 + 38 * (a1 * a4) + 38 * (a2 * a3)) + 2251799813685248 * ((a0 * 2) * a1 + 38 * (a2 * a4) + 19 * (a3 * a3)) + 5070602400912917605986812821504 * ((a0 * 2) * a2 + a1 * a1 + 38 * (a3 * a4)) + 11417981541647679048466287755595961091061972992 * ((a0 * 2) * a3 + (a1 * 2) * a2 + 19 * (a4 * a4)) + 25711008708143844408671393477458601640355247900524685364822016 * ((a0 * 2) * a4 + (a1 * 2) * a3 + a2 * a2) + 57896044618658097711785492504343953926634992332820282019728792003956564819949 * ((a1 * a4+a2 * a3+a3 * a2+a4 * a1) + 2251799813685248 * (a2 * a4+a3 * a3+a4 * a2) + 5070602400912917605986812821504 * (a3 * a4+a4 * a3) + 11417981541647679048466287755595961091061972992 * (a4 * a4)) = ((a0) + 2251799813685248 * (a1) + 5070602400912917605986812821504 * (a2) + 11417981541647679048466287755595961091061972992 * (a3) + 25711008708143844408671393477458601640355247900524685364822016 * (a4)) * ((a0) + 2251799813685248 * (a1) + 5070602400912917605986812821504 * (a2) + 11417981541647679048466287755595961091061972992 * (a3) + 25711008708143844408671393477458601640355247900524685364822016 * (a4)) := by
  grind
theorem sq_val (a0 a1 a2 a3 a4 : Nat) : val5 ⟨a0 * a0 + 38 * (a1 * a4) + 38 * (a2 * a3), (a0 * 2) * a1 + 38 * (a2 * a4) + 19 * (a3 * a3), (a0 * 2) * a2 + a1 * a1 + 38 * (a3 * a4), (a0 * 2) * a3 + (a1 * 2) * a2 + 19 * (a4 * a4), (a0 * 2) * a4 + (a1 * 2) * a3 + a2 * a2⟩ % pF = val5 ⟨a0, a1, a2, a3, a4⟩ * val5 ⟨a0, a1, a2, a3, a4⟩ % pF := by
  have h := sq_id a0 a1 a2 a3 a4
  unfold val5
  simp only
  rw [← h]
  unfold pF
  rw [Nat.add_mul_mod_self_left]

theorem sq_cp_bd (V0 V1 V2 V3 V4 : Nat) (h0 : V0 ≤ 390531712071274790018052217897037) (h1 : V1 ≤ 390531712071274790018052217897037) (h2 : V2 ≤ 390531712071274790018052217897037) (h3 : V3 ≤ 390531712071274790018052217897037) (h4 : V4 ≤ 390531712071274790018052217897037) : Bd (cpL (cpL ⟨V0, V1, V2, V3, V4⟩)) := by
  refine cpL_bd _ ?_
  unfold W64 cpL
  simp only
  omega
theorem sq_bd (a0 a1 a2 a3 a4 : Nat) (ba0 : a0 ≤ 2252074691592191) (ba1 : a1 ≤ 2252074691592191) (ba2 : a2 ≤ 2252074691592191) (ba3 : a3 ≤ 2252074691592191) (ba4 : a4 ≤ 2252074691592191) : Bd (cpL (cpL ⟨a0 * a0 + 38 * (a1 * a4) + 38 * (a2 * a3), (a0 * 2) * a1 + 38 * (a2 * a4) + 19 * (a3 * a3), (a0 * 2) * a2 + a1 * a1 + 38 * (a3 * a4), (a0 * 2) * a3 + (a1 * 2) * a2 + 19 * (a4 * a4), (a0 * 2) * a4 + (a1 * 2) * a3 + a2 * a2⟩)) := by
  have p00 := Nat.mul_le_mul ba0 ba0
  have p01 := Nat.mul_le_mul ba0 ba1
  have p02 := Nat.mul_le_mul ba0 ba2
  have p03 := Nat.mul_le_mul ba0 ba3
  have p04 := Nat.mul_le_mul ba0 ba4
  have p11 := Nat.mul_le_mul ba1 ba1
  have p12 := Nat.mul_le_mul ba1 ba2
  have p13 := Nat.mul_le_mul ba1 ba3
  have p14 := Nat.mul_le_mul ba1 ba4
  have p22 := Nat.mul_le_mul ba2 ba2
  have p23 := Nat.mul_le_mul ba2 ba3
  have p24 := Nat.mul_le_mul ba2 ba4
  have p33 := Nat.mul_le_mul ba3 ba3
  have p34 := Nat.mul_le_mul ba3 ba4
  have p44 := Nat.mul_le_mul ba4 ba4
  have e01 : a0 * 2 * a1 = 2 * (a0 * a1) := by grind
  have e02 : a0 * 2 * a2 = 2 * (a0 * a2) := by grind
  have e03 : a0 * 2 * a3 = 2 * (a0 * a3) := by grind
  have e04 : a0 * 2 * a4 = 2 * (a0 * a4) := by grind
  have e12 : a1 * 2 * a2 = 2 * (a1 * a2) := by grind
  have e13 : a1 * 2 * a3 = 2 * (a1 * a3) := by grind
  have e14 : a1 * 2 * a4 = 2 * (a1 * a4) := by grind
  simp only [e01, e02, e03, e04, e12, e13]
  generalize a0 * a0 = q00 at *
  generalize a0 * a1 = q01 at *
  generalize a0 * a2 = q02 at *
  generalize a0 * a3 = q03 at *
  generalize a0 * a4 = q04 at *
  generalize a1 * a1 = q11 at *
  generalize a1 * a2 = q12 at *
  generalize a1 * a3 = q13 at *
  generalize a1 * a4 = q14 at *
  generalize a2 * a2 = q22 at *
  generalize a2 * a3 = q23 at *
  generalize a2 * a4 = q24 at *
  generalize a3 * a3 = q33 at *
  generalize a3 * a4 = q34 at *
  generalize a4 * a4 = q44 at *
  refine sq_cp_bd _ _ _ _ _ ?_ ?_ ?_ ?_ ?_ <;> omega
end
section
/-- d of the curve -/
def dN : Nat := 37095705934669439343138083508754565189542113879843219016388785533085940283555
theorem dN_lt : dN < pF := by unfold dN pF; omega
theorem d_non : (fp dN) ^ (2 * (2 * eQ + 1)) = -1 := by
  have h : dN ^ (2 * (2 * eQ + 1)) % pF = pF - 1 := Pm.pw_pow (f := 256) (by decide +kernel) (by decide +kernel)
  rw [← fp_pow, ← fp_mod, h]
  have h := fp_neg 1 (by unfold pF; omega)
  rw [h, fp_one]
theorem fne_mul {a b : Fp} (ha : a ≠ 0) (hb : b ≠ 0) : a * b ≠ 0 := fun h => (fp_nodiv h).elim ha hb
theorem d_ne : fp dN ≠ 0 := by
  intro h
  have := d_non
  rw [h, show 2 * (2 * eQ + 1) = (4 * eQ + 1) + 1 by omega, fzero_pow] at this
  have h1 : (1 : Fp) = 0 := by
    have e : (1 : Fp) = -(-1) := by grind
    rw [e, ← this]; grind
  exact fp_one_ne h1
/-- d is no square times a square -/
theorem d_nosq {s t : Fp} (ht : t ≠ 0) : s * s ≠ fp dN * (t * t) := by
  intro h
  have hs : s ≠ 0 := by
    intro h0
    rw [h0] at h
    have h1 : fp dN * (t * t) = 0 := by rw [← h]; grind
    exact (fne_mul d_ne (fne_mul ht ht)) h1
  have e1 : (s * s) ^ (2 * (2 * eQ + 1)) = 1 := by
    rw [show s * s = s ^ 2 by grind, ← fpow_mul, show 2 * (2 * (2 * eQ + 1)) = pF - 1 by have := eQ_p; omega, fp_fermat s hs]
  have e2 : (t * t) ^ (2 * (2 * eQ + 1)) = 1 := by
    rw [show t * t = t ^ 2 by grind, ← fpow_mul, show 2 * (2 * (2 * eQ + 1)) = pF - 1 by have := eQ_p; omega, fp_fermat t ht]
  rw [h, fmul_pow, d_non, e2] at e1
  exact fp_neg_ne 1 fp_one_ne (by rw [← e1]; grind)
def onC (x y : Fp) : Prop := y * y - x * x = 1 + fp dN * (x * x * (y * y))
theorem comp_a {d i x1 y1 x2 y2 e : Fp} (hi : i * i = -1) (h1 : y1 * y1 - x1 * x1 = 1 + d * (x1 * x1 * (y1 * y1))) (h2 : y2 * y2 - x2 * x2 = 1 + d * (x2 * x2 * (y2 * y2))) (he : e = d * (x1 * x2 * (y1 * y2))) (hee : e * e = 1) :
    (i * x1 + e * y1) * (i * x1 + e * y1) = d * ((i * (i * x1) * y1 * (i * x2 + y2)) * (i * (i * x1) * y1 * (i * x2 + y2))) := by grind
theorem comp_b {d i x1 y1 x2 y2 e : Fp} (hi : i * i = -1) (h1 : y1 * y1 - x1 * x1 = 1 + d * (x1 * x1 * (y1 * y1))) (h2 : y2 * y2 - x2 * x2 = 1 + d * (x2 * x2 * (y2 * y2))) (he : e = d * (x1 * x2 * (y1 * y2))) (hee : e * e = 1) :
    (i * x1 - e * y1) * (i * x1 - e * y1) = d * ((i * (i * x1) * y1 * (i * x2 - y2)) * (i * (i * x1) * y1 * (i * x2 - y2))) := by grind
/-- the denominators of a sum are not 0 -/
theorem complete {x1 y1 x2 y2 e : Fp} (h1 : onC x1 y1) (h2 : onC x2 y2) (he : e = fp dN * (x1 * x2 * (y1 * y2))) (hee : e * e = 1) : False := by
  have hi := fi_sq
  have hi0 := i_ne0 hi
  have ha := comp_a hi h1 h2 he hee
  have hb := comp_b hi h1 h2 he hee
  have e0 : e ≠ 0 := by intro h; rw [h] at hee; exact fp_one_ne (by rw [← hee]; grind)
  have k1 : x1 ≠ 0 := by intro h; rw [h] at he; exact e0 (by rw [he]; grind)
  have k2 : x2 ≠ 0 := by intro h; rw [h] at he; exact e0 (by rw [he]; grind)
  have k3 : y1 ≠ 0 := by intro h; rw [h] at he; exact e0 (by rw [he]; grind)
  have k4 : y2 ≠ 0 := by intro h; rw [h] at he; exact e0 (by rw [he]; grind)
  have nz := fne_mul (fne_mul hi0 (fne_mul hi0 k1)) k3
  have z1 : fp iN * x2 + y2 = 0 := Classical.byContradiction fun h => d_nosq (fne_mul nz h) ha
  have z2 : fp iN * x2 - y2 = 0 := Classical.byContradiction fun h => d_nosq (fne_mul nz h) hb
  have z3 : 2 * y2 = 0 := by
    grind
  rcases fp_nodiv z3 with h | h
  · exact fp_two_ne h
  · exact k4 h
theorem comp_plus {x1 y1 x2 y2 : Fp} (h1 : onC x1 y1) (h2 : onC x2 y2) : 1 + fp dN * (x1 * x2 * (y1 * y2)) ≠ 0 := fun h =>
  complete h1 h2 rfl (by have e : fp dN * (x1 * x2 * (y1 * y2)) = -1 := by grind
                         rw [e]; grind)
theorem comp_minus {x1 y1 x2 y2 : Fp} (h1 : onC x1 y1) (h2 : onC x2 y2) : 1 - fp dN * (x1 * x2 * (y1 * y2)) ≠ 0 := fun h =>
  complete h1 h2 rfl (by have e : fp dN * (x1 * x2 * (y1 * y2)) = 1 := by grind
                         rw [e]; grind)
/-- d y² + 1 is not 0 -/
theorem den_ne (y : Fp) : fp dN * (y * y) + 1 ≠ 0 := by
  intro h
  have hi := fi_sq
  by_cases hy : y = 0
  · rw [hy] at h
    simp at h
    exact fp_one_ne h
  · exact d_nosq (s := fp iN) hy (by rw [hi]; grind)
/-- the sum of two points is one -/
theorem add_on {x1 y1 x2 y2 x3 y3 : Fp} (h1 : onC x1 y1) (h2 : onC x2 y2) (hx : x3 * (1 + fp dN * (x1 * x2 * (y1 * y2))) = x1 * y2 + x2 * y1) (hy : y3 * (1 - fp dN * (x1 * x2 * (y1 * y2))) = y1 * y2 + x1 * x2) : onC x3 y3 := by
  have n1 := comp_plus h1 h2
  have n2 := comp_minus h1 h2
  unfold onC at *
  have nn := fne_mul (fne_mul n1 n2) (fne_mul n1 n2)
  refine fp_cancel nn ?_
  generalize fp dN = d at *
  have a1 : (1 + d * (x1 * x2 * (y1 * y2))) * (1 - d * (x1 * x2 * (y1 * y2))) * ((1 + d * (x1 * x2 * (y1 * y2))) * (1 - d * (x1 * x2 * (y1 * y2)))) * (y3 * y3 - x3 * x3) = (1 + d * (x1 * x2 * (y1 * y2))) * (1 + d * (x1 * x2 * (y1 * y2))) * ((y3 * (1 - d * (x1 * x2 * (y1 * y2)))) * (y3 * (1 - d * (x1 * x2 * (y1 * y2))))) - (1 - d * (x1 * x2 * (y1 * y2))) * (1 - d * (x1 * x2 * (y1 * y2))) * ((x3 * (1 + d * (x1 * x2 * (y1 * y2)))) * (x3 * (1 + d * (x1 * x2 * (y1 * y2))))) := by grind
  have a2 : (1 + d * (x1 * x2 * (y1 * y2))) * (1 - d * (x1 * x2 * (y1 * y2))) * ((1 + d * (x1 * x2 * (y1 * y2))) * (1 - d * (x1 * x2 * (y1 * y2)))) * (1 + d * (x3 * x3 * (y3 * y3))) = (1 + d * (x1 * x2 * (y1 * y2))) * (1 - d * (x1 * x2 * (y1 * y2))) * ((1 + d * (x1 * x2 * (y1 * y2))) * (1 - d * (x1 * x2 * (y1 * y2)))) + d * ((x3 * (1 + d * (x1 * x2 * (y1 * y2)))) * (x3 * (1 + d * (x1 * x2 * (y1 * y2))))) * ((y3 * (1 - d * (x1 * x2 * (y1 * y2)))) * (y3 * (1 - d * (x1 * x2 * (y1 * y2))))) := by grind
  rw [a1, a2, hx, hy]
  clear hx hy a1 a2 n1 n2 nn
  grind
end
section
/-- y of 32 bytes -/
def dcU (y : Nat) : Nat := (y * y % pF + (pF - 1)) % pF
def dcV (y : Nat) : Nat := (y * y % pF * dN % pF + 1) % pF
/-- whether y is that of a point -/
def dcIs (y : Nat) : Bool := sqW (dcU y) (dcV y)
/-- the x that is even, and the one that the sign tells -/
def dcR (y : Nat) : Nat := sqR (dcU y) (dcV y)
def dcX (y s : Nat) : Nat := if s = 1 then (pF - dcR y) % pF else dcR y
theorem dcU_lt (y : Nat) : dcU y < pF := mlt _
theorem dcV_lt (y : Nat) : dcV y < pF := mlt _
theorem dcR_lt (y : Nat) : dcR y < pF := sqR_lt _ _
theorem dcX_lt (y s : Nat) : dcX y s < pF := by
  unfold dcX; split
  · exact mlt _
  · exact dcR_lt y
theorem fp_dcU (y : Nat) : fp (dcU y) = fp y * fp y - 1 := by
  unfold dcU
  rw [fp_mod, fp_sub _ 1 (by unfold pF; omega), fp_mod, fp_mul, fp_one]
theorem fp_dcV (y : Nat) : fp (dcV y) = fp dN * (fp y * fp y) + 1 := by
  unfold dcV
  rw [fp_mod, fp_add, fp_mod, fp_mul, fp_mod, fp_mul, fp_one]
  generalize fp dN = d
  grind
theorem dcV_ne (y : Nat) : dcV y ≠ 0 := by
  intro h
  have h1 := fp_dcV y
  rw [h, fp_zero] at h1
  exact den_ne (fp y) h1.symm
theorem dc_on (y s : Nat) (h : dcIs y = true) : onC (fp (dcX y s)) (fp y) := by
  have h1 := sqW_sq (dcU y) (dcV y) (dcU_lt y) (dcV_lt y) (dcV_ne y) h
  have h2 : fp (dcX y s) * fp (dcX y s) = fp (dcR y) * fp (dcR y) := by
    unfold dcX; split
    · rw [fp_negm _ (Nat.le_of_lt (dcR_lt y))]; grind
    · rfl
  have h3 : fp (dcR y) * fp (dcR y) * fp (dcV y) = fp (dcU y) := h1
  rw [fp_dcU, fp_dcV] at h3
  unfold onC
  generalize fp (dcX y s) = X at *
  generalize fp (dcR y) = R at *
  generalize fp y = Y at *
  generalize fp dN = d at *
  clear h h1
  grind
/-- of a point's y there is a point -/
theorem dcIs_of (y : Nat) (X : Fp) (h : onC X (fp y)) : dcIs y = true := by
  refine sqW_of (dcU y) (dcV y) (dcU_lt y) (dcV_lt y) (dcV_ne y) X ?_
  rw [fp_dcU, fp_dcV]
  unfold onC at h
  generalize fp y = Y at *
  generalize fp dN = d at *
  grind
/-- a point's x is the one that its sign tells -/
theorem dcX_of (x y : Nat) (hx : x < pF) (h : onC (fp x) (fp y)) : dcX y (x % 2) = x ∨ (x = 0 ∧ dcR y = 0) := by
  have hi := dcIs_of y (fp x) h
  have h1 := sqW_sq (dcU y) (dcV y) (dcU_lt y) (dcV_lt y) (dcV_ne y) hi
  have hr : fp (dcR y) * fp (dcR y) * fp (dcV y) = fp (dcU y) := h1
  have hv : fp (dcV y) ≠ 0 := fun h0 => dcV_ne y ((fp_zero_iff (dcV_lt y)).2 h0)
  have hxx : fp x * fp x * fp (dcV y) = fp (dcU y) := by
    rw [fp_dcU, fp_dcV]
    unfold onC at h
    clear hr h1 hv
    generalize fp x = X at *
    generalize fp y = Y at *
    generalize fp dN = d at *
    grind
  have e : fp x * fp x = fp (dcR y) * fp (dcR y) := by
    refine fp_cancel hv ?_
    generalize fp (dcV y) = V at *
    generalize fp x = X at *
    generalize fp (dcR y) = R at *
    grind
  have hre : dcR y % 2 = 0 := sqR_even _ _
  have hrl := dcR_lt y
  have hp : pF % 2 = 1 := by unfold pF; omega
  rcases sq_eq e with h2 | h2
  · have h3 := fp_inj hx hrl h2
    left
    rw [h3]
    unfold dcX
    rw [if_neg (by omega)]
  · rw [← fp_negm _ (Nat.le_of_lt hrl)] at h2
    have h3 := fp_inj hx (mlt _) h2
    rcases Nat.eq_zero_or_pos (dcR y) with h0 | h0
    · right
      rw [h0, Nat.sub_zero, Nat.mod_self] at h3
      exact ⟨h3, h0⟩
    · left
      rw [Nat.mod_eq_of_lt (show pF - dcR y < pF by omega)] at h3
      unfold dcX
      rw [if_pos (by omega), Nat.mod_eq_of_lt (show pF - dcR y < pF by omega), h3]
end
end Go.Proofs.YtemgflkecflhmaaDoor
