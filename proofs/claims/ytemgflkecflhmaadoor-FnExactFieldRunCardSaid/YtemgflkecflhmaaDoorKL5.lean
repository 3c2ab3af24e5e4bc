/- Parts of the proof: The registers of impl. What the loops of FieldRun need: rows in the midst of a block, registers pushed. Arguments of types [][32]byte and []FieldOp opened. -/
import Derived.Deep.Fields
import Derived.Deep.Slices
import Derived.Test.YtemgflkecflhmaaDoorKHRS11
import Derived.Test.YtemgflkecflhmaaDoorKL0
import Derived.Test.YtemgflkecflhmaaDoorKL2
import Derived.Test.YtemgflkecflhmaaDoorKL3
set_option maxRecDepth 4000
set_option linter.unusedSimpArgs false
set_option linter.unusedVariables false
namespace Go.Proofs.YtemgflkecflhmaaDoor
section
open Go.RowKit
/-- the elements that the registers point to -/
structure Elems (B : Nat) (w : World) (bs : Nat → Nat) (r : List Nat) : Prop where
  fe : ∀ i, i < r.length → Fe w (bs i) 0 (r.getD i 0)
  inj : ∀ i j, i < r.length → j < r.length → bs i = bs j → i = j
  ge : ∀ i, i < r.length → B ≤ bs i
/-- the slice v of pointers to them -/
def Ptrs (B : Nat) (w : World) (v : Value) (bs : Nat → Nat) (n : Nat) : Prop := Own w B 29 1 v n (fun i => [.pointer (some ⟨bs i, 0, none⟩)])
theorem Ptrs.cell {B : Nat} {w : World} {rb cap n : Nat} {bs : Nat → Nat} (h : Ptrs B w (.slice (some ⟨rb, 0, none⟩) n cap) bs n) {i : Nat} (hi : i < n) : w.cell? ⟨rb, i, none⟩ = some (.pointer (some ⟨bs i, 0, none⟩)) := by
  have := Own.range h hi 0 (.pointer (some ⟨bs i, 0, none⟩)) rfl
  rw [Nat.mul_one, Nat.add_zero] at this
  exact this
theorem fe_int {w : World} {b x : Nat} (h : Fe w b 0 x) : ∃ k : Int, w.cell? ⟨b, 0, none⟩ = some (.int .u64 k) := by
  obtain ⟨L, hL, _⟩ := h
  exact ⟨_, hL.c0⟩
theorem Ptrs.ne {B : Nat} {w : World} {rb cap n : Nat} {bs : Nat → Nat} (h : Ptrs B w (.slice (some ⟨rb, 0, none⟩) n cap) bs n) {c x : Nat} (hn : 0 < n) (hf : Fe w c 0 x) : rb ≠ c := by
  intro e
  subst e
  obtain ⟨k, hk⟩ := fe_int hf
  have := h.cell hn
  rw [hk] at this
  cases this
theorem Elems.below {B : Nat} {w w' : World} {bs : Nat → Nat} {r : List Nat} (h : Elems B w bs r) (hB : Below w.heap.size w w') : Elems B w' bs r :=
  ⟨fun i hi => (h.fe i hi).below_all hB, h.inj, h.ge⟩
theorem getD_set (r : List Nat) (z i v : Nat) (hz : z < r.length) : (r.set z v).getD i 0 = if i = z then v else r.getD i 0 := by
  simp only [List.getD, List.getElem?_set]
  by_cases h : z = i
  · subst h; simp [hz]
  · rw [if_neg h, if_neg (Ne.symm h)]
theorem Elems.set {B : Nat} {w w' : World} {bs : Nat → Nat} {r : List Nat} (h : Elems B w bs r) {z v : Nat} (hz : z < r.length) (hS : Sets w w' (bs z) 0 v) : Elems B w' bs (r.set z v) := by
  refine ⟨fun i hi => ?_, fun i j hi hj => h.inj i j (by simpa using hi) (by simpa using hj), fun i hi => h.ge i (by simpa using hi)⟩
  have hi' : i < r.length := by simpa using hi
  rw [getD_set r z i v hz]
  by_cases e : i = z
  · subst e
    rw [if_pos rfl]
    exact hS.fe' (h.fe i hi')
  · rw [if_neg e]
    exact hS.others (h.fe i hi') (Or.inl fun hb => e (h.inj i z hi' hz hb))
theorem Elems.two {B : Nat} {w w' : World} {bs : Nat → Nat} {r : List Nat} (h : Elems B w bs r) {x z a b : Nat} (hx : x < r.length) (hz : z < r.length) (ha : Fe w' (bs z) 0 a) (hb : Fe w' (bs x) 0 b) (hK : Keep2 (bs z) (bs x) w w') (hxz : x = z → a = b) : Elems B w' bs ((r.set x b).set z a) := by
  refine ⟨fun i hi => ?_, fun i j hi hj => h.inj i j (by simpa using hi) (by simpa using hj), fun i hi => h.ge i (by simpa using hi)⟩
  have hi' : i < r.length := by simpa using hi
  rw [getD_set _ z i a (by simpa using hz), getD_set r x i b hx]
  by_cases e : i = z
  · subst e
    rw [if_pos rfl]
    exact ha
  · rw [if_neg e]
    by_cases e2 : i = x
    · subst e2
      rw [if_pos rfl]
      exact hb
    · rw [if_neg e2]
      exact (h.fe i hi').keep (hK.block _ (h.fe i hi').lt (fun hb => e (h.inj i z hi' hz hb)) (fun hb => e2 (h.inj i x hi' hx hb)))
theorem set_self (r : List Nat) (i : Nat) (h : i < r.length) : r.set i (r.getD i 0) = r := by
  apply List.ext_getElem?
  intro j
  rw [List.getElem?_set]
  by_cases e : i = j
  · subst e
    simp [h, List.getD]
  · rw [if_neg e]
theorem Ptrs.keep {B : Nat} {w w' : World} {rb cap n : Nat} {bs : Nat → Nat} (h : Ptrs B w (.slice (some ⟨rb, 0, none⟩) n cap) bs n) (e : w'.heap[rb]? = w.heap[rb]?) : Ptrs B w' (.slice (some ⟨rb, 0, none⟩) n cap) bs n :=
  Own.kept h fun b hb => by
    simp only [Value.ownBlock, Option.some.injEq] at hb
    subst hb
    exact e
theorem Ptrs.lt {B : Nat} {w : World} {rb cap n : Nat} {bs : Nat → Nat} (h : Ptrs B w (.slice (some ⟨rb, 0, none⟩) n cap) bs n) : B ≤ rb ∧ rb < w.heap.size := Own.lt h rb rfl
/-- behind a step -/
def Stepped (B : Nat) (w w' : World) (v : Value) (bs : Nat → Nat) (r : List Nat) : Prop := Below B w w' ∧ Ptrs B w' v bs r.length ∧ Elems B w' bs r
theorem stepped_set {B rb cap : Nat} {w w' : World} {bs : Nat → Nat} {r : List Nat} (hB : B ≤ w.heap.size) (hP : Ptrs B w (.slice (some ⟨rb, 0, none⟩) r.length cap) bs r.length) (hE : Elems B w bs r) {z v : Nat} (hz : z < r.length) (hS : Sets w w' (bs z) 0 v) : Stepped B w w' (.slice (some ⟨rb, 0, none⟩) r.length cap) bs (r.set z v) := by
  refine ⟨hS.below (hE.ge z hz) hB, ?_, hE.set hz hS⟩
  rw [List.length_set]
  refine hP.keep ?_
  obtain ⟨L, _, _, hw⟩ := hS
  exact hw.other rb hP.lt.2 (hP.ne (by omega) (hE.fe z hz))
theorem stepped_two {B rb cap : Nat} {w w' : World} {bs : Nat → Nat} {r : List Nat} (hB : B ≤ w.heap.size) (hP : Ptrs B w (.slice (some ⟨rb, 0, none⟩) r.length cap) bs r.length) (hE : Elems B w bs r) {x z a b : Nat} (hx : x < r.length) (hz : z < r.length) (ha : Fe w' (bs z) 0 a) (hb : Fe w' (bs x) 0 b) (hK : Keep2 (bs z) (bs x) w w') (hxz : x = z → a = b) : Stepped B w w' (.slice (some ⟨rb, 0, none⟩) r.length cap) bs ((r.set x b).set z a) := by
  refine ⟨hK.below (hE.ge z hz) (hE.ge x hx) hB, ?_, hE.two hx hz ha hb hK hxz⟩
  rw [List.length_set, List.length_set]
  exact hP.keep (hK.block rb hP.lt.2 (hP.ne (by omega) (hE.fe z hz)) (hP.ne (by omega) (hE.fe x hx)))
section
variable {B B0 rb cap : Nat} {w : World} {bs : Nat → Nat} {r : List Nat}
theorem step_any (o : FOp) (hn : o.n < 4294967296) (hm : madeN o r.length = true) (hP : Ptrs B w (.slice (some ⟨rb, 0, none⟩) r.length cap) bs r.length) (hE : Elems B w bs r) (hB : B ≤ w.heap.size) (hB0 : B0 ≤ B)
    (hD0 : Var 0 z5 B0 w) (hD1 : Var 1 i5 B0 w) (hDo : Var 2 o5 B0 w) :
    Calls Tryd.prog 10 #[.slice (some ⟨rb, 0, none⟩) r.length cap, .agg (opC o.kind o.z o.x o.y o.n)] w fun e w' => e = .returned (.tuple #[]) ∧ Stepped B w w' (.slice (some ⟨rb, 0, none⟩) r.length cap) bs (stepN o r) := by
  have hst : stepN o r = if o.kind = 11 then (if o.n % 2 = 1 then (r.set o.x.toNat (getN r o.z)).set o.z.toNat (getN r o.x) else r) else r.set o.z.toNat (valueN o (getN r o.x) (getN r o.y)) := by
    unfold stepN; rw [if_pos hm]
  rw [hst]
  clear hst
  obtain ⟨k, z, x, y, n⟩ := o
  simp only at hn ⊢
  unfold madeN at hm
  simp only [Bool.and_eq_true, Bool.or_eq_true, Bool.not_eq_true'] at hm
  obtain ⟨⟨⟨hk, hz⟩, hx⟩, hy⟩ := hm
  obtain ⟨z, rfl, lz⟩ := regN_true hz
  have cz := hP.cell lz
  have fz := hE.fe z lz
  have Z := hE.ge z lz
  have GX : usesN k = (true, true, true) ∨ usesN k = (true, true, false) → ∃ x' : Nat, x = (x' : Int) ∧ x' < r.length := by
    rintro (h | h) <;> (rw [h] at hx; simp only [Bool.true_eq_false, false_or] at hx; exact regN_true hx)
  have GY : usesN k = (true, true, true) → ∃ y' : Nat, y = (y' : Int) ∧ y' < r.length := by
    intro h; rw [h] at hy; simp only [Bool.true_eq_false, false_or] at hy; exact regN_true hy
  have gn : ∀ i : Nat, getN r (i : Int) = r.getD i 0 := fun i => by unfold getN; rw [Int.toNat_natCast]
  rcases kinds16 k with rfl | rfl | rfl | rfl | rfl | rfl | rfl | rfl | rfl | rfl | rfl | rfl | rfl | rfl | rfl | rfl | h
  · obtain ⟨x, rfl, lx⟩ := GX (Or.inl rfl)
    have cx := hP.cell lx
    have fx := hE.fe x lx
    obtain ⟨y, rfl, ly⟩ := GY rfl
    have cy := hP.cell ly
    have fy := hE.fe y ly
    rw [if_neg (by decide)]
    simp only [Int.toNat_natCast, gn]
    rw [show valueN ⟨0, (z : Int), (x : Int), (y : Int), n⟩ (r.getD x 0) (r.getD y 0) = ((r.getD x 0 + r.getD y 0) % pF) by simp [valueN]]
    exact (step_0 rb r.length cap z x y n (bs z) (bs x) (bs y) _ _ _ B0 lz lx ly w cz cx cy fz fx fy).mono fun _ w' h => ⟨h.1, stepped_set hB hP hE lz h.2⟩
  · obtain ⟨x, rfl, lx⟩ := GX (Or.inl rfl)
    have cx := hP.cell lx
    have fx := hE.fe x lx
    obtain ⟨y, rfl, ly⟩ := GY rfl
    have cy := hP.cell ly
    have fy := hE.fe y ly
    rw [if_neg (by decide)]
    simp only [Int.toNat_natCast, gn]
    rw [show valueN ⟨1, (z : Int), (x : Int), (y : Int), n⟩ (r.getD x 0) (r.getD y 0) = ((r.getD x 0 + (pF - r.getD y 0)) % pF) by simp [valueN]]
    exact (step_1 rb r.length cap z x y n (bs z) (bs x) (bs y) _ _ _ B0 lz lx ly w cz cx cy fz fx fy).mono fun _ w' h => ⟨h.1, stepped_set hB hP hE lz h.2⟩
  · obtain ⟨x, rfl, lx⟩ := GX (Or.inl rfl)
    have cx := hP.cell lx
    have fx := hE.fe x lx
    obtain ⟨y, rfl, ly⟩ := GY rfl
    have cy := hP.cell ly
    have fy := hE.fe y ly
    rw [if_neg (by decide)]
    simp only [Int.toNat_natCast, gn]
    rw [show valueN ⟨2, (z : Int), (x : Int), (y : Int), n⟩ (r.getD x 0) (r.getD y 0) = (r.getD x 0 * r.getD y 0 % pF) by simp [valueN]]
    exact (step_2 rb r.length cap z x y n (bs z) (bs x) (bs y) _ _ _ B0 lz lx ly w cz cx cy fz fx fy).mono fun _ w' h => ⟨h.1, stepped_set hB hP hE lz h.2⟩
  · obtain ⟨x, rfl, lx⟩ := GX (Or.inr rfl)
    have cx := hP.cell lx
    have fx := hE.fe x lx
    rw [if_neg (by decide)]
    simp only [Int.toNat_natCast, gn]
    rw [show valueN ⟨3, (z : Int), (x : Int), y, n⟩ (r.getD x 0) (getN r y) = (r.getD x 0 * r.getD x 0 % pF) by simp [valueN]]
    exact (step_3 rb r.length cap z x n (bs z) (bs x) _ _ B0 _ lz lx w cz cx fz fx).mono fun _ w' h => ⟨h.1, stepped_set hB hP hE lz h.2⟩
  · obtain ⟨x, rfl, lx⟩ := GX (Or.inr rfl)
    have cx := hP.cell lx
    have fx := hE.fe x lx
    rw [if_neg (by decide)]
    simp only [Int.toNat_natCast, gn]
    rw [show valueN ⟨4, (z : Int), (x : Int), y, n⟩ (r.getD x 0) (getN r y) = ((pF - r.getD x 0) % pF) by simp [valueN]]
    exact (step_4 rb r.length cap z x n (bs z) (bs x) _ _ B0 _ lz lx (Nat.le_trans hB0 Z) w cz cx fz fx hD0).mono fun _ w' h => ⟨h.1, stepped_set hB hP hE lz h.2⟩
  · obtain ⟨x, rfl, lx⟩ := GX (Or.inr rfl)
    have cx := hP.cell lx
    have fx := hE.fe x lx
    rw [if_neg (by decide)]
    simp only [Int.toNat_natCast, gn]
    rw [show valueN ⟨5, (z : Int), (x : Int), y, n⟩ (r.getD x 0) (getN r y) = (r.getD x 0 * n % pF) by simp [valueN]]
    exact (step_5 rb r.length cap z x n (bs z) (bs x) _ _ B0 _ lz lx hn w cz cx fz fx).mono fun _ w' h => ⟨h.1, stepped_set hB hP hE lz h.2⟩
  · obtain ⟨x, rfl, lx⟩ := GX (Or.inr rfl)
    have cx := hP.cell lx
    have fx := hE.fe x lx
    rw [if_neg (by decide)]
    simp only [Int.toNat_natCast, gn]
    rw [show valueN ⟨6, (z : Int), (x : Int), y, n⟩ (r.getD x 0) (getN r y) = (xp (r.getD x 0) 57896044618658097711785492504343953926634992332820282019728792003956564819947) by simp [valueN]]
    exact (step_6 rb r.length cap z x n (bs z) (bs x) _ _ B0 _ lz lx w cz cx fz fx).mono fun _ w' h => ⟨h.1, stepped_set hB hP hE lz h.2⟩
  · obtain ⟨x, rfl, lx⟩ := GX (Or.inr rfl)
    have cx := hP.cell lx
    have fx := hE.fe x lx
    rw [if_neg (by decide)]
    simp only [Int.toNat_natCast, gn]
    rw [show valueN ⟨7, (z : Int), (x : Int), y, n⟩ (r.getD x 0) (getN r y) = (absN (r.getD x 0)) by simp [valueN]]
    exact (step_7 rb r.length cap z x n (bs z) (bs x) _ _ B0 _ lz lx w cz cx fz fx hD0).mono fun _ w' h => ⟨h.1, stepped_set hB hP hE lz h.2⟩
  · obtain ⟨x, rfl, lx⟩ := GX (Or.inr rfl)
    have cx := hP.cell lx
    have fx := hE.fe x lx
    rw [if_neg (by decide)]
    simp only [Int.toNat_natCast, gn]
    rw [show valueN ⟨8, (z : Int), (x : Int), y, n⟩ (r.getD x 0) (getN r y) = (xp (r.getD x 0) 7237005577332262213973186563042994240829374041602535252466099000494570602493) by simp [valueN]]
    exact (step_8 rb r.length cap z x n (bs z) (bs x) _ _ B0 _ lz lx w cz cx fz fx).mono fun _ w' h => ⟨h.1, stepped_set hB hP hE lz h.2⟩
  · obtain ⟨x, rfl, lx⟩ := GX (Or.inl rfl)
    have cx := hP.cell lx
    have fx := hE.fe x lx
    obtain ⟨y, rfl, ly⟩ := GY rfl
    have cy := hP.cell ly
    have fy := hE.fe y ly
    rw [if_neg (by decide)]
    simp only [Int.toNat_natCast, gn]
    rw [show valueN ⟨9, (z : Int), (x : Int), (y : Int), n⟩ (r.getD x 0) (r.getD y 0) = (sqR (r.getD x 0) (r.getD y 0)) by simp [valueN]]
    exact (step_9 rb r.length cap z x y n (bs z) (bs x) (bs y) _ _ _ B0 lz lx ly w cz cx cy fz fx fy hD0 hD1).mono fun _ w' h => ⟨h.1, stepped_set hB hP hE lz h.2⟩
  · obtain ⟨x, rfl, lx⟩ := GX (Or.inl rfl)
    have cx := hP.cell lx
    have fx := hE.fe x lx
    obtain ⟨y, rfl, ly⟩ := GY rfl
    have cy := hP.cell ly
    have fy := hE.fe y ly
    rw [if_neg (by decide)]
    simp only [Int.toNat_natCast, gn]
    by_cases ho : n % 2 = 1
    · have e : valueN ⟨10, (z : Int), (x : Int), (y : Int), n⟩ (r.getD x 0) (r.getD y 0) = r.getD x 0 := by simp [valueN, ho]
      rw [e]
      exact (step_10b rb r.length cap z x y n (bs z) (bs x) (bs y) _ _ _ B0 lz lx ly ho w cz cx cy fz fx fy).mono fun _ w' h => ⟨h.1, stepped_set hB hP hE lz h.2⟩
    · have ho : n % 2 = 0 := by omega
      have e : valueN ⟨10, (z : Int), (x : Int), (y : Int), n⟩ (r.getD x 0) (r.getD y 0) = r.getD y 0 := by simp [valueN, ho]
      rw [e]
      exact (step_10a rb r.length cap z x y n (bs z) (bs x) (bs y) _ _ _ B0 lz lx ly ho w cz cx cy fz fx fy).mono fun _ w' h => ⟨h.1, stepped_set hB hP hE lz h.2⟩
  · obtain ⟨x, rfl, lx⟩ := GX (Or.inr rfl)
    have cx := hP.cell lx
    have fx := hE.fe x lx
    rw [if_pos rfl]
    simp only [gn, Int.toNat_natCast]
    by_cases ho : n % 2 = 1
    · rw [if_pos ho]
      by_cases e : x = z
      · subst e
        refine (step_11d rb r.length cap x n (bs x) _ 0 _ lx ho w cx fx).mono fun _ w' h => ?_
        exact ⟨h.1, stepped_two hB hP hE lx lx h.2.1 h.2.1 h.2.2 (fun _ => rfl)⟩
      · refine (step_11b rb r.length cap z x n (bs z) (bs x) _ _ 0 _ lz lx ho (fun hb => e (hE.inj z x lz lx hb).symm) w cz cx fz fx).mono fun _ w' h => ?_
        exact ⟨h.1, stepped_two hB hP hE lx lz h.2.1 h.2.2.1 h.2.2.2 (fun hb => absurd hb e)⟩
    · rw [if_neg ho]
      have ho : n % 2 = 0 := by omega
      by_cases e : x = z
      · subst e
        refine (step_11c rb r.length cap x n (bs x) _ 0 _ lx ho w cx fx).mono fun _ w' h => ?_
        have := stepped_two hB hP hE lx lx h.2.1 h.2.1 h.2.2 (fun _ => rfl)
        rw [set_self r x lx, set_self r x lx] at this
        exact ⟨h.1, this⟩
      · refine (step_11a rb r.length cap z x n (bs z) (bs x) _ _ 0 _ lz lx ho (fun hb => e (hE.inj z x lz lx hb).symm) w cz cx fz fx).mono fun _ w' h => ?_
        have := stepped_two hB hP hE lx lz h.2.1 h.2.2.1 h.2.2.2 (fun hb => absurd hb e)
        rw [set_self r x lx, set_self r z lz] at this
        exact ⟨h.1, this⟩
  · obtain ⟨x, rfl, lx⟩ := GX (Or.inr rfl)
    have cx := hP.cell lx
    have fx := hE.fe x lx
    rw [if_neg (by decide)]
    simp only [Int.toNat_natCast, gn]
    rw [show valueN ⟨12, (z : Int), (x : Int), y, n⟩ (r.getD x 0) (getN r y) = r.getD x 0 by simp [valueN]]
    exact (step_12 rb r.length cap z x n (bs z) (bs x) _ _ B0 _ lz lx w cz cx fz fx).mono fun _ w' h => ⟨h.1, stepped_set hB hP hE lz h.2⟩
  · rw [if_neg (by decide)]
    simp only [Int.toNat_natCast]
    rw [show valueN ⟨13, (z : Int), x, y, n⟩ (getN r x) (getN r y) = 0 by simp [valueN]]
    exact (step_13 rb r.length cap z n (bs z) _ B0 _ _ lz (Nat.le_trans hB0 Z) w cz fz hD0).mono fun _ w' h => ⟨h.1, stepped_set hB hP hE lz h.2⟩
  · rw [if_neg (by decide)]
    simp only [Int.toNat_natCast]
    rw [show valueN ⟨14, (z : Int), x, y, n⟩ (getN r x) (getN r y) = 1 by simp [valueN]]
    exact (step_14 rb r.length cap z n (bs z) _ B0 _ _ lz (Nat.le_trans hB0 Z) w cz fz hDo).mono fun _ w' h => ⟨h.1, stepped_set hB hP hE lz h.2⟩
  · obtain ⟨x, rfl, lx⟩ := GX (Or.inr rfl)
    have cx := hP.cell lx
    have fx := hE.fe x lx
    rw [if_neg (by decide)]
    simp only [Int.toNat_natCast, gn]
    rw [show valueN ⟨15, (z : Int), (x : Int), y, n⟩ (r.getD x 0) (getN r y) = (xp (r.getD x 0) (2 ^ (n % 10 + 1))) by simp [valueN]]
    exact (step_15 rb r.length cap z x n (bs z) (bs x) _ _ B0 _ lz lx w cz cx fz fx).mono fun _ w' h => ⟨h.1, stepped_set hB hP hE lz h.2⟩
  · rw [usesN_off h] at hk; cases hk
end
end
section
open Go.RowKit
/-- the slice holds n rows of s cells -/
def RowsAt (w : World) (sl : Option Addr) (n s : Nat) (f : Nat → Array Value) : Prop := ∀ i, i < n → ∃ b o, sl = some ⟨b, o, none⟩ ∧ b < w.heap.size ∧ w.rangeAt b (o + i * s) (f i).toList
theorem rangeAt_block {w w' : World} {b o : Nat} {cs : List Value} (h : w.rangeAt b o cs) (e : w'.heap[b]? = w.heap[b]?) : w'.rangeAt b o cs := fun j v hv => (World.cell?_of_block (a := ⟨b, o + j, none⟩) e).trans (h j v hv)
theorem RowsAt.below {w w' : World} {sl : Option Addr} {n s : Nat} {f : Nat → Array Value} (h : RowsAt w sl n s f) (hB : Below w.heap.size w w') : RowsAt w' sl n s f := by
  intro i hi
  obtain ⟨b, o, e, hb, hr⟩ := h i hi
  exact ⟨b, o, e, Nat.lt_of_lt_of_le hb hB.size, rangeAt_block hr (hB.block b hb)⟩
section
variable {P : Program} {ops : Array Oper} {rest : List Oper} {op : Oper} {a : Act} {w : World} {Q : Exit → Act → World → Prop}
theorem wpList_load_at (hgd : op.guard = none) (ty : TypeId) (x : Operand) (ho : op.op = .load ty x) (d' : Option Tmp) (hd' : op.dst = d')
    (b o : Nat) (hx : a.eval x = .pointer (some ⟨b, o, none⟩)) (cs : Array Value) {d : TypeDesc} (hc : w.rangeAt b o cs.toList)
    (hu : P.underlying ty = some d) (hd : d.isRow = true) (hi : (P.info? ty).map (·.size) = some cs.size)
    (h : wpList P ops Q rest (a.put d' (.agg cs)) w) : wpList P ops Q (op :: rest) a w := by
  subst hd'
  refine wpList_load_mid hgd ty x ho b o hx cs.toList d hc hu hd (by rw [hi]; simp) ?_
  simpa using h
theorem wpList_store_at (hgd : op.guard = none) (ty : TypeId) (x y : Operand) (ho : op.op = .store ty x y)
    (b o : Nat) (cells : Array Value) (hx : a.eval x = .pointer (some ⟨b, o, none⟩)) (hy : a.eval y = .agg cells)
    (n : Nat) (hn : n = cells.size) (ht : w.there b o n) (hi : (P.info? ty).map (·.size) = some cells.size) (h1 : cells.all (·.oneCell') = true)
    (h : wpList P ops Q rest (a.put op.dst undef) (w.setCells b o cells.toList)) : wpList P ops Q (op :: rest) a w :=
  wpList_store_mid hgd ty x y ho b o cells hx hy (hn ▸ ht) hi h1 h
end
theorem wpList_build_one {P : Program} {ops : Array Oper} {rest : List Oper} {op : Oper} {a : Act} {w : World} {Q : Exit → Act → World → Prop} (hgd : op.guard = none) (t e : TypeId) (x : Operand) (ho : op.op = .buildSlice t 1 #[(0, x)])
    (N : Nat) (hN : w.heap.size = N) (d : Option Tmp) (hd : op.dst = d) (hu : P.underlying t = some (.slice e)) (cs : Array Value) (hx : a.eval x = .agg cs) (hf : P.builtSlice e 1 [(0, .agg cs)] = some cs)
    (h : wpList P ops Q rest (a.put d (.slice (some ⟨N, 0, none⟩) 1 1)) (w.alloc (.cells cs e))) : wpList P ops Q (op :: rest) a w :=
  Great.wpList_buildSliceTo hgd t e 1 #[(0, x)] ho N hN d hd hu cs (by simpa [hx] using hf) h
theorem below_new {w w1 : World} {cs cs' : Array Value} {T : TypeId} (hC : Below ((w.alloc (.cells cs T)).setRow w.heap.size cs').heap.size ((w.alloc (.cells cs T)).setRow w.heap.size cs') w1) : Below w.heap.size w w1 :=
  below_call (below_setRow (below_alloc (Below.refl _ w) _) (Nat.le_refl _) _) hC
theorem below_new0 (w : World) (cs cs' : Array Value) (T : TypeId) : Below w.heap.size w ((w.alloc (.cells cs T)).setRow w.heap.size cs') :=
  below_setRow (below_alloc (Below.refl _ w) _) (Nat.le_refl _) _
theorem below_step {B : Nat} {w w1 w2 : World} (h : Below B w w1) (hB : B ≤ w.heap.size) (h2 : Below w1.heap.size w1 w2) : Below B w w2 := h.trans (h2.mono (Nat.le_trans hB h.size))
theorem getD_push (r : List Nat) (x i : Nat) (hi : i < r.length + 1) : (r ++ [x]).getD i 0 = if i < r.length then r.getD i 0 else x := by
  by_cases h : i < r.length
  · rw [if_pos h]; simp [List.getD, List.getElem?_append_left h]
  · rw [if_neg h, show i = r.length by omega]; simp [List.getD]
theorem Elems.push {B b x : Nat} {w0 w1 : World} {bs : Nat → Nat} {r : List Nat} (h0 : Elems B w0 bs r) (h1 : Below w0.heap.size w0 w1) (hb : w0.heap.size ≤ b) (hB : B ≤ w0.heap.size) (hF : Fe w1 b 0 x) :
    Elems B w1 (fun i => if i < r.length then bs i else b) (r ++ [x]) := by
  have hl : (r ++ [x]).length = r.length + 1 := by simp
  have lt : ∀ i, i < r.length → bs i < b := fun i hi => Nat.lt_of_lt_of_le (h0.fe i hi).lt hb
  refine ⟨fun i hi => ?_, fun i j hi hj e => ?_, fun i hi => ?_⟩
  · rw [hl] at hi
    rw [getD_push r x i hi]
    by_cases h : i < r.length
    · simp only [if_pos h]
      exact (h0.fe i h).below_all h1
    · simp only [if_neg h]
      exact hF
  · rw [hl] at hi hj
    by_cases h : i < r.length <;> by_cases h' : j < r.length
    · simp only [if_pos h, if_pos h'] at e
      exact h0.inj i j h h' e
    · simp only [if_pos h, if_neg h'] at e
      have := lt i h; omega
    · simp only [if_neg h, if_pos h'] at e
      have := lt j h'; omega
    · omega
  · by_cases h : i < r.length
    · simp only [if_pos h]; exact h0.ge i h
    · simp only [if_neg h]; omega
theorem Elems.grown {B : Nat} {w w' : World} {bs : Nat → Nat} {r : List Nat} {row : Option Nat} (h : Elems B w bs r) (hg : w.grownBy w' row) (hne : ∀ i, i < r.length → some (bs i) ≠ row) : Elems B w' bs r :=
  ⟨fun i hi => (h.fe i hi).keep (hg.block _ (h.fe i hi).lt (hne i hi)), h.inj, h.ge⟩
theorem Ptrs.own_ne {B n c x : Nat} {w : World} {v : Value} {bs : Nat → Nat} (h : Ptrs B w v bs n) (hn : 0 < n) (hf : Fe w c 0 x) : some c ≠ v.ownBlock := by
  obtain ⟨sl, cap, rfl, hs⟩ := Own.form h
  obtain ⟨b, rfl, _, _⟩ := hs hn
  intro e
  simp only [Value.ownBlock, Option.some.injEq] at e
  exact h.ne hn hf e.symm
theorem infoP : (Tryd.prog.info? 29).map (fun i => (i.zero, i.size, i.bytes)) = some (some (.pointer none), 1, 8) := by kernel_rfl
theorem underPs : Tryd.prog.underlying 28 = some (.slice 29) := by kernel_rfl
theorem infoA : (Tryd.prog.info? 27).map (fun i => (i.zero, i.size, i.bytes)) = some (some (.agg zL), 32, 32) := by kernel_rfl
theorem underAs : Tryd.prog.underlying 22 = some (.slice 27) := by kernel_rfl
theorem underOp : Tryd.prog.underlying 33 = some (.struct (Tryd.prog.fieldsOf 33)) := by kernel_rfl
theorem infoOp : (Tryd.prog.info? 33).map (·.size) = some 5 := by kernel_rfl
theorem one_range (w : World) (v : Value) (t : TypeId) : (w.alloc (.cells #[v] t)).rangeAt w.heap.size 0 [v] := by
  intro j u hu
  cases j with
  | zero => simp only [List.getElem?_cons_zero, Option.some.injEq] at hu; subst hu; exact cell_of_row _ _ 0 _ _ _ (heap_new w _)
  | succ j => simp at hu
theorem new_range (w : World) (cs : Array Value) (t : TypeId) : (w.alloc (.cells cs t)).rangeAt w.heap.size 0 cs.toList := by
  intro j u hu
  rw [Nat.zero_add, cell_of_row _ _ j _ _ _ (heap_new w _)]
  simpa using hu
theorem builtA' (v : Fin 32 → Value) : Tryd.prog.builtSlice 27 1 [(0, .agg (Array.ofFn v))] = some (Array.ofFn v) := by kernel_rfl
theorem arrC_fn (N : Nat) : arrC N = Array.ofFn (fun i : Fin 32 => byV N i) := by
  apply Array.ext_getElem?
  intro i
  by_cases h : i < 32
  · rw [arrC_get N i h]; simp [h, byV]
  · rw [Array.getElem?_eq_none (by rw [arrC_size]; omega), Array.getElem?_eq_none (by simp; omega)]
theorem builtA (N : Nat) : Tryd.prog.builtSlice 27 1 [(0, .agg (arrC N))] = some (arrC N) := by rw [arrC_fn]; exact builtA' _
def regs0 (S : Nat → Nat) (k : Nat) : List Nat := (List.range k).map fun i => valN (S i)
theorem regs0_length (S : Nat → Nat) (k : Nat) : (regs0 S k).length = k := by simp [regs0]
theorem regs0_succ (S : Nat → Nat) (k : Nat) : regs0 S (k + 1) = regs0 S k ++ [valN (S k)] := by simp [regs0, List.range_succ]
/-- the cells of a step -/
def opO (o : FOp) : Array Value := opC o.kind o.z o.x o.y o.n
theorem opO_size (o : FOp) : (opO o).size = 5 := rfl
theorem opO_one (o : FOp) : (opO o).all (·.oneCell') = true := by simp [opO, opC, Value.oneCell']
end
section
open Go.ChangeShapes Go.WideShapes Go.ChangeAt Go.RowKit
theorem spot_is {w : World} {a : Addr} {v : Value} (h : w.cell? a = some v) : a = ⟨a.block, a.off, none⟩ := by
  obtain ⟨b, o, s⟩ := a
  cases s with
  | none => rfl
  | some x =>
    unfold World.cell? at h
    simp only [Option.isSome_some, if_true] at h
    split at h <;> cases h
theorem cells5 : Tryd.prog.cellsOf 33 = 5 := by kernel_rfl
theorem underOps : Tryd.prog.underlying 23 = some (.slice 33) := by kernel_rfl
theorem underU32' : Tryd.prog.underlying 31 = some (.int .u32) := by kernel_rfl
theorem underI' : Tryd.prog.underlying 3 = some (.int .i64) := by kernel_rfl
section
variable {H : Type} {enc : TypeId × Value → H} {w : World} {base fuel : Nat} {spare : Nat → Bool} {held : Bool} {cs : List Value} {x : DataW H × List MemPlace}
theorem open_arr (h : DataW.trod enc Tryd.prog w base spare held fuel 27 cs = some x) : ∃ N, cs = (arrC N).toList := by
  obtain ⟨xs, m, rfl, hx, hlen, hxl, hel⟩ := DataW.trod_array under32 h
  rw [cells32] at hlen
  have each : ∀ i, i < 32 → ∃ n : Nat, n < 256 ∧ cs[i]? = some (.int .u8 (n : Int)) := by
    intro i hi
    have h1 := hel i hi
    rw [cells8, List.getElem?_eq_getElem (by omega)] at h1
    obtain ⟨n, e1, e2, wf⟩ := DataW.trod_int under8 h1
    have hb := bounds_u8 wf
    refine ⟨n.toNat, by omega, ?_⟩
    have : (cs.drop (i * 1)).take 1 = [cs[i]'(by omega)] := by
      rw [Nat.mul_one, List.drop_eq_getElem_cons (by omega)]
      rfl
    rw [this] at e1
    injection e1 with e1
    rw [List.getElem?_eq_getElem (by omega), e1]
    congr 2; omega
  obtain ⟨g, hg⟩ := Deep.choose_lt each
  obtain ⟨f, qf⟩ : ∃ f : Nat → Nat, f = fun i => if i < 32 then g i else 0 := ⟨_, rfl⟩
  have hfg : ∀ i, i < 32 → f i = g i := fun i hi => by rw [qf]; simp only [if_pos hi]
  have hf256 : ∀ i, f i < 256 := by
    intro i
    by_cases h : i < 32
    · rw [hfg i h]; exact (hg i h).1
    · rw [qf]; simp only [if_neg h]; omega
  refine ⟨numOf f 32, ?_⟩
  apply List.ext_getElem?
  intro i
  by_cases hi : i < 32
  · rw [(hg i hi).2, Array.getElem?_toList, arrC_get _ i hi, numOf_byte f hf256 32 i hi, hfg i hi]
  · rw [List.getElem?_eq_none (by omega), List.getElem?_eq_none (by rw [Array.length_toList, arrC_size]; omega)]
theorem open_op (h : DataW.trod enc Tryd.prog w base spare held fuel 33 cs = some x) : ∃ o : FOp, o.n < 4294967296 ∧ cs = (opO o).toList := by
  obtain ⟨xs, m, rfl, hx, hlen, hxl, hel⟩ := DataW.trod_struct underOp h
  rw [cells5] at hlen
  have hf : (Tryd.prog.fieldsOf 33).toList.map (fun f : Field => (f.type, f.offset)) = [(3, 0), (3, 1), (3, 2), (3, 3), (31, 4)] := by kernel_rfl
  have hfi : ∀ (i : Nat) (t : TypeId) (o : Nat), [(3, 0), (3, 1), (3, 2), (3, 3), (31, 4)][i]? = some (t, o) → ∃ f : Field, (Tryd.prog.fieldsOf 33)[i]? = some f ∧ f.type = t ∧ f.offset = o := by
    intro i t o hi
    rw [← hf] at hi
    simp only [List.getElem?_map, Array.getElem?_toList, Option.map_eq_some_iff, Prod.mk.injEq] at hi
    obtain ⟨f, h1, h2, h3⟩ := hi
    exact ⟨f, h1, h2, h3⟩
  have hsz : xs.length = 5 := by
    rw [hxl]
    have := congrArg List.length hf
    simpa using this
  have one : ∀ i, i < 5 → (cs.drop i).take 1 = [cs.getD i undef] := fun i hi => Deep.take1_drop cs i undef (by omega)
  have ci : Tryd.prog.cellsOf 3 = 1 := by kernel_rfl
  have cu : Tryd.prog.cellsOf 31 = 1 := by kernel_rfl
  have int : ∀ i, i < 4 → ∃ k : Int, cs.getD i undef = .int .i64 k := by
    intro i hi
    have hi4 : i = 0 ∨ i = 1 ∨ i = 2 ∨ i = 3 := by omega
    obtain ⟨f, h1, h2, h3⟩ := hfi i 3 i (by rcases hi4 with rfl | rfl | rfl | rfl <;> rfl)
    have h4 := hel i f h1
    rw [h2, h3, ci, one i (by omega), List.getElem?_eq_getElem (by omega)] at h4
    obtain ⟨k, e1, _, _⟩ := DataW.trod_int underI' h4
    injection e1 with e1
    exact ⟨k, e1⟩
  obtain ⟨k, hk⟩ := int 0 (by omega)
  obtain ⟨z, hz⟩ := int 1 (by omega)
  obtain ⟨x', hx'⟩ := int 2 (by omega)
  obtain ⟨y, hy⟩ := int 3 (by omega)
  obtain ⟨n, hn, hnn⟩ : ∃ n : Nat, n < 4294967296 ∧ cs.getD 4 undef = .int .u32 (n : Int) := by
    obtain ⟨f, h1, h2, h3⟩ := hfi 4 31 4 rfl
    have h4 := hel 4 f h1
    rw [h2, h3, cu, one 4 (by omega), List.getElem?_eq_getElem (by omega)] at h4
    obtain ⟨q, e1, _, wf⟩ := DataW.trod_int underU32' h4
    injection e1 with e1
    have hb := bounds_u32 wf
    exact ⟨q.toNat, by omega, by rw [e1]; congr 1; omega⟩
  refine ⟨⟨k, z, x', y, n⟩, hn, ?_⟩
  match cs, hlen with
  | [a, b, c, d, e], _ =>
    simp only [List.getD, List.getElem?_cons_zero, List.getElem?_cons_succ, Option.getD_some] at hk hz hx' hy hnn
    subst hk hz hx' hy hnn
    rfl
end
/-- a slice of rows of s cells, each of which a predicate opens -/
theorem open_rows {H : Type} {enc : TypeId × Value → H} {W : World} {base : Nat} {v : Value} {d : DataW H} {ps : List MemPlace} {t e : TypeId} {s : Nat} {α : Type} [Inhabited α] (R : α → Array Value) (hs : 0 < s) (hRs : ∀ z, (R z).size = s) {Ok : α → Prop}
    (ht : Tryd.prog.underlying t = some (.slice e)) (hc : Tryd.prog.cellsOf e = s)
    (hopen : ∀ {fuel : Nat} {cs : List Value} {x : DataW H × List MemPlace}, DataW.trod enc Tryd.prog W 0 (fun _ => true) true fuel e cs = some x → ∃ z, Ok z ∧ cs = (R z).toList)
    (hok : Value.okWide Tryd.prog W .any base t v) (h : DataW.Trod enc Tryd.prog W 0 (fun _ => true) true t v d ps) :
    ∃ (sl : Option Addr) (n cap : Nat) (S : Nat → α), v = .slice sl n cap ∧ n ≤ maxLen ∧ RowsAt W sl n s (fun i => R (S i)) ∧ (∀ i, i < n → Ok (S i)) ∧ (0 < n → ∃ l r, d = .slice l r ∧ n ≤ l.length) := by
  obtain ⟨a0, n, cap, rfl⟩ := okWide_slice ht hok
  obtain ⟨fuel, hf⟩ := h
  rcases Deep.open_slice ht hf with ⟨hcs, hx⟩ | ⟨a, len, cp, m, q, D, Pl, hcs, hb, hle, hmax, hm, hx, hel⟩
  · simp [Value.cells] at hcs
    obtain ⟨rfl, rfl, rfl⟩ := hcs
    exact ⟨none, 0, 0, fun _ => default, rfl, Nat.zero_le _, fun i hi => absurd hi (Nat.not_lt_zero _), fun i hi => absurd hi (Nat.not_lt_zero _), fun h => absurd h (Nat.not_lt_zero _)⟩
  · simp [Value.cells] at hcs
    obtain ⟨rfl, rfl, rfl⟩ := hcs
    simp only [if_true] at hm
    subst hm
    rw [hc] at hel
    have each : ∀ i, i < n → ∃ z, Ok z ∧ W.cells? 0 (a.add (i * s)) s = some (R z).toList := by
      intro i hi
      obtain ⟨cs', h1, h2⟩ := hel i (by omega)
      obtain ⟨z, hz, e⟩ := hopen h2
      exact ⟨z, hz, by rw [h1, e]⟩
    obtain ⟨S, hS⟩ := Deep.choose_lt each
    have hcell : ∀ i, i < n → ∀ j u, (R (S i)).toList[j]? = some u → W.cell? ((a.add (i * s)).add j) = some u := by
      intro i hi j u hu
      obtain ⟨_, hl, hcl⟩ := World.cells?_some (hS i hi).2
      have hj : j < s := by
        have := (List.getElem?_eq_some_iff.1 hu).1
        rw [Array.length_toList, hRs] at this
        exact this
      rw [hcl j hj]
      exact hu
    refine ⟨some a, n, _, S, rfl, by omega, fun i hi => ?_, fun i hi => (hS i hi).1, fun _ => ⟨_, _, congrArg Prod.fst hx, by simp⟩⟩
    have h0 : 0 < (R (S i)).toList.length := by rw [Array.length_toList, hRs]; exact hs
    have hc0 := hcell i hi 0 _ (List.getElem?_eq_getElem h0)
    have ha : a = ⟨a.block, a.off, none⟩ := by
      have h00 : 0 < (R (S 0)).toList.length := by rw [Array.length_toList, hRs]; exact hs
      have h1 := hcell 0 (by omega) 0 _ (List.getElem?_eq_getElem h00)
      rw [Deep.add_add, Nat.zero_mul] at h1
      exact spot_is h1
    obtain ⟨b, o, sp⟩ := a
    simp only [Addr.mk.injEq, true_and] at ha
    subst ha
    refine ⟨b, o, rfl, ?_, fun j u hu => ?_⟩
    · rw [Addr.add_mid, Addr.add_mid] at hc0
      exact World.block_lt_of_cell? W _ hc0
    · have := hcell i hi j u hu
      rw [Addr.add_mid, Addr.add_mid] at this
      exact this
/-- an argument reads as it did -/
theorem arg_stay {H : Type} {enc : TypeId × Value → H} {W W' : World} {t : TypeId} {v : Value} {d : DataW H} {ps : List MemPlace} (hr : Tryd.prog.readableRec t = true) (hrow : t < Tryd.prog.types.size)
    (h : DataW.Trod enc Tryd.prog W 0 (fun _ => true) true t v d ps) (hB : Below W.heap.size W W') : DataW.Trod enc Tryd.prog W' 0 (fun b => decide (b < W.heap.size)) true t v d ps := by
  have hlt : ∀ x ∈ ps, x.block < W.heap.size := by obtain ⟨fuel, hf⟩ := h; exact DataW.trod_lt _ _ _ _ hf
  exact WideElems.Trod_stays Tryd.laidOut hr hrow h (fun x hx => by
    cases x with
    | cell b off => exact hB.cell (p := ⟨b, off, none⟩) (hlt _ hx)
    | map b => exact hB.block b (hlt _ hx)) (fun x hx => by simpa using hlt x hx)
end
end Go.Proofs.YtemgflkecflhmaaDoor
