/- Parts of texts for several laws: elementBytes, and the kit of the thin package's functions. The kit of the laws: arrays compared, regions that only make memory, number. Points: what projective coordinates stand for, sums by both roads, what a point is told by. Invert. The field's functions over values of the field. What the reference and the package compute of points, in numbers. checkInitialized: one point, two points. Kit: 32 bytes copied, a byte of a block read and written in a drawn region. Set, identity, Bytes of points; impl's pointOf, pointBytes. Point. -/
import Derived.BigRegion
import Derived.ChangeKeysEq
import Derived.Deep.DeepCutAuto
import Derived.Deep.Draws
import Derived.Deep.Fields
import Derived.Deep.MidRow
import Derived.Deep.Quiet
import Derived.Deep.RegionHeld3
import Derived.Deep.WholeRow
import Derived.Great.BuildSlice
import Derived.LaidMore
import Derived.Laws.AppendOwn
import Derived.Laws.Bits64b
import Derived.Laws.CopyOwn
import Derived.Laws.CopyRow
import Derived.Laws.Externs
import Derived.Laws.StructEq
import Derived.Laws.Tables
import Derived.Lib.Hide
import Derived.LoopTactic
import Derived.OpenShut
import Derived.ProofKit
import Derived.StillTailTactics
import Derived.Stop.Joined
import Derived.Test.YtcenlinpbpbpoaaDoorProg
import Derived.WalkKit
import Derived.WalkLawsBesides
import Derived.WalkSpells
import Derived.WideKeyArgs
import Derived.Test.YtcenlinpbpbpoaaDoorKHF1
import Derived.Test.YtcenlinpbpbpoaaDoorKHF3
import Derived.Test.YtcenlinpbpbpoaaDoorKHGr
import Derived.Test.YtcenlinpbpbpoaaDoorKHPI
import Derived.Test.YtcenlinpbpbpoaaDoorKHPO
import Derived.Test.YtcenlinpbpbpoaaDoorKHPP
import Derived.Test.YtcenlinpbpbpoaaDoorKHPS
import Derived.Test.YtcenlinpbpbpoaaDoorKHS8
import Derived.Test.YtcenlinpbpbpoaaDoorKHSQ
import Derived.Test.YtcenlinpbpbpoaaDoorKHSQB
import Derived.Test.YtcenlinpbpbpoaaDoorKHSQN
import Derived.Test.YtcenlinpbpbpoaaDoorKHSRD
import Derived.Test.YtcenlinpbpbpoaaDoorKHU1
import Derived.Test.YtcenlinpbpbpoaaDoorKHUM
import Derived.Test.YtcenlinpbpbpoaaDoorKHUN
import Derived.Test.YtcenlinpbpbpoaaDoorKHUS
import Derived.Test.YtcenlinpbpbpoaaDoorKHUSR
import Derived.Test.YtcenlinpbpbpoaaDoorKHUSe
import Derived.Test.YtcenlinpbpbpoaaDoorKL0
import Derived.Test.YtcenlinpbpbpoaaDoorKL1
import Derived.Test.YtcenlinpbpbpoaaDoorKL2
import Derived.Test.YtcenlinpbpbpoaaDoorKL3
import Derived.Test.YtcenlinpbpbpoaaDoorKL4
namespace Go.Proofs.YtcenlinpbpbpoaaDoor
set_option maxRecDepth 4000
set_option linter.unusedSimpArgs false
set_option linter.unusedVariables false
section
open Go.RowKit
theorem arrC_one (N : Nat) : (arrC N).all (·.oneCell') = true := by
  refine Array.all_eq_true_iff_forall_mem.2 fun v hv => ?_
  simp only [arrC, List.mem_toArray, List.mem_map] at hv
  obtain ⟨i, _, rfl⟩ := hv
  rfl
theorem underBs : Tryd.prog.underlying 26 = some (.slice 5) := by kernel_rfl
theorem info8 : (Tryd.prog.info? 5).map (·.size) = some 1 := by kernel_rfl
def zL : Array Value := #[.int .u8 0, .int .u8 0, .int .u8 0, .int .u8 0, .int .u8 0, .int .u8 0, .int .u8 0, .int .u8 0, .int .u8 0, .int .u8 0, .int .u8 0, .int .u8 0, .int .u8 0, .int .u8 0, .int .u8 0, .int .u8 0, .int .u8 0, .int .u8 0, .int .u8 0, .int .u8 0, .int .u8 0, .int .u8 0, .int .u8 0, .int .u8 0, .int .u8 0, .int .u8 0, .int .u8 0, .int .u8 0, .int .u8 0, .int .u8 0, .int .u8 0, .int .u8 0]
theorem zL_one : zL.all (·.oneCell') = true := by simp [zL, Value.oneCell']
theorem zL_size : zL.size = 32 := by simp [zL]
theorem zL_arr : zL = ((List.range 32).map (byV 0)).toArray := by
  have h : ∀ i, byV 0 i = .int .u8 0 := fun i => by simp [byV, byteN]
  simp [zL, h, List.range, List.range.loop]
end

section
open Go.RowKit
theorem bytes_all (x y : Nat) (hx : x < 256 ^ 32) (hy : y < 256 ^ 32) : ((List.range 32).all fun i => byteN x i == byteN y i) = decide (x = y) := by
  by_cases h : x = y
  · subst h; simp
  · have : ¬ ((List.range 32).all fun i => byteN x i == byteN y i) = true := by
      intro ha
      refine h ?_
      have := bytes_mod x y 32 (fun i hi => by
        have := List.all_eq_true.1 ha i (List.mem_range.2 hi)
        simpa using this)
      rwa [Nat.mod_eq_of_lt hx, Nat.mod_eq_of_lt hy] at this
    simp only [Bool.not_eq_true] at this
    rw [this]
    simp [h]
theorem plain8 : Tryd.prog.plainKey 5 = true := by kernel_rfl
theorem hasInfo8 : ∃ i, Tryd.prog.info? 5 = some i := by
  cases h : Tryd.prog.info? 5 with
  | none => have := info8; rw [h] at this; cases this
  | some i => exact ⟨i, rfl⟩
theorem arrC_get (N i : Nat) (hi : i < 32) : (arrC N)[i]? = some (.int .u8 ((byteN N i : Nat) : Int)) := arr_get N i hi
theorem run_items (d x y : Nat) (w : World) : ∀ l : List Nat, (∀ i, i ∈ l → i < 32) → (Op.eqItems (d + 1) 5 1 (arrC x) (arrC y) l).run Tryd.prog w = .ok (l.all fun i => byteN x i == byteN y i) w
  | [], _ => by simp [Op.eqItems]
  | i :: l, h => by
    have hi := h i (by simp)
    have ih := run_items d x y w l (fun j hj => h j (by simp [hj]))
    have e1 := run_part_plain (P := Tryd.prog) w plain8 (arrC_get x i hi)
    have e2 := run_part_plain (P := Tryd.prog) w plain8 (arrC_get y i hi)
    simp only [Op.eqItems, Sem.run_bind, Nat.mul_one]
    simp only [e1, e2, Result.andThen_ok, run_equalIn_int (P := Tryd.prog) (w := w) d 5 .u8 .u8 _ _ under8]
    by_cases hb : byteN x i = byteN y i
    · simp [hb, ih]
    · have hb' : ¬ ((byteN x i : Nat) : Int) = ((byteN y i : Nat) : Int) := by omega
      simp [hb, hb']
theorem run_eq_arr (x y : Nat) (hx : x < 256 ^ 32) (hy : y < 256 ^ 32) (w : World) : (Op.equalIn 10000 22 (.agg (arrC x)) (.agg (arrC y))).run Tryd.prog w = .ok (decide (x = y)) w := by
  obtain ⟨i, hi⟩ := hasInfo8
  rw [run_equalIn_array w 9999 (arrC x) (arrC y) under32 hi, cells8, run_items 9998 x y w (List.range 32) (fun i hi => List.mem_range.1 hi), bytes_all x y hx hy]
theorem Wr.arr {w w' : World} {b n : Nat} {cs : Array Value} {t : TypeId} {fr : Nat × Nat} (h : Wr w w' b 0 32 (byV n)) (hb : w.heap[b]? = some (.cells cs t fr)) (hs : cs.size = 32) : w'.heap[b]? = some (.cells (arrC n) t fr) := by
  obtain ⟨cs0, t0, fr0, cs', h0, h1, hs', hv⟩ := h.here
  rw [hb] at h0
  injection h0 with h0
  injection h0 with e1 e2 e3
  subst e1; subst e2; subst e3
  rw [h1, arr_ext n cs' (by omega) (fun i hi => by rw [hv i (by omega), if_pos (by omega)]; rfl)]
theorem zL_arrC : zL = arrC 0 := zL_arr
end

section
theorem Rp.affx {P : CP} {X Y Z : Fp} (h : Rp P X Y Z) : X * fpInv Z = P.x := by
  obtain ⟨hz, rfl, rfl⟩ := h
  have := fpInv_mul Z hz
  grind
theorem Rp.affy {P : CP} {X Y Z : Fp} (h : Rp P X Y Z) : Y * fpInv Z = P.y := by
  obtain ⟨hz, rfl, rfl⟩ := h
  have := fpInv_mul Z hz
  grind
theorem encN_lt (P : CP) : encN P < 256 ^ 32 := by
  have h := P.y.isLt
  unfold encN
  unfold pF at h
  split <;> omega
end

section
open Go.RowKit
set_option maxHeartbeats 4000000 in
theorem invert_fe (vb vo ab ao x v0 : Nat) (w : World) (hv : Fe w vb vo v0) (ha : Fe w ab ao x) :
    Calls Tryd.prog 104 #[.pointer (some ⟨vb, vo, none⟩), .pointer (some ⟨ab, ao, none⟩)] w fun e w' => e = .returned (.pointer (some ⟨vb, vo, none⟩)) ∧ Sets w w' vb vo (xp x 57896044618658097711785492504343953926634992332820282019728792003956564819947) := by
  have hvl := hv.lt; have hal := ha.lt
  have hxs := ha.small
  rw [← xp_one x hxs] at ha
  clear hxs
  go_enter Tryd.func104, Tryd.ntmps104
  go_wp2_with fail
  refine (square_fe (w.heap.size + 1 + 1) 0 ab ao _ _ _ (Fe.alloc (Fe.alloc (Fe.newz_at _ _ (by (try simp only [alloc_size, setRow_size]))) _) _) (Fe.alloc (Fe.alloc (Fe.alloc (Fe.alloc (Fe.alloc ha _) _) _) _) _) (xp x 2) (Lib.hid (xp_to x 1 1 2 rfl))).mono ?_
  rintro e w1 ⟨rfl, hC1⟩
  have hs1 : w.heap.size + 1 + 1 + 1 + 1 + 1 ≤ w1.heap.size := by have := hC1.size; (try simp only [alloc_size, setRow_size] at this); omega
  replace hv : Fe w1 (vb) (vo) (v0) := (Sets.others hC1 (Fe.alloc (Fe.alloc (Fe.alloc (Fe.alloc (Fe.alloc hv _) _) _) _) _) (by omega))
  replace ha : Fe w1 (ab) (ao) ((xp x 1)) := (Sets.others hC1 (Fe.alloc (Fe.alloc (Fe.alloc (Fe.alloc (Fe.alloc ha _) _) _) _) _) (by omega))
  replace h5 : Fe w1 (w.heap.size) (0) (0) := (Sets.others hC1 (Fe.alloc (Fe.alloc (Fe.alloc (Fe.alloc (Fe.newz_at _ _ rfl) _) _) _) _) (by omega))
  replace h6 : Fe w1 (w.heap.size + 1) (0) (0) := (Sets.others hC1 (Fe.alloc (Fe.alloc (Fe.alloc (Fe.newz_at _ _ (by (try simp only [alloc_size, setRow_size]))) _) _) _) (by omega))
  replace h8 : Fe w1 (w.heap.size + 1 + 1 + 1) (0) (0) := (Sets.others hC1 (Fe.alloc (Fe.newz_at _ _ (by (try simp only [alloc_size, setRow_size]))) _) (by omega))
  replace h9 : Fe w1 (w.heap.size + 1 + 1 + 1 + 1) (0) (0) := (Sets.others hC1 (Fe.newz_at _ _ (by (try simp only [alloc_size, setRow_size]))) (by omega))
  replace h7 : Fe w1 (w.heap.size + 1 + 1) (0) ((xp x 2)) := (Sets.fe' hC1 (Fe.alloc (Fe.alloc (Fe.newz_at _ _ (by (try simp only [alloc_size, setRow_size]))) _) _))
  have hBw1 : Hid (Below w.heap.size w w1) := Lib.hid ((below_alloc (below_alloc (below_alloc (below_alloc (below_alloc (Below.refl _ w) _) _) _) _) _).trans (hC1.below (by omega) (below_alloc (below_alloc (below_alloc (below_alloc (below_alloc (Below.refl _ w) _) _) _) _) _).size))
  clear hC1
  go_wp2_with fail
  refine (square_fe (w.heap.size + 1 + 1 + 1 + 1) 0 (w.heap.size + 1 + 1) 0 _ _ _ h9 h7 (xp x 4) (Lib.hid (xp_to x 2 2 4 rfl))).mono ?_
  rintro e w2 ⟨rfl, hC2⟩
  have hs2 : w1.heap.size ≤ w2.heap.size := by have := hC2.size; (try simp only [alloc_size, setRow_size] at this); omega
  replace hv : Fe w2 (vb) (vo) (v0) := (Sets.others hC2 hv (by omega))
  replace ha : Fe w2 (ab) (ao) ((xp x 1)) := (Sets.others hC2 ha (by omega))
  replace h5 : Fe w2 (w.heap.size) (0) (0) := (Sets.others hC2 h5 (by omega))
  replace h6 : Fe w2 (w.heap.size + 1) (0) (0) := (Sets.others hC2 h6 (by omega))
  replace h8 : Fe w2 (w.heap.size + 1 + 1 + 1) (0) (0) := (Sets.others hC2 h8 (by omega))
  replace h7 : Fe w2 (w.heap.size + 1 + 1) (0) ((xp x 2)) := (Sets.others hC2 h7 (by omega))
  replace h9 : Fe w2 (w.heap.size + 1 + 1 + 1 + 1) (0) ((xp x 4)) := (Sets.fe' hC2 h9)
  have hBw2 : Hid (Below w.heap.size w w2) := Lib.hid (hBw1.out.trans (hC2.below (by omega) hBw1.out.size))
  clear hC2
  go_wp2_with fail
  refine (square_fe (w.heap.size + 1 + 1 + 1 + 1) 0 (w.heap.size + 1 + 1 + 1 + 1) 0 _ _ _ h9 h9 (xp x 8) (Lib.hid (xp_to x 4 4 8 rfl))).mono ?_
  rintro e w3 ⟨rfl, hC3⟩
  have hs3 : w2.heap.size ≤ w3.heap.size := by have := hC3.size; (try simp only [alloc_size, setRow_size] at this); omega
  replace hv : Fe w3 (vb) (vo) (v0) := (Sets.others hC3 hv (by omega))
  replace ha : Fe w3 (ab) (ao) ((xp x 1)) := (Sets.others hC3 ha (by omega))
  replace h5 : Fe w3 (w.heap.size) (0) (0) := (Sets.others hC3 h5 (by omega))
  replace h6 : Fe w3 (w.heap.size + 1) (0) (0) := (Sets.others hC3 h6 (by omega))
  replace h8 : Fe w3 (w.heap.size + 1 + 1 + 1) (0) (0) := (Sets.others hC3 h8 (by omega))
  replace h7 : Fe w3 (w.heap.size + 1 + 1) (0) ((xp x 2)) := (Sets.others hC3 h7 (by omega))
  replace h9 : Fe w3 (w.heap.size + 1 + 1 + 1 + 1) (0) ((xp x 8)) := (Sets.fe' hC3 h9)
  have hBw3 : Hid (Below w.heap.size w w3) := Lib.hid (hBw2.out.trans (hC3.below (by omega) hBw2.out.size))
  clear hC3
  go_wp2_with fail
  refine (mul_fe (w.heap.size + 1 + 1 + 1) 0 (w.heap.size + 1 + 1 + 1 + 1) 0 ab ao _ _ _ _ h8 h9 ha (xp x 9) (Lib.hid (xp_to x 8 1 9 rfl))).mono ?_
  rintro e w4 ⟨rfl, hC4⟩
  have hs4 : w3.heap.size ≤ w4.heap.size := by have := hC4.size; (try simp only [alloc_size, setRow_size] at this); omega
  replace hv : Fe w4 (vb) (vo) (v0) := (Sets.others hC4 hv (by omega))
  replace ha : Fe w4 (ab) (ao) ((xp x 1)) := (Sets.others hC4 ha (by omega))
  replace h5 : Fe w4 (w.heap.size) (0) (0) := (Sets.others hC4 h5 (by omega))
  replace h6 : Fe w4 (w.heap.size + 1) (0) (0) := (Sets.others hC4 h6 (by omega))
  replace h7 : Fe w4 (w.heap.size + 1 + 1) (0) ((xp x 2)) := (Sets.others hC4 h7 (by omega))
  replace h9 : Fe w4 (w.heap.size + 1 + 1 + 1 + 1) (0) ((xp x 8)) := (Sets.others hC4 h9 (by omega))
  replace h8 : Fe w4 (w.heap.size + 1 + 1 + 1) (0) ((xp x 9)) := (Sets.fe' hC4 h8)
  have hBw4 : Hid (Below w.heap.size w w4) := Lib.hid (hBw3.out.trans (hC4.below (by omega) hBw3.out.size))
  clear hC4
  go_wp2_with fail
  refine (mul_fe (w.heap.size) 0 (w.heap.size + 1 + 1 + 1) 0 (w.heap.size + 1 + 1) 0 _ _ _ _ h5 h8 h7 (xp x 11) (Lib.hid (xp_to x 9 2 11 rfl))).mono ?_
  rintro e w5 ⟨rfl, hC5⟩
  have hs5 : w4.heap.size ≤ w5.heap.size := by have := hC5.size; (try simp only [alloc_size, setRow_size] at this); omega
  replace hv : Fe w5 (vb) (vo) (v0) := (Sets.others hC5 hv (by omega))
  replace ha : Fe w5 (ab) (ao) ((xp x 1)) := (Sets.others hC5 ha (by omega))
  replace h6 : Fe w5 (w.heap.size + 1) (0) (0) := (Sets.others hC5 h6 (by omega))
  replace h7 : Fe w5 (w.heap.size + 1 + 1) (0) ((xp x 2)) := (Sets.others hC5 h7 (by omega))
  replace h9 : Fe w5 (w.heap.size + 1 + 1 + 1 + 1) (0) ((xp x 8)) := (Sets.others hC5 h9 (by omega))
  replace h8 : Fe w5 (w.heap.size + 1 + 1 + 1) (0) ((xp x 9)) := (Sets.others hC5 h8 (by omega))
  replace h5 : Fe w5 (w.heap.size) (0) ((xp x 11)) := (Sets.fe' hC5 h5)
  have hBw5 : Hid (Below w.heap.size w w5) := Lib.hid (hBw4.out.trans (hC5.below (by omega) hBw4.out.size))
  clear hC5
  go_wp2_with fail
  refine (square_fe (w.heap.size + 1 + 1 + 1 + 1) 0 (w.heap.size) 0 _ _ _ h9 h5 (xp x 22) (Lib.hid (xp_to x 11 11 22 rfl))).mono ?_
  rintro e w6 ⟨rfl, hC6⟩
  have hs6 : w5.heap.size ≤ w6.heap.size := by have := hC6.size; (try simp only [alloc_size, setRow_size] at this); omega
  replace hv : Fe w6 (vb) (vo) (v0) := (Sets.others hC6 hv (by omega))
  replace ha : Fe w6 (ab) (ao) ((xp x 1)) := (Sets.others hC6 ha (by omega))
  replace h6 : Fe w6 (w.heap.size + 1) (0) (0) := (Sets.others hC6 h6 (by omega))
  replace h7 : Fe w6 (w.heap.size + 1 + 1) (0) ((xp x 2)) := (Sets.others hC6 h7 (by omega))
  replace h8 : Fe w6 (w.heap.size + 1 + 1 + 1) (0) ((xp x 9)) := (Sets.others hC6 h8 (by omega))
  replace h5 : Fe w6 (w.heap.size) (0) ((xp x 11)) := (Sets.others hC6 h5 (by omega))
  replace h9 : Fe w6 (w.heap.size + 1 + 1 + 1 + 1) (0) ((xp x 22)) := (Sets.fe' hC6 h9)
  have hBw6 : Hid (Below w.heap.size w w6) := Lib.hid (hBw5.out.trans (hC6.below (by omega) hBw5.out.size))
  clear hC6
  go_wp2_with fail
  refine (mul_fe (w.heap.size + 1) 0 (w.heap.size + 1 + 1 + 1 + 1) 0 (w.heap.size + 1 + 1 + 1) 0 _ _ _ _ h6 h9 h8 (xp x 31) (Lib.hid (xp_to x 22 9 31 rfl))).mono ?_
  rintro e w7 ⟨rfl, hC7⟩
  have hs7 : w6.heap.size ≤ w7.heap.size := by have := hC7.size; (try simp only [alloc_size, setRow_size] at this); omega
  replace hv : Fe w7 (vb) (vo) (v0) := (Sets.others hC7 hv (by omega))
  replace ha : Fe w7 (ab) (ao) ((xp x 1)) := (Sets.others hC7 ha (by omega))
  replace h7 : Fe w7 (w.heap.size + 1 + 1) (0) ((xp x 2)) := (Sets.others hC7 h7 (by omega))
  replace h8 : Fe w7 (w.heap.size + 1 + 1 + 1) (0) ((xp x 9)) := (Sets.others hC7 h8 (by omega))
  replace h5 : Fe w7 (w.heap.size) (0) ((xp x 11)) := (Sets.others hC7 h5 (by omega))
  replace h9 : Fe w7 (w.heap.size + 1 + 1 + 1 + 1) (0) ((xp x 22)) := (Sets.others hC7 h9 (by omega))
  replace h6 : Fe w7 (w.heap.size + 1) (0) ((xp x 31)) := (Sets.fe' hC7 h6)
  have hBw7 : Hid (Below w.heap.size w w7) := Lib.hid (hBw6.out.trans (hC7.below (by omega) hBw6.out.size))
  clear hC7
  go_wp2_with fail
  refine (squareN_fe (w.heap.size + 1 + 1 + 1 + 1) 0 (w.heap.size + 1) 0 _ _ 5 (by omega) _ h9 h6 (xp x 992) (Lib.hid (xp_of x 31 (2 ^ 5) 992 rfl))).mono ?_
  rintro e w8 ⟨rfl, hC8⟩
  have hs8 : w7.heap.size ≤ w8.heap.size := by have := hC8.size; (try simp only [alloc_size, setRow_size] at this); omega
  replace hv : Fe w8 (vb) (vo) (v0) := (Sets.others hC8 hv (by omega))
  replace ha : Fe w8 (ab) (ao) ((xp x 1)) := (Sets.others hC8 ha (by omega))
  replace h7 : Fe w8 (w.heap.size + 1 + 1) (0) ((xp x 2)) := (Sets.others hC8 h7 (by omega))
  replace h8 : Fe w8 (w.heap.size + 1 + 1 + 1) (0) ((xp x 9)) := (Sets.others hC8 h8 (by omega))
  replace h5 : Fe w8 (w.heap.size) (0) ((xp x 11)) := (Sets.others hC8 h5 (by omega))
  replace h6 : Fe w8 (w.heap.size + 1) (0) ((xp x 31)) := (Sets.others hC8 h6 (by omega))
  replace h9 : Fe w8 (w.heap.size + 1 + 1 + 1 + 1) (0) ((xp x 992)) := (Sets.fe' hC8 h9)
  have hBw8 : Hid (Below w.heap.size w w8) := Lib.hid (hBw7.out.trans (hC8.below (by omega) hBw7.out.size))
  clear hC8
  go_wp2_with fail
  refine (mul_fe (w.heap.size + 1 + 1 + 1) 0 (w.heap.size + 1 + 1 + 1 + 1) 0 (w.heap.size + 1) 0 _ _ _ _ h8 h9 h6 (xp x 1023) (Lib.hid (xp_to x 992 31 1023 rfl))).mono ?_
  rintro e w9 ⟨rfl, hC9⟩
  have hs9 : w8.heap.size ≤ w9.heap.size := by have := hC9.size; (try simp only [alloc_size, setRow_size] at this); omega
  replace hv : Fe w9 (vb) (vo) (v0) := (Sets.others hC9 hv (by omega))
  replace ha : Fe w9 (ab) (ao) ((xp x 1)) := (Sets.others hC9 ha (by omega))
  replace h7 : Fe w9 (w.heap.size + 1 + 1) (0) ((xp x 2)) := (Sets.others hC9 h7 (by omega))
  replace h5 : Fe w9 (w.heap.size) (0) ((xp x 11)) := (Sets.others hC9 h5 (by omega))
  replace h6 : Fe w9 (w.heap.size + 1) (0) ((xp x 31)) := (Sets.others hC9 h6 (by omega))
  replace h9 : Fe w9 (w.heap.size + 1 + 1 + 1 + 1) (0) ((xp x 992)) := (Sets.others hC9 h9 (by omega))
  replace h8 : Fe w9 (w.heap.size + 1 + 1 + 1) (0) ((xp x 1023)) := (Sets.fe' hC9 h8)
  have hBw9 : Hid (Below w.heap.size w w9) := Lib.hid (hBw8.out.trans (hC9.below (by omega) hBw8.out.size))
  clear hC9
  go_wp2_with fail
  refine (squareN_fe (w.heap.size + 1 + 1 + 1 + 1) 0 (w.heap.size + 1 + 1 + 1) 0 _ _ 5 (by omega) _ h9 h8 (xp x 32736) (Lib.hid (xp_of x 1023 (2 ^ 5) 32736 rfl))).mono ?_
  rintro e w10 ⟨rfl, hC10⟩
  have hs10 : w9.heap.size ≤ w10.heap.size := by have := hC10.size; (try simp only [alloc_size, setRow_size] at this); omega
  replace hv : Fe w10 (vb) (vo) (v0) := (Sets.others hC10 hv (by omega))
  replace ha : Fe w10 (ab) (ao) ((xp x 1)) := (Sets.others hC10 ha (by omega))
  replace h7 : Fe w10 (w.heap.size + 1 + 1) (0) ((xp x 2)) := (Sets.others hC10 h7 (by omega))
  replace h5 : Fe w10 (w.heap.size) (0) ((xp x 11)) := (Sets.others hC10 h5 (by omega))
  replace h6 : Fe w10 (w.heap.size + 1) (0) ((xp x 31)) := (Sets.others hC10 h6 (by omega))
  replace h8 : Fe w10 (w.heap.size + 1 + 1 + 1) (0) ((xp x 1023)) := (Sets.others hC10 h8 (by omega))
  replace h9 : Fe w10 (w.heap.size + 1 + 1 + 1 + 1) (0) ((xp x 32736)) := (Sets.fe' hC10 h9)
  have hBw10 : Hid (Below w.heap.size w w10) := Lib.hid (hBw9.out.trans (hC10.below (by omega) hBw9.out.size))
  clear hC10
  go_wp2_with fail
  refine (mul_fe (w.heap.size + 1) 0 (w.heap.size + 1 + 1 + 1 + 1) 0 (w.heap.size + 1) 0 _ _ _ _ h6 h9 h6 (xp x 32767) (Lib.hid (xp_to x 32736 31 32767 rfl))).mono ?_
  rintro e w11 ⟨rfl, hC11⟩
  have hs11 : w10.heap.size ≤ w11.heap.size := by have := hC11.size; (try simp only [alloc_size, setRow_size] at this); omega
  replace hv : Fe w11 (vb) (vo) (v0) := (Sets.others hC11 hv (by omega))
  replace ha : Fe w11 (ab) (ao) ((xp x 1)) := (Sets.others hC11 ha (by omega))
  replace h7 : Fe w11 (w.heap.size + 1 + 1) (0) ((xp x 2)) := (Sets.others hC11 h7 (by omega))
  replace h5 : Fe w11 (w.heap.size) (0) ((xp x 11)) := (Sets.others hC11 h5 (by omega))
  replace h8 : Fe w11 (w.heap.size + 1 + 1 + 1) (0) ((xp x 1023)) := (Sets.others hC11 h8 (by omega))
  replace h9 : Fe w11 (w.heap.size + 1 + 1 + 1 + 1) (0) ((xp x 32736)) := (Sets.others hC11 h9 (by omega))
  replace h6 : Fe w11 (w.heap.size + 1) (0) ((xp x 32767)) := (Sets.fe' hC11 h6)
  have hBw11 : Hid (Below w.heap.size w w11) := Lib.hid (hBw10.out.trans (hC11.below (by omega) hBw10.out.size))
  clear hC11
  go_wp2_with fail
  refine (squareN_fe (w.heap.size + 1 + 1 + 1 + 1) 0 (w.heap.size + 1) 0 _ _ 15 (by omega) _ h9 h6 (xp x 1073709056) (Lib.hid (xp_of x 32767 (2 ^ 15) 1073709056 rfl))).mono ?_
  rintro e w12 ⟨rfl, hC12⟩
  have hs12 : w11.heap.size ≤ w12.heap.size := by have := hC12.size; (try simp only [alloc_size, setRow_size] at this); omega
  replace hv : Fe w12 (vb) (vo) (v0) := (Sets.others hC12 hv (by omega))
  replace ha : Fe w12 (ab) (ao) ((xp x 1)) := (Sets.others hC12 ha (by omega))
  replace h7 : Fe w12 (w.heap.size + 1 + 1) (0) ((xp x 2)) := (Sets.others hC12 h7 (by omega))
  replace h5 : Fe w12 (w.heap.size) (0) ((xp x 11)) := (Sets.others hC12 h5 (by omega))
  replace h8 : Fe w12 (w.heap.size + 1 + 1 + 1) (0) ((xp x 1023)) := (Sets.others hC12 h8 (by omega))
  replace h6 : Fe w12 (w.heap.size + 1) (0) ((xp x 32767)) := (Sets.others hC12 h6 (by omega))
  replace h9 : Fe w12 (w.heap.size + 1 + 1 + 1 + 1) (0) ((xp x 1073709056)) := (Sets.fe' hC12 h9)
  have hBw12 : Hid (Below w.heap.size w w12) := Lib.hid (hBw11.out.trans (hC12.below (by omega) hBw11.out.size))
  clear hC12
  go_wp2_with fail
  refine (mul_fe (w.heap.size + 1 + 1) 0 (w.heap.size + 1 + 1 + 1 + 1) 0 (w.heap.size + 1) 0 _ _ _ _ h7 h9 h6 (xp x 1073741823) (Lib.hid (xp_to x 1073709056 32767 1073741823 rfl))).mono ?_
  rintro e w13 ⟨rfl, hC13⟩
  have hs13 : w12.heap.size ≤ w13.heap.size := by have := hC13.size; (try simp only [alloc_size, setRow_size] at this); omega
  replace hv : Fe w13 (vb) (vo) (v0) := (Sets.others hC13 hv (by omega))
  replace ha : Fe w13 (ab) (ao) ((xp x 1)) := (Sets.others hC13 ha (by omega))
  replace h5 : Fe w13 (w.heap.size) (0) ((xp x 11)) := (Sets.others hC13 h5 (by omega))
  replace h8 : Fe w13 (w.heap.size + 1 + 1 + 1) (0) ((xp x 1023)) := (Sets.others hC13 h8 (by omega))
  replace h6 : Fe w13 (w.heap.size + 1) (0) ((xp x 32767)) := (Sets.others hC13 h6 (by omega))
  replace h9 : Fe w13 (w.heap.size + 1 + 1 + 1 + 1) (0) ((xp x 1073709056)) := (Sets.others hC13 h9 (by omega))
  replace h7 : Fe w13 (w.heap.size + 1 + 1) (0) ((xp x 1073741823)) := (Sets.fe' hC13 h7)
  have hBw13 : Hid (Below w.heap.size w w13) := Lib.hid (hBw12.out.trans (hC13.below (by omega) hBw12.out.size))
  clear hC13
  go_wp2_with fail
  refine (squareN_fe (w.heap.size + 1 + 1 + 1 + 1) 0 (w.heap.size + 1 + 1) 0 _ _ 30 (by omega) _ h9 h7 (xp x 1152921503533105152) (Lib.hid (xp_of x 1073741823 (2 ^ 30) 1152921503533105152 rfl))).mono ?_
  rintro e w14 ⟨rfl, hC14⟩
  have hs14 : w13.heap.size ≤ w14.heap.size := by have := hC14.size; (try simp only [alloc_size, setRow_size] at this); omega
  replace hv : Fe w14 (vb) (vo) (v0) := (Sets.others hC14 hv (by omega))
  replace ha : Fe w14 (ab) (ao) ((xp x 1)) := (Sets.others hC14 ha (by omega))
  replace h5 : Fe w14 (w.heap.size) (0) ((xp x 11)) := (Sets.others hC14 h5 (by omega))
  replace h8 : Fe w14 (w.heap.size + 1 + 1 + 1) (0) ((xp x 1023)) := (Sets.others hC14 h8 (by omega))
  replace h6 : Fe w14 (w.heap.size + 1) (0) ((xp x 32767)) := (Sets.others hC14 h6 (by omega))
  replace h7 : Fe w14 (w.heap.size + 1 + 1) (0) ((xp x 1073741823)) := (Sets.others hC14 h7 (by omega))
  replace h9 : Fe w14 (w.heap.size + 1 + 1 + 1 + 1) (0) ((xp x 1152921503533105152)) := (Sets.fe' hC14 h9)
  have hBw14 : Hid (Below w.heap.size w w14) := Lib.hid (hBw13.out.trans (hC14.below (by omega) hBw13.out.size))
  clear hC14
  go_wp2_with fail
  refine (mul_fe (w.heap.size + 1) 0 (w.heap.size + 1 + 1 + 1 + 1) 0 (w.heap.size + 1 + 1) 0 _ _ _ _ h6 h9 h7 (xp x 1152921504606846975) (Lib.hid (xp_to x 1152921503533105152 1073741823 1152921504606846975 rfl))).mono ?_
  rintro e w15 ⟨rfl, hC15⟩
  have hs15 : w14.heap.size ≤ w15.heap.size := by have := hC15.size; (try simp only [alloc_size, setRow_size] at this); omega
  replace hv : Fe w15 (vb) (vo) (v0) := (Sets.others hC15 hv (by omega))
  replace ha : Fe w15 (ab) (ao) ((xp x 1)) := (Sets.others hC15 ha (by omega))
  replace h5 : Fe w15 (w.heap.size) (0) ((xp x 11)) := (Sets.others hC15 h5 (by omega))
  replace h8 : Fe w15 (w.heap.size + 1 + 1 + 1) (0) ((xp x 1023)) := (Sets.others hC15 h8 (by omega))
  replace h7 : Fe w15 (w.heap.size + 1 + 1) (0) ((xp x 1073741823)) := (Sets.others hC15 h7 (by omega))
  replace h9 : Fe w15 (w.heap.size + 1 + 1 + 1 + 1) (0) ((xp x 1152921503533105152)) := (Sets.others hC15 h9 (by omega))
  replace h6 : Fe w15 (w.heap.size + 1) (0) ((xp x 1152921504606846975)) := (Sets.fe' hC15 h6)
  have hBw15 : Hid (Below w.heap.size w w15) := Lib.hid (hBw14.out.trans (hC15.below (by omega) hBw14.out.size))
  clear hC15
  go_wp2_with fail
  refine (squareN_fe (w.heap.size + 1 + 1 + 1 + 1) 0 (w.heap.size + 1) 0 _ _ 60 (by omega) _ h9 h6 (xp x 1329227995784915871750885555673497600) (Lib.hid (xp_of x 1152921504606846975 (2 ^ 60) 1329227995784915871750885555673497600 rfl))).mono ?_
  rintro e w16 ⟨rfl, hC16⟩
  have hs16 : w15.heap.size ≤ w16.heap.size := by have := hC16.size; (try simp only [alloc_size, setRow_size] at this); omega
  replace hv : Fe w16 (vb) (vo) (v0) := (Sets.others hC16 hv (by omega))
  replace ha : Fe w16 (ab) (ao) ((xp x 1)) := (Sets.others hC16 ha (by omega))
  replace h5 : Fe w16 (w.heap.size) (0) ((xp x 11)) := (Sets.others hC16 h5 (by omega))
  replace h8 : Fe w16 (w.heap.size + 1 + 1 + 1) (0) ((xp x 1023)) := (Sets.others hC16 h8 (by omega))
  replace h7 : Fe w16 (w.heap.size + 1 + 1) (0) ((xp x 1073741823)) := (Sets.others hC16 h7 (by omega))
  replace h6 : Fe w16 (w.heap.size + 1) (0) ((xp x 1152921504606846975)) := (Sets.others hC16 h6 (by omega))
  replace h9 : Fe w16 (w.heap.size + 1 + 1 + 1 + 1) (0) ((xp x 1329227995784915871750885555673497600)) := (Sets.fe' hC16 h9)
  have hBw16 : Hid (Below w.heap.size w w16) := Lib.hid (hBw15.out.trans (hC16.below (by omega) hBw15.out.size))
  clear hC16
  go_wp2_with fail
  refine (mul_fe (w.heap.size + 1 + 1) 0 (w.heap.size + 1 + 1 + 1 + 1) 0 (w.heap.size + 1) 0 _ _ _ _ h7 h9 h6 (xp x 1329227995784915872903807060280344575) (Lib.hid (xp_to x 1329227995784915871750885555673497600 1152921504606846975 1329227995784915872903807060280344575 rfl))).mono ?_
  rintro e w17 ⟨rfl, hC17⟩
  have hs17 : w16.heap.size ≤ w17.heap.size := by have := hC17.size; (try simp only [alloc_size, setRow_size] at this); omega
  replace hv : Fe w17 (vb) (vo) (v0) := (Sets.others hC17 hv (by omega))
  replace ha : Fe w17 (ab) (ao) ((xp x 1)) := (Sets.others hC17 ha (by omega))
  replace h5 : Fe w17 (w.heap.size) (0) ((xp x 11)) := (Sets.others hC17 h5 (by omega))
  replace h8 : Fe w17 (w.heap.size + 1 + 1 + 1) (0) ((xp x 1023)) := (Sets.others hC17 h8 (by omega))
  replace h6 : Fe w17 (w.heap.size + 1) (0) ((xp x 1152921504606846975)) := (Sets.others hC17 h6 (by omega))
  replace h9 : Fe w17 (w.heap.size + 1 + 1 + 1 + 1) (0) ((xp x 1329227995784915871750885555673497600)) := (Sets.others hC17 h9 (by omega))
  replace h7 : Fe w17 (w.heap.size + 1 + 1) (0) ((xp x 1329227995784915872903807060280344575)) := (Sets.fe' hC17 h7)
  have hBw17 : Hid (Below w.heap.size w w17) := Lib.hid (hBw16.out.trans (hC17.below (by omega) hBw16.out.size))
  clear hC17
  go_wp2_with fail
  refine (squareN_fe (w.heap.size + 1 + 1 + 1 + 1) 0 (w.heap.size + 1 + 1) 0 _ _ 120 (by omega) _ h9 h7 (xp x 1766847064778384329583297500742918514498255901090703085217799141012275200) (Lib.hid (xp_of x 1329227995784915872903807060280344575 (2 ^ 120) 1766847064778384329583297500742918514498255901090703085217799141012275200 rfl))).mono ?_
  rintro e w18 ⟨rfl, hC18⟩
  have hs18 : w17.heap.size ≤ w18.heap.size := by have := hC18.size; (try simp only [alloc_size, setRow_size] at this); omega
  replace hv : Fe w18 (vb) (vo) (v0) := (Sets.others hC18 hv (by omega))
  replace ha : Fe w18 (ab) (ao) ((xp x 1)) := (Sets.others hC18 ha (by omega))
  replace h5 : Fe w18 (w.heap.size) (0) ((xp x 11)) := (Sets.others hC18 h5 (by omega))
  replace h8 : Fe w18 (w.heap.size + 1 + 1 + 1) (0) ((xp x 1023)) := (Sets.others hC18 h8 (by omega))
  replace h6 : Fe w18 (w.heap.size + 1) (0) ((xp x 1152921504606846975)) := (Sets.others hC18 h6 (by omega))
  replace h7 : Fe w18 (w.heap.size + 1 + 1) (0) ((xp x 1329227995784915872903807060280344575)) := (Sets.others hC18 h7 (by omega))
  replace h9 : Fe w18 (w.heap.size + 1 + 1 + 1 + 1) (0) ((xp x 1766847064778384329583297500742918514498255901090703085217799141012275200)) := (Sets.fe' hC18 h9)
  have hBw18 : Hid (Below w.heap.size w w18) := Lib.hid (hBw17.out.trans (hC18.below (by omega) hBw17.out.size))
  clear hC18
  go_wp2_with fail
  refine (mul_fe (w.heap.size + 1 + 1 + 1 + 1) 0 (w.heap.size + 1 + 1 + 1 + 1) 0 (w.heap.size + 1 + 1) 0 _ _ _ _ h9 h9 h7 (xp x 1766847064778384329583297500742918515827483896875618958121606201292619775) (Lib.hid (xp_to x 1766847064778384329583297500742918514498255901090703085217799141012275200 1329227995784915872903807060280344575 1766847064778384329583297500742918515827483896875618958121606201292619775 rfl))).mono ?_
  rintro e w19 ⟨rfl, hC19⟩
  have hs19 : w18.heap.size ≤ w19.heap.size := by have := hC19.size; (try simp only [alloc_size, setRow_size] at this); omega
  replace hv : Fe w19 (vb) (vo) (v0) := (Sets.others hC19 hv (by omega))
  replace ha : Fe w19 (ab) (ao) ((xp x 1)) := (Sets.others hC19 ha (by omega))
  replace h5 : Fe w19 (w.heap.size) (0) ((xp x 11)) := (Sets.others hC19 h5 (by omega))
  replace h8 : Fe w19 (w.heap.size + 1 + 1 + 1) (0) ((xp x 1023)) := (Sets.others hC19 h8 (by omega))
  replace h6 : Fe w19 (w.heap.size + 1) (0) ((xp x 1152921504606846975)) := (Sets.others hC19 h6 (by omega))
  replace h7 : Fe w19 (w.heap.size + 1 + 1) (0) ((xp x 1329227995784915872903807060280344575)) := (Sets.others hC19 h7 (by omega))
  replace h9 : Fe w19 (w.heap.size + 1 + 1 + 1 + 1) (0) ((xp x 1766847064778384329583297500742918515827483896875618958121606201292619775)) := (Sets.fe' hC19 h9)
  have hBw19 : Hid (Below w.heap.size w w19) := Lib.hid (hBw18.out.trans (hC19.below (by omega) hBw18.out.size))
  clear hC19
  go_wp2_with fail
  refine (squareN_fe (w.heap.size + 1 + 1 + 1 + 1) 0 (w.heap.size + 1 + 1 + 1 + 1) 0 _ _ 10 (by omega) _ h9 h9 (xp x 1809251394333065553493296640760748560207343510400633813116524750123642649600) (Lib.hid (xp_of x 1766847064778384329583297500742918515827483896875618958121606201292619775 (2 ^ 10) 1809251394333065553493296640760748560207343510400633813116524750123642649600 rfl))).mono ?_
  rintro e w20 ⟨rfl, hC20⟩
  have hs20 : w19.heap.size ≤ w20.heap.size := by have := hC20.size; (try simp only [alloc_size, setRow_size] at this); omega
  replace hv : Fe w20 (vb) (vo) (v0) := (Sets.others hC20 hv (by omega))
  replace ha : Fe w20 (ab) (ao) ((xp x 1)) := (Sets.others hC20 ha (by omega))
  replace h5 : Fe w20 (w.heap.size) (0) ((xp x 11)) := (Sets.others hC20 h5 (by omega))
  replace h8 : Fe w20 (w.heap.size + 1 + 1 + 1) (0) ((xp x 1023)) := (Sets.others hC20 h8 (by omega))
  replace h6 : Fe w20 (w.heap.size + 1) (0) ((xp x 1152921504606846975)) := (Sets.others hC20 h6 (by omega))
  replace h7 : Fe w20 (w.heap.size + 1 + 1) (0) ((xp x 1329227995784915872903807060280344575)) := (Sets.others hC20 h7 (by omega))
  replace h9 : Fe w20 (w.heap.size + 1 + 1 + 1 + 1) (0) ((xp x 1809251394333065553493296640760748560207343510400633813116524750123642649600)) := (Sets.fe' hC20 h9)
  have hBw20 : Hid (Below w.heap.size w w20) := Lib.hid (hBw19.out.trans (hC20.below (by omega) hBw19.out.size))
  clear hC20
  go_wp2_with fail
  refine (mul_fe (w.heap.size + 1 + 1 + 1 + 1) 0 (w.heap.size + 1 + 1 + 1 + 1) 0 (w.heap.size + 1 + 1 + 1) 0 _ _ _ _ h9 h9 h8 (xp x 1809251394333065553493296640760748560207343510400633813116524750123642650623) (Lib.hid (xp_to x 1809251394333065553493296640760748560207343510400633813116524750123642649600 1023 1809251394333065553493296640760748560207343510400633813116524750123642650623 rfl))).mono ?_
  rintro e w21 ⟨rfl, hC21⟩
  have hs21 : w20.heap.size ≤ w21.heap.size := by have := hC21.size; (try simp only [alloc_size, setRow_size] at this); omega
  replace hv : Fe w21 (vb) (vo) (v0) := (Sets.others hC21 hv (by omega))
  replace ha : Fe w21 (ab) (ao) ((xp x 1)) := (Sets.others hC21 ha (by omega))
  replace h5 : Fe w21 (w.heap.size) (0) ((xp x 11)) := (Sets.others hC21 h5 (by omega))
  replace h8 : Fe w21 (w.heap.size + 1 + 1 + 1) (0) ((xp x 1023)) := (Sets.others hC21 h8 (by omega))
  replace h6 : Fe w21 (w.heap.size + 1) (0) ((xp x 1152921504606846975)) := (Sets.others hC21 h6 (by omega))
  replace h7 : Fe w21 (w.heap.size + 1 + 1) (0) ((xp x 1329227995784915872903807060280344575)) := (Sets.others hC21 h7 (by omega))
  replace h9 : Fe w21 (w.heap.size + 1 + 1 + 1 + 1) (0) ((xp x 1809251394333065553493296640760748560207343510400633813116524750123642650623)) := (Sets.fe' hC21 h9)
  have hBw21 : Hid (Below w.heap.size w w21) := Lib.hid (hBw20.out.trans (hC21.below (by omega) hBw20.out.size))
  clear hC21
  go_wp2_with fail
  refine (squareN_fe (w.heap.size + 1 + 1 + 1 + 1) 0 (w.heap.size + 1 + 1 + 1 + 1) 0 _ _ 5 (by omega) _ h9 h9 (xp x 57896044618658097711785492504343953926634992332820282019728792003956564819936) (Lib.hid (xp_of x 1809251394333065553493296640760748560207343510400633813116524750123642650623 (2 ^ 5) 57896044618658097711785492504343953926634992332820282019728792003956564819936 rfl))).mono ?_
  rintro e w22 ⟨rfl, hC22⟩
  have hs22 : w21.heap.size ≤ w22.heap.size := by have := hC22.size; (try simp only [alloc_size, setRow_size] at this); omega
  replace hv : Fe w22 (vb) (vo) (v0) := (Sets.others hC22 hv (by omega))
  replace ha : Fe w22 (ab) (ao) ((xp x 1)) := (Sets.others hC22 ha (by omega))
  replace h5 : Fe w22 (w.heap.size) (0) ((xp x 11)) := (Sets.others hC22 h5 (by omega))
  replace h8 : Fe w22 (w.heap.size + 1 + 1 + 1) (0) ((xp x 1023)) := (Sets.others hC22 h8 (by omega))
  replace h6 : Fe w22 (w.heap.size + 1) (0) ((xp x 1152921504606846975)) := (Sets.others hC22 h6 (by omega))
  replace h7 : Fe w22 (w.heap.size + 1 + 1) (0) ((xp x 1329227995784915872903807060280344575)) := (Sets.others hC22 h7 (by omega))
  replace h9 : Fe w22 (w.heap.size + 1 + 1 + 1 + 1) (0) ((xp x 57896044618658097711785492504343953926634992332820282019728792003956564819936)) := (Sets.fe' hC22 h9)
  have hBw22 : Hid (Below w.heap.size w w22) := Lib.hid (hBw21.out.trans (hC22.below (by omega) hBw21.out.size))
  clear hC22
  go_wp2_with fail
  refine (mul_fe vb vo (w.heap.size + 1 + 1 + 1 + 1) 0 (w.heap.size) 0 _ _ _ _ hv h9 h5 (xp x 57896044618658097711785492504343953926634992332820282019728792003956564819947) (Lib.hid (xp_to x 57896044618658097711785492504343953926634992332820282019728792003956564819936 11 57896044618658097711785492504343953926634992332820282019728792003956564819947 rfl))).mono ?_
  rintro e wf ⟨rfl, hC⟩
  go_wp2
  go_ret
  exact ⟨rfl, Sets.ahead hBw22.out hC hvl⟩
end

section
open Go.RowKit
theorem invert_ff (vb vo ab ao : Nat) (a : Fp) (v0 : Nat) (w : World) (hv : Fe w vb vo v0) (ha : Fe w ab ao a.val) (R : Fp) (hR : Hid (R = fpInv a)) :
    Calls Tryd.prog 104 #[.pointer (some ⟨vb, vo, none⟩), .pointer (some ⟨ab, ao, none⟩)] w fun e w' => e = .returned (.pointer (some ⟨vb, vo, none⟩)) ∧ Sets w w' vb vo R.val := by
  rw [hR.out, finv_val a 57896044618658097711785492504343953926634992332820282019728792003956564819947 (by unfold pF; omega)]
  exact invert_fe vb vo ab ao _ v0 w hv ha
end

section
theorem top_lt (N : Nat) (h : N < 57896044618658097711785492504343953926634992332820282019728792003956564819968) : byteN N 31 < 128 := by unfold byteN; omega
theorem top_set (N : Nat) (h : N < 57896044618658097711785492504343953926634992332820282019728792003956564819968) (i : Nat) (hi : i < 32) :
    byV (N + 57896044618658097711785492504343953926634992332820282019728792003956564819968) i = if i = 31 then .int .u8 ((byteN N 31 + 128 : Nat) : Int) else byV N i := by
  unfold byV
  have h' : ∀ j, j < 31 → byteN (N + 57896044618658097711785492504343953926634992332820282019728792003956564819968) j = byteN N j := by
    intro j hj
    have e : (N + 57896044618658097711785492504343953926634992332820282019728792003956564819968) % 256 ^ 31 = N % 256 ^ 31 := by omega
    rw [← byteN_mod _ 31 j hj, e, byteN_mod _ 31 j hj]
  by_cases e : i = 31
  · subst e
    rw [if_pos rfl]
    congr 2
    unfold byteN
    omega
  · rw [if_neg e, h' i (by omega)]
end

section
open Go.RowKit
theorem checkInit1 (sb b o : Nat) (P : CP) (X Y Z : Fp) (h : Rp P X Y Z) (T : TypeId) (w : World) (hs : w.heap[sb]? = some (.cells #[.pointer (some ⟨b, o, none⟩)] T (0, 0))) (hx : Fe w b o X.val) (hy : Fe w b (o + 5) Y.val) :
    Calls Tryd.prog 41 #[.slice (some ⟨sb, 0, none⟩) 1 1] w fun e w' => e = .returned (.tuple #[]) ∧ Below w.heap.size w w' := by
  obtain ⟨L, hL, _, vL⟩ := hx
  obtain ⟨M, hM, _, vM⟩ := hy
  exact checkInit_any sb 1 (fun _ => b) (fun _ => o) (fun _ => L) (fun _ => M) w
    (Lib.hid ⟨_, T, (0, 0), hs, fun i hi => ⟨by have h0 : i = 0 := (by omega); subst h0; rfl, by simp⟩⟩)
    (Lib.hid fun _ _ => hL) (Lib.hid fun _ _ => hM) (Lib.hid fun _ _ => not_both h vL vM) (by omega)
end

section
open Go.RowKit
theorem ready_copy32 {ops : Array Oper} {o : Oper} {a : Act} {w : World} {K : Act → World → Prop} {Q : Exit → Act → World → Prop} (hw : Region.wanted o (yielded ops a.tmps) = true) (d : Option Tmp) (hdst : o.dst = d) (x y : Operand)
    (ho : o.op = .call { callee := .builtin .copy, args := #[x, y], argTypes := #[26, 26] })
    (g sb so dCap sCap N : Nat) (hd : a.eval x = .slice (some ⟨g, 0, none⟩) 32 dCap) (hs : a.eval y = .slice (some ⟨sb, so, none⟩) 32 sCap) (cur : Array Value) (hcur : cur.size = 32) (t : TypeId) (hg : w.heap[g]? = some (.cells cur t (0, 0)))
    (hrow : Row w sb so 32 (byV N)) (h : K (a.put d (.int .i64 32)) (w.setRow g (arrC N))) :
    if Region.wanted o (yielded ops a.tmps) = true then Oper.wp Tryd.prog o a w K Q else K (a.put o.dst undef) w := by
  subst hdst
  rw [if_pos hw]
  have hlen : ((List.range 32).map (byV N)).length = 32 := by simp
  have hrun := run_copy_row (P := Tryd.prog) w 26 26 o.type 5 g 0 32 dCap ⟨sb, so, none⟩ 32 sCap cur t ((List.range 32).map (byV N)) underBs info8 hg (by simp)
    (by
      intro j v hv
      have hj : j < 32 := by
        have := (List.getElem?_eq_some_iff.1 hv).1
        simpa using this
      have e : v = byV N j := by
        have : ((List.range 32).map (byV N))[j]? = some (byV N j) := by simp [hj]
        rw [this] at hv
        exact (Option.some.inj hv).symm
      rw [e, Addr.add_mid]
      exact hrow.cell hj)
    (by rw [hlen]; omega)
    (by
      intro v hv
      obtain ⟨i, _, rfl⟩ := List.mem_map.1 hv
      rfl)
  have e2 : (cur.toList.take 0 ++ (List.range 32).map (byV N) ++ cur.toList.drop (0 + ((List.range 32).map (byV N)).length)).toArray = arrC N := by
    rw [hlen]
    simp [hcur, arrC]
  rw [e2, hlen] at hrun
  unfold Oper.wp
  simp only [execOp, ho, resolve, invoke, builtin]
  simp [hd, hs, hrun, Result.andThen]
  exact h
theorem ready_skip {P : Program} {ops : Array Oper} {o : Oper} {a : Act} {w : World} {K : Act → World → Prop} {Q : Exit → Act → World → Prop} (hw : Region.wanted o (yielded ops a.tmps) = true) (d : Option Tmp) (hd : o.dst = d) (w' : World)
    (hrun : (execOp a.eval o).run P w = .ok .skip w') (h : K (a.put d undef) w') :
    if Region.wanted o (yielded ops a.tmps) = true then Oper.wp P o a w K Q else K (a.put o.dst undef) w := by
  subst hd
  rw [if_pos hw]
  unfold Oper.wp
  rw [hrun]
  exact h
theorem setCell_blk {w : World} {b : Nat} {cs : Array Value} {t : TypeId} {fr : Nat × Nat} (h : w.heap[b]? = some (.cells cs t fr)) (i : Nat) (v : Value) : (w.setCell ⟨b, i, none⟩ v).heap[b]? = some (.cells (cs.setIfInBounds i v) t fr) := by
  simp [World.setCell, Array.getElem?_modify, h]
theorem setCell_other (w : World) (b k i : Nat) {v : Value} (hne : k ≠ b) : (w.setCell ⟨b, i, none⟩ v).heap[k]? = w.heap[k]? := Below.heap_setCell _ _ _ _ hne
theorem setCell_size (w : World) (a : Addr) (v : Value) : (w.setCell a v).heap.size = w.heap.size := by simp [World.setCell]
theorem below_setCell {B : Nat} {w w1 : World} (h : Below B w w1) {b : Nat} (hb : B ≤ b) (i : Nat) (v : Value) : Below B w (w1.setCell ⟨b, i, none⟩ v) :=
  ⟨h.os, h.tape, h.output, by rw [setCell_size]; exact h.size, fun k hk => (setCell_other _ _ _ _ (by omega)).trans (h.block k hk)⟩
/-- byte 31 written: the highest bit set -/
theorem arr_top (N : Nat) (h : N < 57896044618658097711785492504343953926634992332820282019728792003956564819968) : (arrC N).setIfInBounds 31 (.int .u8 ((byteN N 31 + 128 : Nat) : Int)) = arrC (N + 57896044618658097711785492504343953926634992332820282019728792003956564819968) := by
  refine arr_ext _ _ (by simp [arrC_size]) fun i hi => ?_
  rw [Array.getElem?_setIfInBounds, top_set N h i hi]
  by_cases e : i = 31
  · subst e; simp [arrC_size]
  · rw [if_neg (by omega), if_neg e]; exact arr_get _ i hi
theorem arr_same (N i : Nat) (hi : i < 32) : (arrC N).setIfInBounds i (.int .u8 ((byteN N i : Nat) : Int)) = arrC N := by
  refine arr_ext _ _ (by simp [arrC_size]) fun j hj => ?_
  rw [Array.getElem?_setIfInBounds]
  by_cases e : i = j
  · subst e; simp [arrC_size, hj, byV]
  · rw [if_neg e]; exact arr_get _ j hj
theorem bits_or_u8_nat (a b : Nat) (ha : a < 256) (hb : b < 256) : bits .or .u8 (a : Int) (b : Int) = ((a ||| b : Nat) : Int) := by
  have hx : a ||| b < 2 ^ 8 := Nat.or_lt_two_pow (by omega) (by omega)
  have h1 : (BitVec.ofInt 8 (a : Int)).toNat = a := by
    rw [BitVec.ofInt_natCast, BitVec.toNat_ofNat]; exact Nat.mod_eq_of_lt (by omega)
  have h2 : (BitVec.ofInt 8 (b : Int)).toNat = b := by
    rw [BitVec.ofInt_natCast, BitVec.toNat_ofNat]; exact Nat.mod_eq_of_lt (by omega)
  show IntKind.u8.wrap ((BitVec.ofInt 8 (a : Int) ||| BitVec.ofInt 8 (b : Int)).toNat : Int) = _
  rw [BitVec.toNat_or, h1, h2, IntKind.wrap_u8]
  omega
theorem or128 (B : Nat) (hB : B < 128) : bits .or .u8 (B : Int) 128 = ((B + 128 : Nat) : Int) := by
  rcases (show B = 0 ∨ 0 < B by omega) with rfl | _
  · rfl
  · have h := Nat.two_pow_add_eq_or_of_lt (i := 7) (b := B) (by omega) 1
    refine (bits_or_u8_nat B 128 (by omega) (by omega)).trans ?_
    rw [Nat.or_comm]
    have h2 : 2 ^ 7 * 1 + B = 2 ^ 7 * 1 ||| B := h
    rw [show (128 : Nat) ||| B = 128 + B from h2.symm]
    omega
theorem or0 (B : Nat) (hB : B < 256) : bits .or .u8 (B : Int) 0 = ((B : Nat) : Int) := by
  refine (bits_or_u8_nat B 0 hB (by omega)).trans ?_
  rw [Nat.or_zero]
end

section
open Go.RowKit
set_option maxHeartbeats 2000000 in
theorem copyEl (bb vb vo x : Nat) (zs : Array Value) (hz : zs.size = 32) (Ty : TypeId) (hne : vb ≠ bb) (w : World) (hb : w.heap[bb]? = some (.cells zs Ty (0, 0))) (hv : Fe w vb vo x) :
    Calls Tryd.prog 105 #[.pointer (some ⟨bb, 0, none⟩), .pointer (some ⟨vb, vo, none⟩)] w fun e w' => e = .returned (.slice (some ⟨bb, 0, none⟩) 32 32) ∧ Fr bb w w' ∧ w'.heap[bb]? = some (.cells (arrC (x)) Ty (0, 0)) := by
  have hbl := heap_lt hb; have hvl := hv.lt
  go_enter Tryd.func105, Tryd.ntmps105
  go_wp2_with fail
  try simp only [Act.put]
  refine wp_named ?_
  intro w1 ew1
  have hs1 : w.heap.size ≤ w1.heap.size := by rw [ew1]; (try simp only [alloc_size, setRow_size]); omega
  replace hb : w1.heap[bb]? = some (.cells (zs) Ty (0, 0)) := by rw [ew1]; exact hb
  replace hv : Fe w1 (vb) (vo) (x) := by rw [ew1]; exact hv
  have hBw1 : Hid (Fr (bb) w w1) := Lib.hid (by rw [ew1]; exact (Fr.refl _ w))
  clear ew1
  refine wp_region_noPanic ?_
  refine wp_region_held_drew (S := Keep (bb) w1) (by kernel_rfl) (Keep.start _ _) ?_
  intro hS
  obtain ⟨w2, ed⟩ : ∃ u : World, u = w1.drew := ⟨_, rfl⟩
  rw [← ed] at hS ⊢
  have xhb : w2.heap[bb]? = some (.cells (zs) Ty (0, 0)) := by rw [ed]; exact hb
  have xhv : Fe w2 (vb) (vo) (x) := by rw [ed]; exact hv
  clear ed
  have hSz := hS.size
  refine takeAtK (i := 0) (v := .pointer (some ⟨bb, 0, none⟩)) rfl (some 5) rfl (take_run rfl (fun _ _ => by go_simp)) hS ?_
  simp only [Act.put, sia, sc0, scs]
  refine takeAtK (i := 1) (v := .pointer (some ⟨bb, 0, none⟩)) rfl (some 6) rfl (take_run rfl (fun _ _ => by go_simp)) hS ?_
  simp only [Act.put, sia, sc0, scs]
  refine takeAtK (i := 2) (v := .slice (some ⟨bb, 0, none⟩) 32 32) rfl (some 7) rfl (take_run rfl (fun _ _ => by go_simp)) hS ?_
  simp only [Act.put, sia, sc0, scs]
  refine takeAtK (i := 3) (v := .pointer (some ⟨vb, vo, none⟩)) rfl (some 8) rfl (take_run rfl (fun _ _ => by go_simp)) hS ?_
  simp only [Act.put, sia, sc0, scs]
  refine wpAnyH_ready (rs := [4]) (by kernel_rfl) (by simp) ?_
  refine (AllReadyH.cons rfl ?_ AllReadyH.nil)
  intro K hK
  refine ready_call rfl (some 9) rfl 76 #[.pointer (some ⟨vb, vo, none⟩)] (by go_simp) ?_
  refine (Bytes_any (vb) (vo) _ _ xhv).mono ?_
  rintro e w3 ⟨b1_4, rfl, hlb1_4, hC, xhr1_4⟩
  refine ⟨_, rfl, ?_⟩
  simp only [Act.put, sia, sc0, scs]
  have xhb : w3.heap[bb]? = some (.cells (zs) Ty (0, 0)) := (heap_call hC xhb)
  have xhv : Fe w3 (vb) (vo) (x) := (Fe.below_all xhv hC)
  have hS := hS.call hC
  have hz3 := hC.size
  clear hC
  have hlb1_4 : w2.heap.size ≤ b1_4 := by (try simp only [alloc_size, setRow_size] at hlb1_4); omega
  have hub1_4 := xhr1_4.lt
  refine hK.out _ _ hS ?_
  clear hK K
  intro _
  have hSz := hS.size
  refine wpAnyH_ready (rs := [5]) (by kernel_rfl) (by simp) ?_
  refine (AllReadyH.cons rfl ?_ AllReadyH.nil)
  intro K hK
  refine ready_copy32 rfl (some 10) rfl _ _ rfl (bb) (b1_4) (0) (32) (32) ((x)) rfl rfl (zs) hz Ty xhb xhr1_4 ?_
  simp only [Act.put, sia, sc0, scs]
  have xhb : (w3.setRow (bb) (arrC ((x)))).heap[bb]? = some (.cells (arrC ((x))) Ty (0, 0)) := (setRow_heap _ _ _ _ _ _ xhb)
  have xhv : Fe (w3.setRow (bb) (arrC ((x)))) (vb) (vo) (x) := (Fe.keep xhv (setRow_other _ _ _ _ (by omega)))
  have xhr1_4 : Row (w3.setRow (bb) (arrC ((x)))) (b1_4) (0) 32 (byV (x)) := (Row.keep xhr1_4 (setRow_other _ _ _ _ (by omega)))
  have hS := hS.store (arrC ((x)))
  generalize w3.setRow (bb) (arrC ((x))) = w4 at *
  refine hK.out _ _ hS ?_
  clear hK K
  intro _
  have hSz := hS.size
  refine wpAnyH_done (by kernel_rfl) ?_ _
  refine NoPanic.normal ?_
  have hsz := hS.size
  have hb := xhb
  have hv := xhv
  have hr1_4 := xhr1_4
  have hBw4 : Hid (Fr (bb) w w4) := Lib.hid (Fr.keep hBw1.out hS (by first | exact Or.inl rfl | exact Or.inr (by omega)))
  clear hS
  go_wp2
  go_ret
  exact ⟨rfl, hBw4.out, hb⟩
set_option maxHeartbeats 4000000 in
theorem ptbytes_0 (bb pb po : Nat) (X Y Z T : Fp) (p : CP) (hP : Rq p X Y Z T) (zs : Array Value) (hz : zs.size = 32) (Ty : TypeId) (hne : pb ≠ bb) (hs : Hid (¬ p.x.val % 2 = 1)) (w : World) (hb : w.heap[bb]? = some (.cells zs Ty (0, 0))) (hp0 : Fe w pb (po) X.val) (hp1 : Fe w pb (po + 5) Y.val) (hp2 : Fe w pb (po + 10) Z.val) (hp3 : Fe w pb (po + 15) T.val) :
    Calls Tryd.prog 90 #[.pointer (some ⟨pb, po, none⟩), .pointer (some ⟨bb, 0, none⟩)] w fun e w' => e = .returned (.slice (some ⟨bb, 0, none⟩) 32 32) ∧ Fr bb w w' ∧ w'.heap[bb]? = some (.cells (arrC (encN p)) Ty (0, 0)) := by
  have hbl := heap_lt hb; have hpl := hp0.lt
  go_enter Tryd.func90, Tryd.ntmps90
  go_wp2_with fail
  refine (checkInit1 (w.heap.size) (pb) (po) _ X Y Z hP.1 _ _ (heap_new_at _ _ _ rfl) (Fe.alloc hp0 _) (Fe.alloc hp1 _)).mono ?_
  rintro e w1 ⟨rfl, hC1⟩
  have hs1 : w.heap.size + 1 ≤ w1.heap.size := by have := hC1.size; (try simp only [alloc_size, setRow_size] at this); omega
  replace hb : w1.heap[bb]? = some (.cells (zs) Ty (0, 0)) := (heap_call hC1 (heap_old _ hb))
  replace hp0 : Fe w1 (pb) (po) (X.val) := (Fe.below_all (Fe.alloc hp0 _) hC1)
  replace hp1 : Fe w1 (pb) (po + 5) (Y.val) := (Fe.below_all (Fe.alloc hp1 _) hC1)
  replace hp2 : Fe w1 (pb) (po + 10) (Z.val) := (Fe.below_all (Fe.alloc hp2 _) hC1)
  replace hp3 : Fe w1 (pb) (po + 15) (T.val) := (Fe.below_all (Fe.alloc hp3 _) hC1)
  replace h10 : w1.heap[w.heap.size]? = some (.cells (#[.pointer (some ⟨pb, po, none⟩)]) 37 (0, 0)) := (heap_call hC1 (heap_new_at _ _ _ rfl))
  have hBw1 : Hid (Fr (bb) w w1) := Lib.hid (Fr.call (Fr.alloc (Fr.refl _ w) _) hC1)
  clear hC1
  go_wp2_with fail
  obtain ⟨R1, qR1⟩ : ∃ uu : Fp, uu = fpInv Z := ⟨_, rfl⟩
  have HR1 := Lib.hid qR1; clear qR1
  refine (invert_ff (w1.heap.size) (0) (pb) (po + 10) _ _ _ (Fe.alloc (Fe.alloc (Fe.newz_at _ _ rfl) _) _) (Fe.alloc (Fe.alloc (Fe.alloc hp2 _) _) _) R1 HR1).mono ?_
  rintro e w2 ⟨rfl, hC2⟩
  have hs2 : w1.heap.size + 1 + 1 + 1 ≤ w2.heap.size := by have := hC2.size; (try simp only [alloc_size, setRow_size] at this); omega
  replace hb : w2.heap[bb]? = some (.cells (zs) Ty (0, 0)) := ((Sets.block hC2 _ (heap_lt (heap_old _ (heap_old _ (heap_old _ hb)))) (by omega)).trans (heap_old _ (heap_old _ (heap_old _ hb))))
  replace hp0 : Fe w2 (pb) (po) (X.val) := (Sets.others hC2 (Fe.alloc (Fe.alloc (Fe.alloc hp0 _) _) _) (by omega))
  replace hp1 : Fe w2 (pb) (po + 5) (Y.val) := (Sets.others hC2 (Fe.alloc (Fe.alloc (Fe.alloc hp1 _) _) _) (by omega))
  replace hp2 : Fe w2 (pb) (po + 10) (Z.val) := (Sets.others hC2 (Fe.alloc (Fe.alloc (Fe.alloc hp2 _) _) _) (by omega))
  replace hp3 : Fe w2 (pb) (po + 15) (T.val) := (Sets.others hC2 (Fe.alloc (Fe.alloc (Fe.alloc hp3 _) _) _) (by omega))
  replace h6 : Fe w2 (w1.heap.size + 1) (0) (0) := (Sets.others hC2 (Fe.alloc (Fe.newz_at _ _ (by (try simp only [alloc_size, setRow_size]))) _) (by omega))
  replace h7 : Fe w2 (w1.heap.size + 1 + 1) (0) (0) := (Sets.others hC2 (Fe.newz_at _ _ (by (try simp only [alloc_size, setRow_size]))) (by omega))
  replace h5 : Fe w2 (w1.heap.size) (0) (R1.val) := (Sets.fe' hC2 (Fe.alloc (Fe.alloc (Fe.newz_at _ _ rfl) _) _))
  have hBw2 : Hid (Fr (bb) w w2) := Lib.hid (Fr.sets (Fr.alloc (Fr.alloc (Fr.alloc hBw1.out _) _) _) hC2 (by omega))
  clear hC2
  go_wp2_with fail
  obtain ⟨R2, qR2⟩ : ∃ uu : Fp, uu = X * R1 := ⟨_, rfl⟩
  have HR2 := Lib.hid qR2; clear qR2
  refine (mul_ff (w1.heap.size + 1) (0) (pb) (po) (w1.heap.size) (0) _ _ _ _ h6 hp0 h5 R2 HR2).mono ?_
  rintro e w3 ⟨rfl, hC3⟩
  have hs3 : w2.heap.size ≤ w3.heap.size := by have := hC3.size; (try simp only [alloc_size, setRow_size] at this); omega
  replace hb : w3.heap[bb]? = some (.cells (zs) Ty (0, 0)) := ((Sets.block hC3 _ (heap_lt hb) (by omega)).trans hb)
  replace hp0 : Fe w3 (pb) (po) (X.val) := (Sets.others hC3 hp0 (by omega))
  replace hp1 : Fe w3 (pb) (po + 5) (Y.val) := (Sets.others hC3 hp1 (by omega))
  replace hp2 : Fe w3 (pb) (po + 10) (Z.val) := (Sets.others hC3 hp2 (by omega))
  replace hp3 : Fe w3 (pb) (po + 15) (T.val) := (Sets.others hC3 hp3 (by omega))
  replace h7 : Fe w3 (w1.heap.size + 1 + 1) (0) (0) := (Sets.others hC3 h7 (by omega))
  replace h5 : Fe w3 (w1.heap.size) (0) (R1.val) := (Sets.others hC3 h5 (by omega))
  replace h6 : Fe w3 (w1.heap.size + 1) (0) (R2.val) := (Sets.fe' hC3 h6)
  have hBw3 : Hid (Fr (bb) w w3) := Lib.hid (Fr.sets hBw2.out hC3 (by omega))
  clear hC3
  go_wp2_with fail
  obtain ⟨R3, qR3⟩ : ∃ uu : Fp, uu = Y * R1 := ⟨_, rfl⟩
  have HR3 := Lib.hid qR3; clear qR3
  refine (mul_ff (w1.heap.size + 1 + 1) (0) (pb) (po + 5) (w1.heap.size) (0) _ _ _ _ h7 hp1 h5 R3 HR3).mono ?_
  rintro e w4 ⟨rfl, hC4⟩
  have hs4 : w3.heap.size ≤ w4.heap.size := by have := hC4.size; (try simp only [alloc_size, setRow_size] at this); omega
  replace hb : w4.heap[bb]? = some (.cells (zs) Ty (0, 0)) := ((Sets.block hC4 _ (heap_lt hb) (by omega)).trans hb)
  replace hp0 : Fe w4 (pb) (po) (X.val) := (Sets.others hC4 hp0 (by omega))
  replace hp1 : Fe w4 (pb) (po + 5) (Y.val) := (Sets.others hC4 hp1 (by omega))
  replace hp2 : Fe w4 (pb) (po + 10) (Z.val) := (Sets.others hC4 hp2 (by omega))
  replace hp3 : Fe w4 (pb) (po + 15) (T.val) := (Sets.others hC4 hp3 (by omega))
  replace h5 : Fe w4 (w1.heap.size) (0) (R1.val) := (Sets.others hC4 h5 (by omega))
  replace h6 : Fe w4 (w1.heap.size + 1) (0) (R2.val) := (Sets.others hC4 h6 (by omega))
  replace h7 : Fe w4 (w1.heap.size + 1 + 1) (0) (R3.val) := (Sets.fe' hC4 h7)
  have hBw4 : Hid (Fr (bb) w w4) := Lib.hid (Fr.sets hBw3.out hC4 (by omega))
  clear hC4
  have ex : R2 = p.x := by rw [HR2.out, HR1.out]; exact Rp.affx hP.1
  have ey : R3 = p.y := by rw [HR3.out, HR1.out]; exact Rp.affy hP.1
  have hZ : Hid ((0 : Int) = ((R2.val % 2 : Nat) : Int)) := Lib.hid (by rw [ex]; have := hs.out; omega)
  have lY : R3.val < 57896044618658097711785492504343953926634992332820282019728792003956564819968 := Nat.lt_trans R3.isLt (by unfold pF; omega)
  have eN : encN p = R3.val := by unfold encN; rw [ey, if_neg hs.out, Nat.add_zero]
  clear ex ey hs
  go_wp2_with fail
  refine (copyEl (bb) (w1.heap.size + 1 + 1) (0) _ zs hz Ty (by omega) _ hb h7).mono ?_
  rintro e w5 ⟨rfl, hC5, hcp⟩
  have hs5 : w4.heap.size ≤ w5.heap.size := by have := hC5.size; (try simp only [alloc_size, setRow_size] at this); omega
  replace hb : w5.heap[bb]? = some (.cells (arrC (R3.val)) Ty (0, 0)) := hcp
  replace hp0 : Fe w5 (pb) (po) (X.val) := Fr.keepF hC5 hp0 (by omega)
  replace hp1 : Fe w5 (pb) (po + 5) (Y.val) := Fr.keepF hC5 hp1 (by omega)
  replace hp2 : Fe w5 (pb) (po + 10) (Z.val) := Fr.keepF hC5 hp2 (by omega)
  replace hp3 : Fe w5 (pb) (po + 15) (T.val) := Fr.keepF hC5 hp3 (by omega)
  replace h5 : Fe w5 (w1.heap.size) (0) (R1.val) := Fr.keepF hC5 h5 (by omega)
  replace h6 : Fe w5 (w1.heap.size + 1) (0) (R2.val) := Fr.keepF hC5 h6 (by omega)
  replace h7 : Fe w5 (w1.heap.size + 1 + 1) (0) (R3.val) := Fr.keepF hC5 h7 (by omega)
  have hBw5 : Hid (Fr (bb) w w5) := Lib.hid (Fr.fr hBw4.out hC5 (by omega))
  clear hC5
  have eA := arr_same R3.val 31 (by omega)
  rw [← eN] at eA
  have eO := or0 _ (byteN_lt R3.val 31)
  rw [← eN] at eO
  have eb : Hid (encN p = R3.val) := Lib.hid eN
  rw [← eN] at hb
  clear eN
  go_wp2_with fail
  try simp only [Act.put]
  refine wp_named ?_
  intro w6 ew6
  have hs6 : w5.heap.size ≤ w6.heap.size := by rw [ew6]; (try simp only [alloc_size, setRow_size]); omega
  replace hb : w6.heap[bb]? = some (.cells (arrC (encN p)) Ty (0, 0)) := by rw [ew6]; exact hb
  replace hp0 : Fe w6 (pb) (po) (X.val) := by rw [ew6]; exact hp0
  replace hp1 : Fe w6 (pb) (po + 5) (Y.val) := by rw [ew6]; exact hp1
  replace hp2 : Fe w6 (pb) (po + 10) (Z.val) := by rw [ew6]; exact hp2
  replace hp3 : Fe w6 (pb) (po + 15) (T.val) := by rw [ew6]; exact hp3
  replace h5 : Fe w6 (w1.heap.size) (0) (R1.val) := by rw [ew6]; exact h5
  replace h6 : Fe w6 (w1.heap.size + 1) (0) (R2.val) := by rw [ew6]; exact h6
  replace h7 : Fe w6 (w1.heap.size + 1 + 1) (0) (R3.val) := by rw [ew6]; exact h7
  have hBw6 : Hid (Fr (bb) w w6) := Lib.hid (by rw [ew6]; exact hBw5.out)
  clear ew6
  refine wp_region_noPanic ?_
  refine wp_region_held_drew (S := Keep (bb) w6) (by kernel_rfl) (Keep.start _ _) ?_
  intro hS
  obtain ⟨w7, ed⟩ : ∃ u : World, u = w6.drew := ⟨_, rfl⟩
  rw [← ed] at hS ⊢
  have xhb : w7.heap[bb]? = some (.cells (arrC (encN p)) Ty (0, 0)) := by rw [ed]; exact hb
  have xhp0 : Fe w7 (pb) (po) (X.val) := by rw [ed]; exact hp0
  have xhp1 : Fe w7 (pb) (po + 5) (Y.val) := by rw [ed]; exact hp1
  have xhp2 : Fe w7 (pb) (po + 10) (Z.val) := by rw [ed]; exact hp2
  have xhp3 : Fe w7 (pb) (po + 15) (T.val) := by rw [ed]; exact hp3
  have xh5 : Fe w7 (w1.heap.size) (0) (R1.val) := by rw [ed]; exact h5
  have xh6 : Fe w7 (w1.heap.size + 1) (0) (R2.val) := by rw [ed]; exact h6
  have xh7 : Fe w7 (w1.heap.size + 1 + 1) (0) (R3.val) := by rw [ed]; exact h7
  clear ed
  have hSz := hS.size
  refine takeAtK (i := 0) (v := .slice (some ⟨bb, 0, none⟩) 32 32) rfl (some 26) rfl (take_run rfl (fun _ _ => by go_simp)) hS ?_
  simp only [Act.put, sia, sc0, scs]
  refine takeAtK (i := 1) (v := .pointer (some ⟨bb, 31, none⟩)) rfl (some 27) rfl (take_run rfl (fun _ _ => by go_simp)) hS ?_
  simp only [Act.put, sia, sc0, scs]
  refine wpAnyH_ready (rs := [2, 3]) (by kernel_rfl) (by simp) ?_
  refine (AllReadyH.cons rfl ?_ (AllReadyH.cons rfl ?_ AllReadyH.nil))
  · intro K hK
    have cc := (Row.ofArr xhb).cell (i := 31) (by omega)
    simp only [Nat.zero_add] at cc
    unfold byV at cc
    refine ready_run rfl (some 28) rfl (.int .u8 ((byteN (encN p) 31 : Nat) : Int)) w7 (by go_simp) ?_
    simp only [Act.put, sia, sc0, scs]
    clear cc
    refine hK.out _ _ hS ?_
    clear hK K
    intro _
    have hSz := hS.size
    refine wpAnyH_ready (rs := [3]) (by kernel_rfl) (by simp) ?_
    refine (AllReadyH.cons rfl ?_ AllReadyH.nil)
    intro K hK
    refine ready_call rfl (some 29) rfl 103 #[.pointer (some ⟨w1.heap.size + 1, 0, none⟩)] (by go_simp) ?_
    refine (IsNegative_any (w1.heap.size + 1) 0 _ _ xh6 0 hZ).mono ?_
    rintro e w8 ⟨rfl, hC⟩
    refine ⟨_, rfl, ?_⟩
    simp only [Act.put, sia, sc0, scs]
    have xhb : w8.heap[bb]? = some (.cells (arrC (encN p)) Ty (0, 0)) := (heap_call hC xhb)
    have xhp0 : Fe w8 (pb) (po) (X.val) := (Fe.below_all xhp0 hC)
    have xhp1 : Fe w8 (pb) (po + 5) (Y.val) := (Fe.below_all xhp1 hC)
    have xhp2 : Fe w8 (pb) (po + 10) (Z.val) := (Fe.below_all xhp2 hC)
    have xhp3 : Fe w8 (pb) (po + 15) (T.val) := (Fe.below_all xhp3 hC)
    have xh5 : Fe w8 (w1.heap.size) (0) (R1.val) := (Fe.below_all xh5 hC)
    have xh6 : Fe w8 (w1.heap.size + 1) (0) (R2.val) := (Fe.below_all xh6 hC)
    have xh7 : Fe w8 (w1.heap.size + 1 + 1) (0) (R3.val) := (Fe.below_all xh7 hC)
    have hS := hS.call hC
    have hz8 := hC.size
    clear hC
    refine hK.out _ _ hS ?_
    clear hK K
    intro _
    have hSz := hS.size
    refine takeAtK (i := 4) (v := .int .i64 0) rfl (some 30) rfl (take_run rfl (fun _ _ => by go_simp; try rfl)) hS ?_
    simp only [Act.put, sia, sc0, scs]
    refine takeAtK (i := 5) (v := .int .u8 0) rfl (some 31) rfl (take_run rfl (fun _ _ => by go_simp; try rfl)) hS ?_
    simp only [Act.put, sia, sc0, scs]
    refine takeAtK (i := 6) (v := .int .u8 ((byteN (encN p) 31 : Nat) : Int)) rfl (some 32) rfl (take_run rfl (fun _ _ => by go_simp <;> rw [eO])) hS ?_
    simp only [Act.put, sia, sc0, scs]
    refine takeAtK (i := 7) (v := .pointer (some ⟨bb, 31, none⟩)) rfl (some 33) rfl (take_run rfl (fun _ _ => by go_simp)) hS ?_
    simp only [Act.put, sia, sc0, scs]
    refine wpAnyH_ready (rs := [8]) (by kernel_rfl) (by simp) ?_
    refine (AllReadyH.cons rfl ?_ AllReadyH.nil)
    intro K hK
    have cc := (Row.ofArr xhb).cell (i := 31) (by omega)
    have ff := (Row.ofArr xhb).frozen (i := 31) (by omega)
    simp only [Nat.zero_add] at cc ff
    unfold byV at cc
    refine ready_skip rfl (none) rfl (w8.setCell ⟨bb, 31, none⟩ (.int .u8 ((byteN (encN p) 31 : Nat) : Int))) (by go_simp) ?_
    simp only [Act.put, sia, sc0, scs]
    clear cc ff
    have hs9 := setCell_size w8 ⟨bb, 31, none⟩ (.int .u8 ((byteN (encN p) 31 : Nat) : Int))
    have xhb : (w8.setCell ⟨bb, 31, none⟩ (.int .u8 ((byteN (encN p) 31 : Nat) : Int))).heap[bb]? = some (.cells (arrC (encN p)) Ty (0, 0)) := by rw [← eA]; exact setCell_blk xhb 31 _
    have xhp0 : Fe (w8.setCell ⟨bb, 31, none⟩ (.int .u8 ((byteN (encN p) 31 : Nat) : Int))) (pb) (po) (X.val) := Fe.keep xhp0 (setCell_other _ _ _ _ (by omega))
    have xhp1 : Fe (w8.setCell ⟨bb, 31, none⟩ (.int .u8 ((byteN (encN p) 31 : Nat) : Int))) (pb) (po + 5) (Y.val) := Fe.keep xhp1 (setCell_other _ _ _ _ (by omega))
    have xhp2 : Fe (w8.setCell ⟨bb, 31, none⟩ (.int .u8 ((byteN (encN p) 31 : Nat) : Int))) (pb) (po + 10) (Z.val) := Fe.keep xhp2 (setCell_other _ _ _ _ (by omega))
    have xhp3 : Fe (w8.setCell ⟨bb, 31, none⟩ (.int .u8 ((byteN (encN p) 31 : Nat) : Int))) (pb) (po + 15) (T.val) := Fe.keep xhp3 (setCell_other _ _ _ _ (by omega))
    have xh5 : Fe (w8.setCell ⟨bb, 31, none⟩ (.int .u8 ((byteN (encN p) 31 : Nat) : Int))) (w1.heap.size) (0) (R1.val) := Fe.keep xh5 (setCell_other _ _ _ _ (by omega))
    have xh6 : Fe (w8.setCell ⟨bb, 31, none⟩ (.int .u8 ((byteN (encN p) 31 : Nat) : Int))) (w1.heap.size + 1) (0) (R2.val) := Fe.keep xh6 (setCell_other _ _ _ _ (by omega))
    have xh7 : Fe (w8.setCell ⟨bb, 31, none⟩ (.int .u8 ((byteN (encN p) 31 : Nat) : Int))) (w1.heap.size + 1 + 1) (0) (R3.val) := Fe.keep xh7 (setCell_other _ _ _ _ (by omega))
    have hS := hS.cell 31 (.int .u8 ((byteN (encN p) 31 : Nat) : Int))
    generalize w8.setCell ⟨bb, 31, none⟩ (.int .u8 ((byteN (encN p) 31 : Nat) : Int)) = w9 at *
    refine hK.out _ _ hS ?_
    clear hK K
    intro _
    have hSz := hS.size
    refine wpAnyH_done (by kernel_rfl) ?_ _
    refine NoPanic.normal ?_
    have hsz := hS.size
    have hb := xhb
    have hp0 := xhp0
    have hp1 := xhp1
    have hp2 := xhp2
    have hp3 := xhp3
    have h5 := xh5
    have h6 := xh6
    have h7 := xh7
    have hBw9 : Hid (Fr (bb) w w9) := Lib.hid (Fr.keep hBw6.out hS (by first | exact Or.inl rfl | exact Or.inr (by omega)))
    clear hS
    go_wp2
    go_ret
    exact ⟨rfl, hBw9.out, hb⟩
  · intro K hK
    refine ready_call rfl (some 29) rfl 103 #[.pointer (some ⟨w1.heap.size + 1, 0, none⟩)] (by go_simp) ?_
    refine (IsNegative_any (w1.heap.size + 1) 0 _ _ xh6 0 hZ).mono ?_
    rintro e w11 ⟨rfl, hC⟩
    refine ⟨_, rfl, ?_⟩
    simp only [Act.put, sia, sc0, scs]
    have xhb : w11.heap[bb]? = some (.cells (arrC (encN p)) Ty (0, 0)) := (heap_call hC xhb)
    have xhp0 : Fe w11 (pb) (po) (X.val) := (Fe.below_all xhp0 hC)
    have xhp1 : Fe w11 (pb) (po + 5) (Y.val) := (Fe.below_all xhp1 hC)
    have xhp2 : Fe w11 (pb) (po + 10) (Z.val) := (Fe.below_all xhp2 hC)
    have xhp3 : Fe w11 (pb) (po + 15) (T.val) := (Fe.below_all xhp3 hC)
    have xh5 : Fe w11 (w1.heap.size) (0) (R1.val) := (Fe.below_all xh5 hC)
    have xh6 : Fe w11 (w1.heap.size + 1) (0) (R2.val) := (Fe.below_all xh6 hC)
    have xh7 : Fe w11 (w1.heap.size + 1 + 1) (0) (R3.val) := (Fe.below_all xh7 hC)
    have hS := hS.call hC
    have hz11 := hC.size
    clear hC
    refine hK.out _ _ hS ?_
    clear hK K
    intro _
    have hSz := hS.size
    refine takeAtK (i := 4) (v := .int .i64 0) rfl (some 30) rfl (take_run rfl (fun _ _ => by go_simp; try rfl)) hS ?_
    simp only [Act.put, sia, sc0, scs]
    refine takeAtK (i := 5) (v := .int .u8 0) rfl (some 31) rfl (take_run rfl (fun _ _ => by go_simp; try rfl)) hS ?_
    simp only [Act.put, sia, sc0, scs]
    refine wpAnyH_ready (rs := [2]) (by kernel_rfl) (by simp) ?_
    refine (AllReadyH.cons rfl ?_ AllReadyH.nil)
    intro K hK
    have cc := (Row.ofArr xhb).cell (i := 31) (by omega)
    simp only [Nat.zero_add] at cc
    unfold byV at cc
    refine ready_run rfl (some 28) rfl (.int .u8 ((byteN (encN p) 31 : Nat) : Int)) w11 (by go_simp) ?_
    simp only [Act.put, sia, sc0, scs]
    clear cc
    refine hK.out _ _ hS ?_
    clear hK K
    intro _
    have hSz := hS.size
    refine takeAtK (i := 6) (v := .int .u8 ((byteN (encN p) 31 : Nat) : Int)) rfl (some 32) rfl (take_run rfl (fun _ _ => by go_simp <;> rw [eO])) hS ?_
    simp only [Act.put, sia, sc0, scs]
    refine takeAtK (i := 7) (v := .pointer (some ⟨bb, 31, none⟩)) rfl (some 33) rfl (take_run rfl (fun _ _ => by go_simp)) hS ?_
    simp only [Act.put, sia, sc0, scs]
    refine wpAnyH_ready (rs := [8]) (by kernel_rfl) (by simp) ?_
    refine (AllReadyH.cons rfl ?_ AllReadyH.nil)
    intro K hK
    have cc := (Row.ofArr xhb).cell (i := 31) (by omega)
    have ff := (Row.ofArr xhb).frozen (i := 31) (by omega)
    simp only [Nat.zero_add] at cc ff
    unfold byV at cc
    refine ready_skip rfl (none) rfl (w11.setCell ⟨bb, 31, none⟩ (.int .u8 ((byteN (encN p) 31 : Nat) : Int))) (by go_simp) ?_
    simp only [Act.put, sia, sc0, scs]
    clear cc ff
    have hs12 := setCell_size w11 ⟨bb, 31, none⟩ (.int .u8 ((byteN (encN p) 31 : Nat) : Int))
    have xhb : (w11.setCell ⟨bb, 31, none⟩ (.int .u8 ((byteN (encN p) 31 : Nat) : Int))).heap[bb]? = some (.cells (arrC (encN p)) Ty (0, 0)) := by rw [← eA]; exact setCell_blk xhb 31 _
    have xhp0 : Fe (w11.setCell ⟨bb, 31, none⟩ (.int .u8 ((byteN (encN p) 31 : Nat) : Int))) (pb) (po) (X.val) := Fe.keep xhp0 (setCell_other _ _ _ _ (by omega))
    have xhp1 : Fe (w11.setCell ⟨bb, 31, none⟩ (.int .u8 ((byteN (encN p) 31 : Nat) : Int))) (pb) (po + 5) (Y.val) := Fe.keep xhp1 (setCell_other _ _ _ _ (by omega))
    have xhp2 : Fe (w11.setCell ⟨bb, 31, none⟩ (.int .u8 ((byteN (encN p) 31 : Nat) : Int))) (pb) (po + 10) (Z.val) := Fe.keep xhp2 (setCell_other _ _ _ _ (by omega))
    have xhp3 : Fe (w11.setCell ⟨bb, 31, none⟩ (.int .u8 ((byteN (encN p) 31 : Nat) : Int))) (pb) (po + 15) (T.val) := Fe.keep xhp3 (setCell_other _ _ _ _ (by omega))
    have xh5 : Fe (w11.setCell ⟨bb, 31, none⟩ (.int .u8 ((byteN (encN p) 31 : Nat) : Int))) (w1.heap.size) (0) (R1.val) := Fe.keep xh5 (setCell_other _ _ _ _ (by omega))
    have xh6 : Fe (w11.setCell ⟨bb, 31, none⟩ (.int .u8 ((byteN (encN p) 31 : Nat) : Int))) (w1.heap.size + 1) (0) (R2.val) := Fe.keep xh6 (setCell_other _ _ _ _ (by omega))
    have xh7 : Fe (w11.setCell ⟨bb, 31, none⟩ (.int .u8 ((byteN (encN p) 31 : Nat) : Int))) (w1.heap.size + 1 + 1) (0) (R3.val) := Fe.keep xh7 (setCell_other _ _ _ _ (by omega))
    have hS := hS.cell 31 (.int .u8 ((byteN (encN p) 31 : Nat) : Int))
    generalize w11.setCell ⟨bb, 31, none⟩ (.int .u8 ((byteN (encN p) 31 : Nat) : Int)) = w12 at *
    refine hK.out _ _ hS ?_
    clear hK K
    intro _
    have hSz := hS.size
    refine wpAnyH_done (by kernel_rfl) ?_ _
    refine NoPanic.normal ?_
    have hsz := hS.size
    have hb := xhb
    have hp0 := xhp0
    have hp1 := xhp1
    have hp2 := xhp2
    have hp3 := xhp3
    have h5 := xh5
    have h6 := xh6
    have h7 := xh7
    have hBw12 : Hid (Fr (bb) w w12) := Lib.hid (Fr.keep hBw6.out hS (by first | exact Or.inl rfl | exact Or.inr (by omega)))
    clear hS
    go_wp2
    go_ret
    exact ⟨rfl, hBw12.out, hb⟩
set_option maxHeartbeats 4000000 in
theorem ptbytes_1 (bb pb po : Nat) (X Y Z T : Fp) (p : CP) (hP : Rq p X Y Z T) (zs : Array Value) (hz : zs.size = 32) (Ty : TypeId) (hne : pb ≠ bb) (hs : Hid (p.x.val % 2 = 1)) (w : World) (hb : w.heap[bb]? = some (.cells zs Ty (0, 0))) (hp0 : Fe w pb (po) X.val) (hp1 : Fe w pb (po + 5) Y.val) (hp2 : Fe w pb (po + 10) Z.val) (hp3 : Fe w pb (po + 15) T.val) :
    Calls Tryd.prog 90 #[.pointer (some ⟨pb, po, none⟩), .pointer (some ⟨bb, 0, none⟩)] w fun e w' => e = .returned (.slice (some ⟨bb, 0, none⟩) 32 32) ∧ Fr bb w w' ∧ w'.heap[bb]? = some (.cells (arrC (encN p)) Ty (0, 0)) := by
  have hbl := heap_lt hb; have hpl := hp0.lt
  go_enter Tryd.func90, Tryd.ntmps90
  go_wp2_with fail
  refine (checkInit1 (w.heap.size) (pb) (po) _ X Y Z hP.1 _ _ (heap_new_at _ _ _ rfl) (Fe.alloc hp0 _) (Fe.alloc hp1 _)).mono ?_
  rintro e w1 ⟨rfl, hC1⟩
  have hs1 : w.heap.size + 1 ≤ w1.heap.size := by have := hC1.size; (try simp only [alloc_size, setRow_size] at this); omega
  replace hb : w1.heap[bb]? = some (.cells (zs) Ty (0, 0)) := (heap_call hC1 (heap_old _ hb))
  replace hp0 : Fe w1 (pb) (po) (X.val) := (Fe.below_all (Fe.alloc hp0 _) hC1)
  replace hp1 : Fe w1 (pb) (po + 5) (Y.val) := (Fe.below_all (Fe.alloc hp1 _) hC1)
  replace hp2 : Fe w1 (pb) (po + 10) (Z.val) := (Fe.below_all (Fe.alloc hp2 _) hC1)
  replace hp3 : Fe w1 (pb) (po + 15) (T.val) := (Fe.below_all (Fe.alloc hp3 _) hC1)
  replace h10 : w1.heap[w.heap.size]? = some (.cells (#[.pointer (some ⟨pb, po, none⟩)]) 37 (0, 0)) := (heap_call hC1 (heap_new_at _ _ _ rfl))
  have hBw1 : Hid (Fr (bb) w w1) := Lib.hid (Fr.call (Fr.alloc (Fr.refl _ w) _) hC1)
  clear hC1
  go_wp2_with fail
  obtain ⟨R1, qR1⟩ : ∃ uu : Fp, uu = fpInv Z := ⟨_, rfl⟩
  have HR1 := Lib.hid qR1; clear qR1
  refine (invert_ff (w1.heap.size) (0) (pb) (po + 10) _ _ _ (Fe.alloc (Fe.alloc (Fe.newz_at _ _ rfl) _) _) (Fe.alloc (Fe.alloc (Fe.alloc hp2 _) _) _) R1 HR1).mono ?_
  rintro e w2 ⟨rfl, hC2⟩
  have hs2 : w1.heap.size + 1 + 1 + 1 ≤ w2.heap.size := by have := hC2.size; (try simp only [alloc_size, setRow_size] at this); omega
  replace hb : w2.heap[bb]? = some (.cells (zs) Ty (0, 0)) := ((Sets.block hC2 _ (heap_lt (heap_old _ (heap_old _ (heap_old _ hb)))) (by omega)).trans (heap_old _ (heap_old _ (heap_old _ hb))))
  replace hp0 : Fe w2 (pb) (po) (X.val) := (Sets.others hC2 (Fe.alloc (Fe.alloc (Fe.alloc hp0 _) _) _) (by omega))
  replace hp1 : Fe w2 (pb) (po + 5) (Y.val) := (Sets.others hC2 (Fe.alloc (Fe.alloc (Fe.alloc hp1 _) _) _) (by omega))
  replace hp2 : Fe w2 (pb) (po + 10) (Z.val) := (Sets.others hC2 (Fe.alloc (Fe.alloc (Fe.alloc hp2 _) _) _) (by omega))
  replace hp3 : Fe w2 (pb) (po + 15) (T.val) := (Sets.others hC2 (Fe.alloc (Fe.alloc (Fe.alloc hp3 _) _) _) (by omega))
  replace h6 : Fe w2 (w1.heap.size + 1) (0) (0) := (Sets.others hC2 (Fe.alloc (Fe.newz_at _ _ (by (try simp only [alloc_size, setRow_size]))) _) (by omega))
  replace h7 : Fe w2 (w1.heap.size + 1 + 1) (0) (0) := (Sets.others hC2 (Fe.newz_at _ _ (by (try simp only [alloc_size, setRow_size]))) (by omega))
  replace h5 : Fe w2 (w1.heap.size) (0) (R1.val) := (Sets.fe' hC2 (Fe.alloc (Fe.alloc (Fe.newz_at _ _ rfl) _) _))
  have hBw2 : Hid (Fr (bb) w w2) := Lib.hid (Fr.sets (Fr.alloc (Fr.alloc (Fr.alloc hBw1.out _) _) _) hC2 (by omega))
  clear hC2
  go_wp2_with fail
  obtain ⟨R2, qR2⟩ : ∃ uu : Fp, uu = X * R1 := ⟨_, rfl⟩
  have HR2 := Lib.hid qR2; clear qR2
  refine (mul_ff (w1.heap.size + 1) (0) (pb) (po) (w1.heap.size) (0) _ _ _ _ h6 hp0 h5 R2 HR2).mono ?_
  rintro e w3 ⟨rfl, hC3⟩
  have hs3 : w2.heap.size ≤ w3.heap.size := by have := hC3.size; (try simp only [alloc_size, setRow_size] at this); omega
  replace hb : w3.heap[bb]? = some (.cells (zs) Ty (0, 0)) := ((Sets.block hC3 _ (heap_lt hb) (by omega)).trans hb)
  replace hp0 : Fe w3 (pb) (po) (X.val) := (Sets.others hC3 hp0 (by omega))
  replace hp1 : Fe w3 (pb) (po + 5) (Y.val) := (Sets.others hC3 hp1 (by omega))
  replace hp2 : Fe w3 (pb) (po + 10) (Z.val) := (Sets.others hC3 hp2 (by omega))
  replace hp3 : Fe w3 (pb) (po + 15) (T.val) := (Sets.others hC3 hp3 (by omega))
  replace h7 : Fe w3 (w1.heap.size + 1 + 1) (0) (0) := (Sets.others hC3 h7 (by omega))
  replace h5 : Fe w3 (w1.heap.size) (0) (R1.val) := (Sets.others hC3 h5 (by omega))
  replace h6 : Fe w3 (w1.heap.size + 1) (0) (R2.val) := (Sets.fe' hC3 h6)
  have hBw3 : Hid (Fr (bb) w w3) := Lib.hid (Fr.sets hBw2.out hC3 (by omega))
  clear hC3
  go_wp2_with fail
  obtain ⟨R3, qR3⟩ : ∃ uu : Fp, uu = Y * R1 := ⟨_, rfl⟩
  have HR3 := Lib.hid qR3; clear qR3
  refine (mul_ff (w1.heap.size + 1 + 1) (0) (pb) (po + 5) (w1.heap.size) (0) _ _ _ _ h7 hp1 h5 R3 HR3).mono ?_
  rintro e w4 ⟨rfl, hC4⟩
  have hs4 : w3.heap.size ≤ w4.heap.size := by have := hC4.size; (try simp only [alloc_size, setRow_size] at this); omega
  replace hb : w4.heap[bb]? = some (.cells (zs) Ty (0, 0)) := ((Sets.block hC4 _ (heap_lt hb) (by omega)).trans hb)
  replace hp0 : Fe w4 (pb) (po) (X.val) := (Sets.others hC4 hp0 (by omega))
  replace hp1 : Fe w4 (pb) (po + 5) (Y.val) := (Sets.others hC4 hp1 (by omega))
  replace hp2 : Fe w4 (pb) (po + 10) (Z.val) := (Sets.others hC4 hp2 (by omega))
  replace hp3 : Fe w4 (pb) (po + 15) (T.val) := (Sets.others hC4 hp3 (by omega))
  replace h5 : Fe w4 (w1.heap.size) (0) (R1.val) := (Sets.others hC4 h5 (by omega))
  replace h6 : Fe w4 (w1.heap.size + 1) (0) (R2.val) := (Sets.others hC4 h6 (by omega))
  replace h7 : Fe w4 (w1.heap.size + 1 + 1) (0) (R3.val) := (Sets.fe' hC4 h7)
  have hBw4 : Hid (Fr (bb) w w4) := Lib.hid (Fr.sets hBw3.out hC4 (by omega))
  clear hC4
  have ex : R2 = p.x := by rw [HR2.out, HR1.out]; exact Rp.affx hP.1
  have ey : R3 = p.y := by rw [HR3.out, HR1.out]; exact Rp.affy hP.1
  have hZ : Hid ((1 : Int) = ((R2.val % 2 : Nat) : Int)) := Lib.hid (by rw [ex]; have := hs.out; omega)
  have lY : R3.val < 57896044618658097711785492504343953926634992332820282019728792003956564819968 := Nat.lt_trans R3.isLt (by unfold pF; omega)
  have eN : encN p = R3.val + 57896044618658097711785492504343953926634992332820282019728792003956564819968 := by unfold encN; rw [ey, if_pos hs.out]
  clear ex ey hs
  go_wp2_with fail
  refine (copyEl (bb) (w1.heap.size + 1 + 1) (0) _ zs hz Ty (by omega) _ hb h7).mono ?_
  rintro e w5 ⟨rfl, hC5, hcp⟩
  have hs5 : w4.heap.size ≤ w5.heap.size := by have := hC5.size; (try simp only [alloc_size, setRow_size] at this); omega
  replace hb : w5.heap[bb]? = some (.cells (arrC (R3.val)) Ty (0, 0)) := hcp
  replace hp0 : Fe w5 (pb) (po) (X.val) := Fr.keepF hC5 hp0 (by omega)
  replace hp1 : Fe w5 (pb) (po + 5) (Y.val) := Fr.keepF hC5 hp1 (by omega)
  replace hp2 : Fe w5 (pb) (po + 10) (Z.val) := Fr.keepF hC5 hp2 (by omega)
  replace hp3 : Fe w5 (pb) (po + 15) (T.val) := Fr.keepF hC5 hp3 (by omega)
  replace h5 : Fe w5 (w1.heap.size) (0) (R1.val) := Fr.keepF hC5 h5 (by omega)
  replace h6 : Fe w5 (w1.heap.size + 1) (0) (R2.val) := Fr.keepF hC5 h6 (by omega)
  replace h7 : Fe w5 (w1.heap.size + 1 + 1) (0) (R3.val) := Fr.keepF hC5 h7 (by omega)
  have hBw5 : Hid (Fr (bb) w w5) := Lib.hid (Fr.fr hBw4.out hC5 (by omega))
  clear hC5
  have eA := arr_top R3.val lY
  rw [← eN] at eA
  have eO := or128 _ (top_lt _ lY)
  go_wp2_with fail
  try simp only [Act.put]
  refine wp_named ?_
  intro w6 ew6
  have hs6 : w5.heap.size ≤ w6.heap.size := by rw [ew6]; (try simp only [alloc_size, setRow_size]); omega
  replace hb : w6.heap[bb]? = some (.cells (arrC (R3.val)) Ty (0, 0)) := by rw [ew6]; exact hb
  replace hp0 : Fe w6 (pb) (po) (X.val) := by rw [ew6]; exact hp0
  replace hp1 : Fe w6 (pb) (po + 5) (Y.val) := by rw [ew6]; exact hp1
  replace hp2 : Fe w6 (pb) (po + 10) (Z.val) := by rw [ew6]; exact hp2
  replace hp3 : Fe w6 (pb) (po + 15) (T.val) := by rw [ew6]; exact hp3
  replace h5 : Fe w6 (w1.heap.size) (0) (R1.val) := by rw [ew6]; exact h5
  replace h6 : Fe w6 (w1.heap.size + 1) (0) (R2.val) := by rw [ew6]; exact h6
  replace h7 : Fe w6 (w1.heap.size + 1 + 1) (0) (R3.val) := by rw [ew6]; exact h7
  have hBw6 : Hid (Fr (bb) w w6) := Lib.hid (by rw [ew6]; exact hBw5.out)
  clear ew6
  refine wp_region_noPanic ?_
  refine wp_region_held_drew (S := Keep (bb) w6) (by kernel_rfl) (Keep.start _ _) ?_
  intro hS
  obtain ⟨w7, ed⟩ : ∃ u : World, u = w6.drew := ⟨_, rfl⟩
  rw [← ed] at hS ⊢
  have xhb : w7.heap[bb]? = some (.cells (arrC (R3.val)) Ty (0, 0)) := by rw [ed]; exact hb
  have xhp0 : Fe w7 (pb) (po) (X.val) := by rw [ed]; exact hp0
  have xhp1 : Fe w7 (pb) (po + 5) (Y.val) := by rw [ed]; exact hp1
  have xhp2 : Fe w7 (pb) (po + 10) (Z.val) := by rw [ed]; exact hp2
  have xhp3 : Fe w7 (pb) (po + 15) (T.val) := by rw [ed]; exact hp3
  have xh5 : Fe w7 (w1.heap.size) (0) (R1.val) := by rw [ed]; exact h5
  have xh6 : Fe w7 (w1.heap.size + 1) (0) (R2.val) := by rw [ed]; exact h6
  have xh7 : Fe w7 (w1.heap.size + 1 + 1) (0) (R3.val) := by rw [ed]; exact h7
  clear ed
  have hSz := hS.size
  refine takeAtK (i := 0) (v := .slice (some ⟨bb, 0, none⟩) 32 32) rfl (some 26) rfl (take_run rfl (fun _ _ => by go_simp)) hS ?_
  simp only [Act.put, sia, sc0, scs]
  refine takeAtK (i := 1) (v := .pointer (some ⟨bb, 31, none⟩)) rfl (some 27) rfl (take_run rfl (fun _ _ => by go_simp)) hS ?_
  simp only [Act.put, sia, sc0, scs]
  refine wpAnyH_ready (rs := [2, 3]) (by kernel_rfl) (by simp) ?_
  refine (AllReadyH.cons rfl ?_ (AllReadyH.cons rfl ?_ AllReadyH.nil))
  · intro K hK
    have cc := (Row.ofArr xhb).cell (i := 31) (by omega)
    simp only [Nat.zero_add] at cc
    unfold byV at cc
    refine ready_run rfl (some 28) rfl (.int .u8 ((byteN R3.val 31 : Nat) : Int)) w7 (by go_simp) ?_
    simp only [Act.put, sia, sc0, scs]
    clear cc
    refine hK.out _ _ hS ?_
    clear hK K
    intro _
    have hSz := hS.size
    refine wpAnyH_ready (rs := [3]) (by kernel_rfl) (by simp) ?_
    refine (AllReadyH.cons rfl ?_ AllReadyH.nil)
    intro K hK
    refine ready_call rfl (some 29) rfl 103 #[.pointer (some ⟨w1.heap.size + 1, 0, none⟩)] (by go_simp) ?_
    refine (IsNegative_any (w1.heap.size + 1) 0 _ _ xh6 1 hZ).mono ?_
    rintro e w8 ⟨rfl, hC⟩
    refine ⟨_, rfl, ?_⟩
    simp only [Act.put, sia, sc0, scs]
    have xhb : w8.heap[bb]? = some (.cells (arrC (R3.val)) Ty (0, 0)) := (heap_call hC xhb)
    have xhp0 : Fe w8 (pb) (po) (X.val) := (Fe.below_all xhp0 hC)
    have xhp1 : Fe w8 (pb) (po + 5) (Y.val) := (Fe.below_all xhp1 hC)
    have xhp2 : Fe w8 (pb) (po + 10) (Z.val) := (Fe.below_all xhp2 hC)
    have xhp3 : Fe w8 (pb) (po + 15) (T.val) := (Fe.below_all xhp3 hC)
    have xh5 : Fe w8 (w1.heap.size) (0) (R1.val) := (Fe.below_all xh5 hC)
    have xh6 : Fe w8 (w1.heap.size + 1) (0) (R2.val) := (Fe.below_all xh6 hC)
    have xh7 : Fe w8 (w1.heap.size + 1 + 1) (0) (R3.val) := (Fe.below_all xh7 hC)
    have hS := hS.call hC
    have hz8 := hC.size
    clear hC
    refine hK.out _ _ hS ?_
    clear hK K
    intro _
    have hSz := hS.size
    refine takeAtK (i := 4) (v := .int .i64 128) rfl (some 30) rfl (take_run rfl (fun _ _ => by go_simp; try rfl)) hS ?_
    simp only [Act.put, sia, sc0, scs]
    refine takeAtK (i := 5) (v := .int .u8 128) rfl (some 31) rfl (take_run rfl (fun _ _ => by go_simp; try rfl)) hS ?_
    simp only [Act.put, sia, sc0, scs]
    refine takeAtK (i := 6) (v := .int .u8 ((byteN R3.val 31 + 128 : Nat) : Int)) rfl (some 32) rfl (take_run rfl (fun _ _ => by go_simp <;> rw [eO])) hS ?_
    simp only [Act.put, sia, sc0, scs]
    refine takeAtK (i := 7) (v := .pointer (some ⟨bb, 31, none⟩)) rfl (some 33) rfl (take_run rfl (fun _ _ => by go_simp)) hS ?_
    simp only [Act.put, sia, sc0, scs]
    refine wpAnyH_ready (rs := [8]) (by kernel_rfl) (by simp) ?_
    refine (AllReadyH.cons rfl ?_ AllReadyH.nil)
    intro K hK
    have cc := (Row.ofArr xhb).cell (i := 31) (by omega)
    have ff := (Row.ofArr xhb).frozen (i := 31) (by omega)
    simp only [Nat.zero_add] at cc ff
    unfold byV at cc
    refine ready_skip rfl (none) rfl (w8.setCell ⟨bb, 31, none⟩ (.int .u8 ((byteN R3.val 31 + 128 : Nat) : Int))) (by go_simp) ?_
    simp only [Act.put, sia, sc0, scs]
    clear cc ff
    have hs9 := setCell_size w8 ⟨bb, 31, none⟩ (.int .u8 ((byteN R3.val 31 + 128 : Nat) : Int))
    have xhb : (w8.setCell ⟨bb, 31, none⟩ (.int .u8 ((byteN R3.val 31 + 128 : Nat) : Int))).heap[bb]? = some (.cells (arrC (encN p)) Ty (0, 0)) := by rw [← eA]; exact setCell_blk xhb 31 _
    have xhp0 : Fe (w8.setCell ⟨bb, 31, none⟩ (.int .u8 ((byteN R3.val 31 + 128 : Nat) : Int))) (pb) (po) (X.val) := Fe.keep xhp0 (setCell_other _ _ _ _ (by omega))
    have xhp1 : Fe (w8.setCell ⟨bb, 31, none⟩ (.int .u8 ((byteN R3.val 31 + 128 : Nat) : Int))) (pb) (po + 5) (Y.val) := Fe.keep xhp1 (setCell_other _ _ _ _ (by omega))
    have xhp2 : Fe (w8.setCell ⟨bb, 31, none⟩ (.int .u8 ((byteN R3.val 31 + 128 : Nat) : Int))) (pb) (po + 10) (Z.val) := Fe.keep xhp2 (setCell_other _ _ _ _ (by omega))
    have xhp3 : Fe (w8.setCell ⟨bb, 31, none⟩ (.int .u8 ((byteN R3.val 31 + 128 : Nat) : Int))) (pb) (po + 15) (T.val) := Fe.keep xhp3 (setCell_other _ _ _ _ (by omega))
    have xh5 : Fe (w8.setCell ⟨bb, 31, none⟩ (.int .u8 ((byteN R3.val 31 + 128 : Nat) : Int))) (w1.heap.size) (0) (R1.val) := Fe.keep xh5 (setCell_other _ _ _ _ (by omega))
    have xh6 : Fe (w8.setCell ⟨bb, 31, none⟩ (.int .u8 ((byteN R3.val 31 + 128 : Nat) : Int))) (w1.heap.size + 1) (0) (R2.val) := Fe.keep xh6 (setCell_other _ _ _ _ (by omega))
    have xh7 : Fe (w8.setCell ⟨bb, 31, none⟩ (.int .u8 ((byteN R3.val 31 + 128 : Nat) : Int))) (w1.heap.size + 1 + 1) (0) (R3.val) := Fe.keep xh7 (setCell_other _ _ _ _ (by omega))
    have hS := hS.cell 31 (.int .u8 ((byteN R3.val 31 + 128 : Nat) : Int))
    generalize w8.setCell ⟨bb, 31, none⟩ (.int .u8 ((byteN R3.val 31 + 128 : Nat) : Int)) = w9 at *
    refine hK.out _ _ hS ?_
    clear hK K
    intro _
    have hSz := hS.size
    refine wpAnyH_done (by kernel_rfl) ?_ _
    refine NoPanic.normal ?_
    have hsz := hS.size
    have hb := xhb
    have hp0 := xhp0
    have hp1 := xhp1
    have hp2 := xhp2
    have hp3 := xhp3
    have h5 := xh5
    have h6 := xh6
    have h7 := xh7
    have hBw9 : Hid (Fr (bb) w w9) := Lib.hid (Fr.keep hBw6.out hS (by first | exact Or.inl rfl | exact Or.inr (by omega)))
    clear hS
    go_wp2
    go_ret
    exact ⟨rfl, hBw9.out, hb⟩
  · intro K hK
    refine ready_call rfl (some 29) rfl 103 #[.pointer (some ⟨w1.heap.size + 1, 0, none⟩)] (by go_simp) ?_
    refine (IsNegative_any (w1.heap.size + 1) 0 _ _ xh6 1 hZ).mono ?_
    rintro e w11 ⟨rfl, hC⟩
    refine ⟨_, rfl, ?_⟩
    simp only [Act.put, sia, sc0, scs]
    have xhb : w11.heap[bb]? = some (.cells (arrC (R3.val)) Ty (0, 0)) := (heap_call hC xhb)
    have xhp0 : Fe w11 (pb) (po) (X.val) := (Fe.below_all xhp0 hC)
    have xhp1 : Fe w11 (pb) (po + 5) (Y.val) := (Fe.below_all xhp1 hC)
    have xhp2 : Fe w11 (pb) (po + 10) (Z.val) := (Fe.below_all xhp2 hC)
    have xhp3 : Fe w11 (pb) (po + 15) (T.val) := (Fe.below_all xhp3 hC)
    have xh5 : Fe w11 (w1.heap.size) (0) (R1.val) := (Fe.below_all xh5 hC)
    have xh6 : Fe w11 (w1.heap.size + 1) (0) (R2.val) := (Fe.below_all xh6 hC)
    have xh7 : Fe w11 (w1.heap.size + 1 + 1) (0) (R3.val) := (Fe.below_all xh7 hC)
    have hS := hS.call hC
    have hz11 := hC.size
    clear hC
    refine hK.out _ _ hS ?_
    clear hK K
    intro _
    have hSz := hS.size
    refine takeAtK (i := 4) (v := .int .i64 128) rfl (some 30) rfl (take_run rfl (fun _ _ => by go_simp; try rfl)) hS ?_
    simp only [Act.put, sia, sc0, scs]
    refine takeAtK (i := 5) (v := .int .u8 128) rfl (some 31) rfl (take_run rfl (fun _ _ => by go_simp; try rfl)) hS ?_
    simp only [Act.put, sia, sc0, scs]
    refine wpAnyH_ready (rs := [2]) (by kernel_rfl) (by simp) ?_
    refine (AllReadyH.cons rfl ?_ AllReadyH.nil)
    intro K hK
    have cc := (Row.ofArr xhb).cell (i := 31) (by omega)
    simp only [Nat.zero_add] at cc
    unfold byV at cc
    refine ready_run rfl (some 28) rfl (.int .u8 ((byteN R3.val 31 : Nat) : Int)) w11 (by go_simp) ?_
    simp only [Act.put, sia, sc0, scs]
    clear cc
    refine hK.out _ _ hS ?_
    clear hK K
    intro _
    have hSz := hS.size
    refine takeAtK (i := 6) (v := .int .u8 ((byteN R3.val 31 + 128 : Nat) : Int)) rfl (some 32) rfl (take_run rfl (fun _ _ => by go_simp <;> rw [eO])) hS ?_
    simp only [Act.put, sia, sc0, scs]
    refine takeAtK (i := 7) (v := .pointer (some ⟨bb, 31, none⟩)) rfl (some 33) rfl (take_run rfl (fun _ _ => by go_simp)) hS ?_
    simp only [Act.put, sia, sc0, scs]
    refine wpAnyH_ready (rs := [8]) (by kernel_rfl) (by simp) ?_
    refine (AllReadyH.cons rfl ?_ AllReadyH.nil)
    intro K hK
    have cc := (Row.ofArr xhb).cell (i := 31) (by omega)
    have ff := (Row.ofArr xhb).frozen (i := 31) (by omega)
    simp only [Nat.zero_add] at cc ff
    unfold byV at cc
    refine ready_skip rfl (none) rfl (w11.setCell ⟨bb, 31, none⟩ (.int .u8 ((byteN R3.val 31 + 128 : Nat) : Int))) (by go_simp) ?_
    simp only [Act.put, sia, sc0, scs]
    clear cc ff
    have hs12 := setCell_size w11 ⟨bb, 31, none⟩ (.int .u8 ((byteN R3.val 31 + 128 : Nat) : Int))
    have xhb : (w11.setCell ⟨bb, 31, none⟩ (.int .u8 ((byteN R3.val 31 + 128 : Nat) : Int))).heap[bb]? = some (.cells (arrC (encN p)) Ty (0, 0)) := by rw [← eA]; exact setCell_blk xhb 31 _
    have xhp0 : Fe (w11.setCell ⟨bb, 31, none⟩ (.int .u8 ((byteN R3.val 31 + 128 : Nat) : Int))) (pb) (po) (X.val) := Fe.keep xhp0 (setCell_other _ _ _ _ (by omega))
    have xhp1 : Fe (w11.setCell ⟨bb, 31, none⟩ (.int .u8 ((byteN R3.val 31 + 128 : Nat) : Int))) (pb) (po + 5) (Y.val) := Fe.keep xhp1 (setCell_other _ _ _ _ (by omega))
    have xhp2 : Fe (w11.setCell ⟨bb, 31, none⟩ (.int .u8 ((byteN R3.val 31 + 128 : Nat) : Int))) (pb) (po + 10) (Z.val) := Fe.keep xhp2 (setCell_other _ _ _ _ (by omega))
    have xhp3 : Fe (w11.setCell ⟨bb, 31, none⟩ (.int .u8 ((byteN R3.val 31 + 128 : Nat) : Int))) (pb) (po + 15) (T.val) := Fe.keep xhp3 (setCell_other _ _ _ _ (by omega))
    have xh5 : Fe (w11.setCell ⟨bb, 31, none⟩ (.int .u8 ((byteN R3.val 31 + 128 : Nat) : Int))) (w1.heap.size) (0) (R1.val) := Fe.keep xh5 (setCell_other _ _ _ _ (by omega))
    have xh6 : Fe (w11.setCell ⟨bb, 31, none⟩ (.int .u8 ((byteN R3.val 31 + 128 : Nat) : Int))) (w1.heap.size + 1) (0) (R2.val) := Fe.keep xh6 (setCell_other _ _ _ _ (by omega))
    have xh7 : Fe (w11.setCell ⟨bb, 31, none⟩ (.int .u8 ((byteN R3.val 31 + 128 : Nat) : Int))) (w1.heap.size + 1 + 1) (0) (R3.val) := Fe.keep xh7 (setCell_other _ _ _ _ (by omega))
    have hS := hS.cell 31 (.int .u8 ((byteN R3.val 31 + 128 : Nat) : Int))
    generalize w11.setCell ⟨bb, 31, none⟩ (.int .u8 ((byteN R3.val 31 + 128 : Nat) : Int)) = w12 at *
    refine hK.out _ _ hS ?_
    clear hK K
    intro _
    have hSz := hS.size
    refine wpAnyH_done (by kernel_rfl) ?_ _
    refine NoPanic.normal ?_
    have hsz := hS.size
    have hb := xhb
    have hp0 := xhp0
    have hp1 := xhp1
    have hp2 := xhp2
    have hp3 := xhp3
    have h5 := xh5
    have h6 := xh6
    have h7 := xh7
    have hBw12 : Hid (Fr (bb) w w12) := Lib.hid (Fr.keep hBw6.out hS (by first | exact Or.inl rfl | exact Or.inr (by omega)))
    clear hS
    go_wp2
    go_ret
    exact ⟨rfl, hBw12.out, hb⟩
end

section
open Go.RowKit
theorem pt_bytes (bb pb po : Nat) (X Y Z T : Fp) (p : CP) (hP : Rq p X Y Z T) (zs : Array Value) (hz : zs.size = 32) (Ty : TypeId) (hne : pb ≠ bb) (w : World) (hb : w.heap[bb]? = some (.cells zs Ty (0, 0))) (hp0 : Fe w pb (po) X.val) (hp1 : Fe w pb (po + 5) Y.val) (hp2 : Fe w pb (po + 10) Z.val) (hp3 : Fe w pb (po + 15) T.val) :
    Calls Tryd.prog 90 #[.pointer (some ⟨pb, po, none⟩), .pointer (some ⟨bb, 0, none⟩)] w fun e w' => e = .returned (.slice (some ⟨bb, 0, none⟩) 32 32) ∧ Fr bb w w' ∧ w'.heap[bb]? = some (.cells (arrC (encN p)) Ty (0, 0)) := by
  by_cases hs : p.x.val % 2 = 1
  · exact ptbytes_1 bb pb po X Y Z T p hP zs hz Ty hne (Lib.hid hs) w hb hp0 hp1 hp2 hp3
  · exact ptbytes_0 bb pb po X Y Z T p hP zs hz Ty hne (Lib.hid hs) w hb hp0 hp1 hp2 hp3
set_option maxHeartbeats 2000000 in
theorem pt_Bytes (pb po : Nat) (X Y Z T : Fp) (p : CP) (hP : Rq p X Y Z T) (w : World) (hp0 : Fe w pb (po) X.val) (hp1 : Fe w pb (po + 5) Y.val) (hp2 : Fe w pb (po + 10) Z.val) (hp3 : Fe w pb (po + 15) T.val) :
    Calls Tryd.prog 66 #[.pointer (some ⟨pb, po, none⟩)] w fun e w' => ∃ b, e = .returned (.slice (some ⟨b, 0, none⟩) 32 32) ∧ w.heap.size ≤ b ∧ Below w.heap.size w w' ∧ Row w' b 0 32 (byV (encN p)) := by
  have hpl := hp0.lt
  go_enter Tryd.func66, Tryd.ntmps66
  go_wp2_with fail
  refine (pt_bytes (w.heap.size) (pb) (po) X Y Z T p hP zL zL_size 22 (by omega) _ (heap_new_at _ _ _ rfl) (Fe.alloc hp0 _) (Fe.alloc hp1 _) (Fe.alloc hp2 _) (Fe.alloc hp3 _)).mono ?_
  rintro e w1 ⟨rfl, hC1, hcp⟩
  have hs1 : w.heap.size + 1 ≤ w1.heap.size := by have := hC1.size; (try simp only [alloc_size, setRow_size] at this); omega
  replace hp0 : Fe w1 (pb) (po) (X.val) := Fr.keepF hC1 (Fe.alloc hp0 _) (by omega)
  replace hp1 : Fe w1 (pb) (po + 5) (Y.val) := Fr.keepF hC1 (Fe.alloc hp1 _) (by omega)
  replace hp2 : Fe w1 (pb) (po + 10) (Z.val) := Fr.keepF hC1 (Fe.alloc hp2 _) (by omega)
  replace hp3 : Fe w1 (pb) (po + 15) (T.val) := Fr.keepF hC1 (Fe.alloc hp3 _) (by omega)
  replace h3 : w1.heap[w.heap.size]? = some (.cells (arrC (encN p)) 22 (0, 0)) := hcp
  have hBw1 : Hid (Below w.heap.size w w1) := Lib.hid ((below_alloc (Below.refl _ w) _).trans (hC1.below (by omega) (below_alloc (Below.refl _ w) _).size))
  clear hC1
  go_wp2
  go_ret
  exact ⟨_, rfl, by omega, hBw1.out, Row.ofArr h3⟩
set_option maxHeartbeats 2000000 in
theorem pointBytes_to (pb po : Nat) (X Y Z T : Fp) (p : CP) (hP : Rq p X Y Z T) (w : World) (hp0 : Fe w pb (po) X.val) (hp1 : Fe w pb (po + 5) Y.val) (hp2 : Fe w pb (po + 10) Z.val) (hp3 : Fe w pb (po + 15) T.val) :
    Calls Tryd.prog 31 #[.pointer (some ⟨pb, po, none⟩)] w fun e w' => e = .returned (.agg (arrC (encN p))) ∧ Below w.heap.size w w' := by
  have hpl := hp0.lt
  go_enter Tryd.func31, Tryd.ntmps31
  go_wp2_with fail
  try simp only [Act.put]
  refine wp_named ?_
  intro w1 ew1
  have hs1 : w.heap.size + 1 + 1 ≤ w1.heap.size := by rw [ew1]; (try simp only [alloc_size, setRow_size]); omega
  replace hp0 : Fe w1 (pb) (po) (X.val) := by rw [ew1]; exact (Fe.alloc (Fe.alloc hp0 _) _)
  replace hp1 : Fe w1 (pb) (po + 5) (Y.val) := by rw [ew1]; exact (Fe.alloc (Fe.alloc hp1 _) _)
  replace hp2 : Fe w1 (pb) (po + 10) (Z.val) := by rw [ew1]; exact (Fe.alloc (Fe.alloc hp2 _) _)
  replace hp3 : Fe w1 (pb) (po + 15) (T.val) := by rw [ew1]; exact (Fe.alloc (Fe.alloc hp3 _) _)
  replace h2 : w1.heap[w.heap.size]? = some (.cells (zL) 22 (0, 0)) := by rw [ew1]; exact (heap_old _ (heap_new_at _ _ _ rfl))
  replace h3 : w1.heap[w.heap.size + 1]? = some (.cells (zL) 22 (0, 0)) := by rw [ew1]; exact (heap_new_at _ _ _ (by simp only [alloc_size, setRow_size]))
  have hBw1 : Hid (Below w.heap.size w w1) := Lib.hid (by rw [ew1]; exact (below_alloc (below_alloc (Below.refl _ w) _) _))
  clear ew1
  refine wp_region_noPanic ?_
  refine wp_region_held_drew (S := Keep (w.heap.size + 1) w1) (by kernel_rfl) (Keep.start _ _) ?_
  intro hS
  obtain ⟨w2, ed⟩ : ∃ u : World, u = w1.drew := ⟨_, rfl⟩
  rw [← ed] at hS ⊢
  have xhp0 : Fe w2 (pb) (po) (X.val) := by rw [ed]; exact hp0
  have xhp1 : Fe w2 (pb) (po + 5) (Y.val) := by rw [ed]; exact hp1
  have xhp2 : Fe w2 (pb) (po + 10) (Z.val) := by rw [ed]; exact hp2
  have xhp3 : Fe w2 (pb) (po + 15) (T.val) := by rw [ed]; exact hp3
  have xh2 : w2.heap[w.heap.size]? = some (.cells (zL) 22 (0, 0)) := by rw [ed]; exact h2
  have xh3 : w2.heap[w.heap.size + 1]? = some (.cells (zL) 22 (0, 0)) := by rw [ed]; exact h3
  clear ed
  have hSz := hS.size
  clear xh2
  refine takeAtK (i := 0) (v := .slice (some ⟨w.heap.size + 1, 0, none⟩) 32 32) rfl (some 4) rfl (take_run rfl (fun _ _ => by go_simp)) hS ?_
  simp only [Act.put, sia, sc0, scs]
  refine takeAtK (i := 1) (v := .pointer (some ⟨pb, po, none⟩)) rfl (some 5) rfl (take_run rfl (fun _ _ => by go_simp)) hS ?_
  simp only [Act.put, sia, sc0, scs]
  refine wpAnyH_ready (rs := [2]) (by kernel_rfl) (by simp) ?_
  refine (AllReadyH.cons rfl ?_ AllReadyH.nil)
  intro K hK
  refine ready_call rfl (some 6) rfl 66 #[.pointer (some ⟨pb, po, none⟩)] (by go_simp) ?_
  refine (pt_Bytes (pb) (po) X Y Z T _ hP _ xhp0 xhp1 xhp2 xhp3).mono ?_
  rintro e w3 ⟨b2_2, rfl, hlb2_2, hC, xhr2_2⟩
  refine ⟨_, rfl, ?_⟩
  simp only [Act.put, sia, sc0, scs]
  have xhp0 : Fe w3 (pb) (po) (X.val) := (Fe.below_all xhp0 hC)
  have xhp1 : Fe w3 (pb) (po + 5) (Y.val) := (Fe.below_all xhp1 hC)
  have xhp2 : Fe w3 (pb) (po + 10) (Z.val) := (Fe.below_all xhp2 hC)
  have xhp3 : Fe w3 (pb) (po + 15) (T.val) := (Fe.below_all xhp3 hC)
  have xh3 : w3.heap[w.heap.size + 1]? = some (.cells (zL) 22 (0, 0)) := (heap_call hC xh3)
  have hS := hS.call hC
  have hz3 := hC.size
  clear hC
  have hlb2_2 : w2.heap.size ≤ b2_2 := by (try simp only [alloc_size, setRow_size] at hlb2_2); omega
  have hub2_2 := xhr2_2.lt
  refine hK.out _ _ hS ?_
  clear hK K
  intro _
  have hSz := hS.size
  refine wpAnyH_ready (rs := [3]) (by kernel_rfl) (by simp) ?_
  refine (AllReadyH.cons rfl ?_ AllReadyH.nil)
  intro K hK
  refine ready_copy32 rfl (some 7) rfl _ _ rfl (w.heap.size + 1) (b2_2) (0) (32) (32) ((encN p)) rfl rfl (zL) zL_size 22 xh3 xhr2_2 ?_
  simp only [Act.put, sia, sc0, scs]
  have xhp0 : Fe (w3.setRow (w.heap.size + 1) (arrC ((encN p)))) (pb) (po) (X.val) := (Fe.keep xhp0 (setRow_other _ _ _ _ (by omega)))
  have xhp1 : Fe (w3.setRow (w.heap.size + 1) (arrC ((encN p)))) (pb) (po + 5) (Y.val) := (Fe.keep xhp1 (setRow_other _ _ _ _ (by omega)))
  have xhp2 : Fe (w3.setRow (w.heap.size + 1) (arrC ((encN p)))) (pb) (po + 10) (Z.val) := (Fe.keep xhp2 (setRow_other _ _ _ _ (by omega)))
  have xhp3 : Fe (w3.setRow (w.heap.size + 1) (arrC ((encN p)))) (pb) (po + 15) (T.val) := (Fe.keep xhp3 (setRow_other _ _ _ _ (by omega)))
  have xh3 : (w3.setRow (w.heap.size + 1) (arrC ((encN p)))).heap[w.heap.size + 1]? = some (.cells (arrC ((encN p))) 22 (0, 0)) := (setRow_heap _ _ _ _ _ _ xh3)
  have xhr2_2 : Row (w3.setRow (w.heap.size + 1) (arrC ((encN p)))) (b2_2) (0) 32 (byV (encN p)) := (Row.keep xhr2_2 (setRow_other _ _ _ _ (by omega)))
  have hS := hS.store (arrC ((encN p)))
  generalize w3.setRow (w.heap.size + 1) (arrC ((encN p))) = w4 at *
  refine hK.out _ _ hS ?_
  clear hK K
  intro _
  have hSz := hS.size
  refine wpAnyH_done (by kernel_rfl) ?_ _
  refine NoPanic.normal ?_
  have hsz := hS.size
  have h2 : w4.heap[w.heap.size]? = some (.cells (zL) 22 (0, 0)) := hS.old h2 (by omega)
  have hp0 := xhp0
  have hp1 := xhp1
  have hp2 := xhp2
  have hp3 := xhp3
  have h3 := xh3
  have hr2_2 := xhr2_2
  have hBw4 : Hid (Below w.heap.size w w4) := Lib.hid (hBw1.out.trans (hS.below (by omega) hBw1.out.size))
  clear hS
  go_wp2_with (first
    | ((with_reducible refine at_dst 8 ?_); refine wpList_load_row rfl 22 _ rfl (w.heap.size + 1) rfl 22 (arrC ((encN p))) (0, 0) _ h3 under32 rfl (info32_of (arrC ((encN p))) (arrC_size _)) ?_)
    | ((with_reducible refine at_store 2 ?_); refine wpList_store_row rfl 22 _ _ rfl (w.heap.size) (arrC ((encN p))) rfl rfl 22 (zL) h2 (info32_of (arrC ((encN p))) (arrC_size _)) (zL_size.trans (arrC_size _).symm) (arrC_one _) ?_))
  refine bodyPost_ret (results_cell_row rfl _ _ (w.heap.size) 22 (arrC ((encN p))) (0, 0) _ rfl (setRow_heap _ _ _ _ _ _ h2) under32 rfl (info32_of (arrC ((encN p))) (arrC_size _))) rfl ⟨rfl, (below_setRow hBw4.out (by omega) _)⟩
end

end Go.Proofs.YtcenlinpbpbpoaaDoor
