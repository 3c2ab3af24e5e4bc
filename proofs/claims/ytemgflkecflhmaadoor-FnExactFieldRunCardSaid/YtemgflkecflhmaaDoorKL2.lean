/- Parts of the proof: The field's bytes, written: lePutUint64, bytes, Bytes, elementOf. elementBytes, and the kit of the thin package's functions. The thin package's FieldAdd. The kit of the laws: arrays compared, regions that only make memory, number. An argument of type [32]byte opened: it is the 32 bytes of a number. The kit of generated walks: blocks known whole, worlds named, regions in whatever order. The package's variables: feZero, feOne, sqrtM1 point to elements; what holds of them stays where only new memory is written. Negate, Zero, One: over the package's variables. The laid variables, opened. Arguments of other types opened: uint32, int. A slice that the call owns, told row by row: read, written, grown. Results of several values: rows and slots. What a call leaves alone that writes one old block alone: frames of walks over structs. A step's cells. Which registers a step uses: both sides' little functions. The field's 128-bit words: mul, addMul, addMul19, addMul38, shiftRightBy51. Columns of 128-bit words: words on cells. Mult32. compareBytes, Equal, IsNegative; the thin package's FieldEqual and FieldIsNegative. Points: what projective coordinates stand for, sums by both roads, what a point is told by. The reference's numbers: four words. Numbers of the reference compared. Kit for walks over points: elements compared, parts of rows loaded, points of the reference built, slices built. The reference's numbers: rest, plus, minus. The reference's numbers: plus, minus. The reference's bit. The reference's numbers: times, power. The reference's times under a name. -/
import Derived.ChangeBears2
import Derived.ChangeKeysEq
import Derived.ChangeVars
import Derived.Deep.DeepCutAuto
import Derived.Deep.Fields
import Derived.Deep.MidRow
import Derived.Deep.Quiet
import Derived.Deep.RegionHeld3
import Derived.Deep.WholeRow
import Derived.Great.BuildSlice
import Derived.Great.Walk
import Derived.LaidMore
import Derived.Laws.AppendOwn
import Derived.Laws.CopyOwn
import Derived.Laws.OwnMore
import Derived.Laws.StructEq
import Derived.Laws.Tables
import Derived.LoopTactic
import Derived.OpenShut
import Derived.ProofKit
import Derived.StillTailTactics
import Derived.Stop.Joined
import Derived.WideKeyArgs
import Derived.Test.YtemgflkecflhmaaDoorKHF3
import Derived.Test.YtemgflkecflhmaaDoorKHGr
import Derived.Test.YtemgflkecflhmaaDoorKL0
import Derived.Test.YtemgflkecflhmaaDoorKL1
set_option maxRecDepth 4000
set_option linter.unusedSimpArgs false
set_option linter.unusedVariables false
namespace Go.Proofs.YtemgflkecflhmaaDoor
section
open Go.RowKit

theorem alloc_size (w : World) (o : Obj) : (w.alloc o).heap.size = w.heap.size + 1 := by
  show (w.heap.push o).size = _
  simp

theorem byV_shift (X j : Nat) : byV X j = .int .u8 ((X : Int) / 2 ^ (8 * j) % 256) := by
  unfold byV byteN
  rw [show (256 : Nat) = 2 ^ 8 from rfl, ← Nat.pow_mul]
  simp

set_option maxHeartbeats 1000000 in
theorem lePut_any (b off X len cap : Nat) (vs : Nat → Value) (w : World) (h : Row w b off 8 vs) (hl : 8 ≤ len) :
    Calls Tryd.prog 74 #[.slice (some ⟨b, off, none⟩) len cap, .int .u64 (X : Int)] w fun e w' => e = .returned (.tuple #[]) ∧ Wr w w' b off 8 (byV X) := by
  have hh := Lib.hid h; clear h
  go_enter Tryd.func74, Tryd.ntmps74
  go_wp2
  go_loopw [4] (fun i wr => ∃ k : Nat, k ≤ 8 ∧ i = .int .i64 (k : Int) ∧ Hid (Wr w wr b off 8 (fun j => if j < k then byV X j else vs j))) (fun i _ => 8 - (intOf i).toNat)
  case atStart =>
    exact ⟨0, by omega, rfl, Lib.hid ((Wr.start hh.out).congr fun i _ => by simp)⟩
  case round =>
    obtain ⟨k, hk, rfl, hw⟩ := hrel
    by_cases hlt : k < 8
    · have hf := (hw.out.row hh.out).frozen (i := k) hlt
      have hc := (hw.out.row hh.out).cell (i := k) hlt
      rw [if_neg (by omega)] at hc
      go_wp2
      go_roundw
      case rel =>
        refine ⟨k + 1, by omega, by go_num, Lib.hid ?_⟩
        refine (hw.out.set k _).congr fun j hj => ?_
        by_cases hjk : j = k
        · subst hjk
          rw [if_pos (by omega), if_pos rfl]
          exact byV_shift X j
        · rw [if_neg hjk]
          by_cases h2 : j < k
          · rw [if_pos (by omega), if_pos h2]
          · rw [if_neg (by omega), if_neg h2]
      case measure => simp [intOf]; omega
    · go_wp2
      go_end0
      refine ⟨rfl, hw.out.congr fun j hj => ?_⟩
      rw [if_pos (by omega)]

theorem or_word (a b s : Nat) (hb : b < 2 ^ s) (h : a * 2 ^ s + b < 18446744073709551616) : bits .or .u64 ((a * 2 ^ s : Nat) : Int) (b : Int) = ((a * 2 ^ s + b : Nat) : Int) := by
  have h := bits_or_u64_nat (a * 2 ^ s) b (by omega) (by omega)
  have e : a * 2 ^ s ||| b = a * 2 ^ s + b := by
    have := Nat.shiftLeft_add_eq_or_of_lt (i := s) (b := b) hb a
    rw [Nat.shiftLeft_eq] at this
    exact this.symm
  rw [e] at h
  exact h

/-- the four words of 51-bit limbs -/
def wd0 (K : L5) : Nat := K.l1 % 8192 * 2251799813685248 + K.l0
def wd1 (K : L5) : Nat := K.l2 % 67108864 * 274877906944 + K.l1 / 8192
def wd2 (K : L5) : Nat := K.l3 % 549755813888 * 33554432 + K.l2 / 67108864
def wd3 (K : L5) : Nat := K.l4 * 4096 + K.l3 / 549755813888

theorem wd0_eq (K : L5) (h : Canon K) : bits .or .u64 (IntKind.u64.wrap ((K.l1 : Int) * 2251799813685248)) (K.l0 : Int) = (wd0 K : Int) := by
  unfold Canon at h
  have e : IntKind.u64.wrap ((K.l1 : Int) * 2251799813685248) = ((K.l1 % 8192 * 2 ^ 51 : Nat) : Int) := by rw [IntKind.wrap_u64]; omega
  rw [e]
  exact or_word _ _ 51 (by omega) (by omega)
theorem wd1_eq (K : L5) (h : Canon K) : bits .or .u64 (IntKind.u64.wrap ((K.l2 : Int) * 274877906944)) ((K.l1 : Int) / 8192) = (wd1 K : Int) := by
  unfold Canon at h
  have e : IntKind.u64.wrap ((K.l2 : Int) * 274877906944) = ((K.l2 % 67108864 * 2 ^ 38 : Nat) : Int) := by rw [IntKind.wrap_u64]; omega
  rw [e, show (K.l1 : Int) / 8192 = ((K.l1 / 8192 : Nat) : Int) by omega]
  exact or_word _ _ 38 (by omega) (by omega)
theorem wd2_eq (K : L5) (h : Canon K) : bits .or .u64 (IntKind.u64.wrap ((K.l3 : Int) * 33554432)) ((K.l2 : Int) / 67108864) = (wd2 K : Int) := by
  unfold Canon at h
  have e : IntKind.u64.wrap ((K.l3 : Int) * 33554432) = ((K.l3 % 549755813888 * 2 ^ 25 : Nat) : Int) := by rw [IntKind.wrap_u64]; omega
  rw [e, show (K.l2 : Int) / 67108864 = ((K.l2 / 67108864 : Nat) : Int) by omega]
  exact or_word _ _ 25 (by omega) (by omega)
theorem wd3_eq (K : L5) (h : Canon K) : bits .or .u64 ((K.l4 : Int) * 4096) ((K.l3 : Int) / 549755813888) = (wd3 K : Int) := by
  unfold Canon at h
  have e : (K.l4 : Int) * 4096 = ((K.l4 * 2 ^ 12 : Nat) : Int) := by omega
  rw [e, show (K.l3 : Int) / 549755813888 = ((K.l3 / 549755813888 : Nat) : Int) by omega]
  exact or_word _ _ 12 (by omega) (by omega)

theorem wd_val (K : L5) (h : Canon K) : val5 K = wd0 K + 18446744073709551616 * wd1 K + 340282366920938463463374607431768211456 * wd2 K + 6277101735386680763835789423207666416102355444464034512896 * wd3 K ∧
    wd0 K < 18446744073709551616 ∧ wd1 K < 18446744073709551616 ∧ wd2 K < 18446744073709551616 ∧ wd3 K < 18446744073709551616 := by
  unfold Canon at h
  unfold val5 wd0 wd1 wd2 wd3
  omega

theorem byV_word (x m U j : Nat) (hU : x / 256 ^ m % 18446744073709551616 = U) (hj : j < 8) : byV x (m + j) = byV U j := by
  unfold byV
  rw [byteN_shift, ← hU]
  have := byteN_mod (x / 256 ^ m) 8 j hj
  rw [← this]

theorem words_bytes (x U0 U1 U2 U3 : Nat) (hx : x = U0 + 18446744073709551616 * U1 + 340282366920938463463374607431768211456 * U2 + 6277101735386680763835789423207666416102355444464034512896 * U3)
    (h0 : U0 < 18446744073709551616) (h1 : U1 < 18446744073709551616) (h2 : U2 < 18446744073709551616) (h3 : U3 < 18446744073709551616) (i : Nat) (hi : i < 32) :
    byV x i = if 24 ≤ i ∧ i < 24 + 8 then byV U3 (i - 24) else if 16 ≤ i ∧ i < 16 + 8 then byV U2 (i - 16) else if 8 ≤ i ∧ i < 8 + 8 then byV U1 (i - 8) else byV U0 i := by
  by_cases c3 : 24 ≤ i
  · rw [if_pos (by omega), ← byV_word x 24 U3 (i - 24) (by omega) (by omega)]
    congr 1; omega
  · rw [if_neg (by omega)]
    by_cases c2 : 16 ≤ i
    · rw [if_pos (by omega), ← byV_word x 16 U2 (i - 16) (by omega) (by omega)]
      congr 1; omega
    · rw [if_neg (by omega)]
      by_cases c1 : 8 ≤ i
      · rw [if_pos (by omega), ← byV_word x 8 U1 (i - 8) (by omega) (by omega)]
        congr 1; omega
      · rw [if_neg (by omega), ← byV_word x 0 U0 i (by omega) (by omega)]
        congr 1; omega

set_option maxHeartbeats 1000000 in
theorem bytes_any (vb vo ob x : Nat) (w : World) (vs : Nat → Value) (hF : Fe w vb vo x) (ho : Row w ob 0 32 vs) :
    Calls Tryd.prog 57 #[.pointer (some ⟨vb, vo, none⟩), .pointer (some ⟨ob, 0, none⟩)] w fun e w' => e = .returned (.slice (some ⟨ob, 0, none⟩) 32 32) ∧ Wr w w' ob 0 32 (byV x) := by
  obtain ⟨L, hE, hB, hx⟩ := hF
  have h0 := hE.c0; have h1 := hE.c1; have h2 := hE.c2; have h3 := hE.c3; have h4 := hE.c4
  have ho' := Lib.hid ho
  have hx' := Lib.hid hx
  have hB' := Lib.hid hB
  clear hE ho hx hB
  go_enter Tryd.func57, Tryd.ntmps57
  go_wp2_with fail
  have hn : El (w.alloc (.cells #[.int .u64 (L.l0 : Int), .int .u64 (L.l1 : Int), .int .u64 (L.l2 : Int), .int .u64 (L.l3 : Int), .int .u64 (L.l4 : Int)] 50)) w.heap.size 0 L := by
    refine Row.new _ _ _ _ _ ?_
    intro i hi
    have : i = 0 ∨ i = 1 ∨ i = 2 ∨ i = 3 ∨ i = 4 := by omega
    rcases this with rfl | rfl | rfl | rfl | rfl <;> rfl
  refine (reduce_any w.heap.size 0 x _ ⟨L, hn, hB'.out, hx'.out⟩).mono ?_
  rintro e w1 ⟨rfl, K, hC, hv, hw1⟩
  have hK := hw1.row hn
  have k0 := El.c0 hK; have k1 := El.c1 hK; have k2 := El.c2 hK; have k3 := El.c3 hK; have k4 := El.c4 hK
  have hb1 : Below w.heap.size w w1 := (Below.alloc (Below.refl _ w) (Nat.le_refl _) _).trans (hw1.below (Nat.le_refl _) (by rw [alloc_size]; omega))
  have hr1 := ho'.out.below hb1 ho'.out.lt
  have e0 := wd0_eq K hC; have e1 := wd1_eq K hC; have e2 := wd2_eq K hC; have e3 := wd3_eq K hC
  obtain ⟨hval, v0, v1, v2, v3⟩ := wd_val K hC
  have hval' := Lib.hid (hv.symm.trans hval); clear hval
  have hb1' := Lib.hid hb1; clear hb1
  have hr1' := Lib.hid hr1; clear hr1
  obtain ⟨q0, q1, q2, q3, q4⟩ := hC
  clear h0 h1 h2 h3 h4 hn hK hw1 hv
  go_wp2_with fail
  clear e0 e1 e2 e3 k0 k1 k2 k3 k4 q0 q1 q2 q3 q4
  generalize wd0 K = U0 at *; generalize wd1 K = U1 at *; generalize wd2 K = U2 at *; generalize wd3 K = U3 at *
  refine (lePut_any ob 0 U0 32 32 _ w1 (hr1'.out.sub 0 8 (by omega)) (by omega)).mono ?_
  rintro e w2 ⟨rfl, hw2⟩
  have hw := Lib.hid ((Wr.part (off := 0) (m := 0) hw2 hr1'.out (by omega))); clear hw2
  go_wp2_with fail
  refine (lePut_any ob 8 U1 24 24 _ w2 ((hw.out.row hr1'.out).sub 8 8 (by omega)) (by omega)).mono ?_
  rintro e w3 ⟨rfl, hw3⟩
  have hw := Lib.hid (hw.out.trans (Wr.part (off := 0) (m := 8) hw3 (hw.out.row hr1'.out) (by omega))); clear hw3
  go_wp2_with fail
  refine (lePut_any ob 16 U2 16 16 _ w3 ((hw.out.row hr1'.out).sub 16 8 (by omega)) (by omega)).mono ?_
  rintro e w4 ⟨rfl, hw4⟩
  have hw := Lib.hid (hw.out.trans (Wr.part (off := 0) (m := 16) hw4 (hw.out.row hr1'.out) (by omega))); clear hw4
  go_wp2_with fail
  refine (lePut_any ob 24 U3 8 8 _ w4 ((hw.out.row hr1'.out).sub 24 8 (by omega)) (by omega)).mono ?_
  rintro e w5 ⟨rfl, hw5⟩
  have hw := Lib.hid (hw.out.trans (Wr.part (off := 0) (m := 24) hw5 (hw.out.row hr1'.out) (by omega))); clear hw5
  go_wp2
  go_ret
  refine ⟨rfl, (Wr.ahead hb1'.out hw.out ho'.out.lt).congr fun i hi => ?_⟩
  rw [words_bytes x U0 U1 U2 U3 hval'.out v0 v1 v2 v3 i hi]
  by_cases c3 : 24 ≤ i
  · simp [c3, hi]
  · by_cases c2 : 16 ≤ i
    · have : i < 24 := by omega
      simp [c3, c2, this]
    · by_cases c1 : 8 ≤ i
      · have : i < 16 := by omega
        simp [c3, c2, c1, this]
      · have : i < 8 := by omega
        simp [c3, c2, c1, this]

theorem Row.newAny (w : World) (cs : Array Value) (t : TypeId) : Row (w.alloc (.cells cs t)) w.heap.size 0 cs.size (fun i => cs.getD i undef) := by
  refine Row.new w cs t _ _ ?_
  intro i hi
  simp [hi]

theorem Bytes_any (vb vo x : Nat) (w : World) (hF : Fe w vb vo x) :
    Calls Tryd.prog 34 #[.pointer (some ⟨vb, vo, none⟩)] w fun e w' => ∃ b, e = .returned (.slice (some ⟨b, 0, none⟩) 32 32) ∧ w.heap.size ≤ b ∧ Below w.heap.size w w' ∧ Row w' b 0 32 (byV x) := by
  go_enter Tryd.func34, Tryd.ntmps34
  go_wp2_with fail
  refine (bytes_any vb vo w.heap.size x _ _ (hF.alloc _) (Row.newAny _ _ _)).mono ?_
  rintro e w1 ⟨rfl, hw1⟩
  go_wp2
  go_ret
  refine ⟨_, rfl, Nat.le_refl _, (Below.alloc (Below.refl _ w) (Nat.le_refl _) _).trans (hw1.below (Nat.le_refl _) (by rw [alloc_size]; omega)), hw1.row (Row.newAny _ _ _)⟩

def valN (N : Nat) : Nat := N % 57896044618658097711785492504343953926634992332820282019728792003956564819968 % pF

theorem arr_size (N : Nat) : ((List.range 32).map (byV N)).toArray.size = 32 := by simp
theorem arr_get (N i : Nat) (hi : i < 32) : ((List.range 32).map (byV N)).toArray[i]? = some (byV N i) := by simp [hi]

theorem elementOf_any (N : Nat) (w : World) :
    Calls Tryd.prog 7 #[arrV N] w fun e w' => ∃ b, e = .returned (.pointer (some ⟨b, 0, none⟩)) ∧ w.heap.size ≤ b ∧ Below w.heap.size w w' ∧ Fe w' b 0 (valN N) := by
  unfold arrV
  have hg := fun i hi => arr_get N i hi
  generalize ((List.range 32).map (byV N)).toArray = cs at *
  have hg' := Lib.hid hg; clear hg
  go_enter Tryd.func7, Tryd.ntmps7
  go_wp2_with fail
  have hz : El ((w.alloc (.cells cs 27)).alloc (.cells #[.int .u64 0, .int .u64 0, .int .u64 0, .int .u64 0, .int .u64 0] 50)) (w.heap.size + 1) 0 ⟨0, 0, 0, 0, 0⟩ := by
    have := Row.new (w.alloc (.cells cs 27)) #[.int .u64 0, .int .u64 0, .int .u64 0, .int .u64 0, .int .u64 0] 50 5 (limbV ⟨0, 0, 0, 0, 0⟩) (by
      intro i hi
      have : i = 0 ∨ i = 1 ∨ i = 2 ∨ i = 3 ∨ i = 4 := by omega
      rcases this with rfl | rfl | rfl | rfl | rfl <;> rfl)
    rw [alloc_size] at this
    exact this
  have hr : Row ((w.alloc (.cells cs 27)).alloc (.cells #[.int .u64 0, .int .u64 0, .int .u64 0, .int .u64 0, .int .u64 0] 50)) w.heap.size 0 32 (byV N) :=
    (Row.new w cs _ 32 (byV N) hg'.out).alloc _
  refine (setBytes_any (w.heap.size + 1) 0 w.heap.size 0 N 32 _ _ hz hr (by omega) (by omega)).mono ?_
  rintro e w1 ⟨rfl, hw1⟩
  go_wp2
  go_ret
  refine ⟨_, rfl, by omega, ?_, hw1.fe hz⟩
  exact ((Below.alloc (Below.refl _ w) (Nat.le_refl _) _).alloc (by rw [alloc_size]; omega) _).trans (hw1.below (by omega) (by rw [alloc_size, alloc_size]; omega))
end
section
open Go.RowKit

def arrC (N : Nat) : Array Value := ((List.range 32).map (byV N)).toArray
theorem arrV_eq (N : Nat) : arrV N = .agg (arrC N) := rfl
theorem arrC_size (N : Nat) : (arrC N).size = 32 := by simp [arrC]
theorem arrC_one (N : Nat) : (arrC N).all (·.oneCell') = true := by
  refine Array.all_eq_true_iff_forall_mem.2 fun v hv => ?_
  simp only [arrC, List.mem_toArray, List.mem_map] at hv
  obtain ⟨i, _, rfl⟩ := hv
  rfl
theorem info32 : (Tryd.prog.info? 27).map (·.size) = some 32 := by kernel_rfl
theorem under32 : Tryd.prog.underlying 27 = some (.array 32 5) := by kernel_rfl
theorem underBs : Tryd.prog.underlying 55 = some (.slice 5) := by kernel_rfl
theorem info8 : (Tryd.prog.info? 5).map (·.size) = some 1 := by kernel_rfl

theorem Row.rangeAt {w : World} {b n : Nat} {vs : Nat → Value} (h : Row w b 0 n vs) : ∀ j v, ((List.range n).map vs)[j]? = some v → w.cell? ((⟨b, 0, none⟩ : Addr).add j) = some v := by
  intro j v hv
  have hj : j < n := by
    rcases Nat.lt_or_ge j n with h | h
    · exact h
    · simp [h] at hv
  have e : (⟨b, 0, none⟩ : Addr).add j = ⟨b, 0 + j, none⟩ := by unfold Addr.add; split <;> simp_all
  rw [e, h.cell hj]
  simpa [hj] using hv

theorem two_new1 (w : World) (o o' : Obj) : ((w.alloc o).alloc o').drew.heap[w.heap.size + 1]? = some o' := by
  have := heap_new (w.alloc o) o'
  rw [alloc_size] at this
  exact this
theorem two_new0 (w : World) (o o' : Obj) : ((w.alloc o).alloc o').drew.heap[w.heap.size]? = some o :=
  (Below.heap_alloc (w.alloc o) o' w.heap.size (by rw [alloc_size]; omega)).trans (heap_new w o)
theorem splice_all (cur cs : List Value) (h : cur.length = cs.length) : splice cur 0 cs = cs := by simp [splice, ← h]


theorem three_new2 (w : World) (a b c : Obj) : (((w.alloc a).alloc b).alloc c).heap[w.heap.size + 1 + 1]? = some c := by
  have := heap_new ((w.alloc a).alloc b) c
  rw [alloc_size, alloc_size] at this
  exact this
theorem three_new1 (w : World) (a b c : Obj) : (((w.alloc a).alloc b).alloc c).heap[w.heap.size + 1]? = some b := by
  have := heap_new (w.alloc a) b
  rw [alloc_size] at this
  exact (Below.heap_alloc ((w.alloc a).alloc b) c (w.heap.size + 1) (by rw [alloc_size, alloc_size]; omega)).trans this
theorem three_new0 (w : World) (a b c : Obj) : (((w.alloc a).alloc b).alloc c).heap[w.heap.size]? = some a :=
  (Below.heap_alloc ((w.alloc a).alloc b) c w.heap.size (by rw [alloc_size, alloc_size]; omega)).trans (two_new0 w a b)

def z5 : L5 := ⟨0, 0, 0, 0, 0⟩
theorem El.newz (w : World) : El (w.alloc (.cells #[.int .u64 0, .int .u64 0, .int .u64 0, .int .u64 0, .int .u64 0] 50)) w.heap.size 0 z5 := by
  refine Row.new _ _ _ _ _ ?_
  intro i hi
  have : i = 0 ∨ i = 1 ∨ i = 2 ∨ i = 3 ∨ i = 4 := by omega
  rcases this with rfl | rfl | rfl | rfl | rfl <;> rfl
theorem apart0 (b b' : Nat) : Apart b 0 b' 0 := by
  unfold Apart
  by_cases h : b = b'
  · exact Or.inl ⟨h, rfl⟩
  · exact Or.inr (Or.inl h)
theorem Sets.block {w w' : World} {b off x : Nat} (h : Sets w w' b off x) (k : Nat) (hk : k < w.heap.size) (hne : k ≠ b) : w'.heap[k]? = w.heap[k]? := by
  obtain ⟨_, _, _, hw⟩ := h
  exact hw.other k hk hne
theorem yieldsIf_load_row {P : Program} {ops : Array Oper} {op : Oper} {a : Act} {n : Nat} {w0 : World} (hw : Region.wanted op (yielded ops a.tmps) = true) (ty : TypeId) (x : Operand) (ho : op.op = .load ty x)
    (g : Nat) (hx : a.eval x = .pointer (some ⟨g, 0, none⟩)) (t : TypeId) (cs : Array Value) (fr : Nat × Nat) (hg : w0.heap[g]? = some (.cells cs t fr)) (hlt : g < n) {d : TypeDesc}
    (hu : P.underlying ty = some d) (hd : (match d with | .struct _ | .array _ _ => true | _ => false) = true) (hi : (P.info? ty).map (·.size) = some cs.size) : YieldsIf P ops (Below n w0) op (.agg cs) a :=
  .inl ⟨hw, fun w hB => by
    unfold execOp
    simp only [ho, hx, Instr.loadAt, Instr.sureAddr, Sem.run_bind, Sem.run_pure, Result.andThen_ok, run_loadVar_row w g t ty cs fr d ((hB.block g hlt).trans hg) hu hd hi]⟩

set_option maxHeartbeats 1000000 in
theorem elementBytes_any (vb vo x : Nat) (w : World) (hF : Fe w vb vo x) :
    Calls Tryd.prog 11 #[.pointer (some ⟨vb, vo, none⟩)] w fun e w' => e = .returned (arrV x) ∧ Below w.heap.size w w' := by
  have hF' := Lib.hid hF; clear hF
  rw [arrV_eq]
  go_enter Tryd.func11, Tryd.ntmps11
  go_wp2
  obtain ⟨zs, hzs⟩ : ∃ zs : Array Value, zs = #[.int .u8 0, .int .u8 0, .int .u8 0, .int .u8 0, .int .u8 0, .int .u8 0, .int .u8 0, .int .u8 0, .int .u8 0, .int .u8 0, .int .u8 0, .int .u8 0, .int .u8 0, .int .u8 0, .int .u8 0, .int .u8 0, .int .u8 0, .int .u8 0, .int .u8 0, .int .u8 0, .int .u8 0, .int .u8 0, .int .u8 0, .int .u8 0, .int .u8 0, .int .u8 0, .int .u8 0, .int .u8 0, .int .u8 0, .int .u8 0, .int .u8 0, .int .u8 0] := ⟨_, rfl⟩
  have hz32 : zs.size = 32 := by rw [hzs]; rfl
  rw [← hzs]
  clear hzs
  go_region_held3 (fun _ => True) (trivial)
    (first
      | (go_at_call 34
         refine (Bytes_any vb vo x _ (Fe.drew (Fe.alloc (Fe.alloc hF'.out _) _))).mono ?_
         rintro e w1 ⟨b, rfl, hb, hB, hR⟩
         have hb1 : w1.heap[w.heap.size + 1]? = some (.cells zs 27 (0, 0)) := (hB.block (w.heap.size + 1) (by simp)).trans (two_new1 w _ _)
         have hb0 : w1.heap[w.heap.size]? = some (.cells zs 27 (0, 0)) := (hB.block (w.heap.size) (by simp; omega)).trans (two_new0 w _ _)
         have hbw := Lib.hid (show Below w.heap.size w w1 from (((Below.refl _ w).alloc (Nat.le_refl _) _).alloc (by simp) _).drew.trans (hB.mono (by simp; omega)))
         clear hB)
      | (refine step_copy_splice rfl _ _ _ _ rfl 5 underBs info8 (some ⟨w.heap.size + 1, 0, none⟩) (some ⟨b, 0, none⟩) 32 32 32 32 rfl rfl (w.heap.size + 1) 0 zs.toList 27 hb1 ((List.range 32).map (byV x)) (by simp) (fun _ => ⟨rfl, _, rfl, hR.rangeAt⟩) (by simp [hz32]) (by simp [byV, Value.oneCell']) (w.heap.size + 1) w1 (Below.refl _ _) (Nat.le_refl _) ?_
         intro w2 hw2 hbw2))
  have hl : w2.heap[w.heap.size + 1]? = some (.cells (arrC x) 27 (0, 0)) := by
    have := hw2.out
    rw [splice_all _ _ (by simp [hz32])] at this
    exact this
  have hs : w2.heap[w.heap.size]? = some (.cells zs 27 (0, 0)) := (hbw2.block _ (by omega)).trans hb0
  have hq := arrC_size x
  have ho := arrC_one x
  have hbw2' := Lib.hid (hbw.out.trans (hbw2.mono (by omega)))
  clear hw2 hbw2 hb1 hb0 hR hb hF' hbw
  have hi : (Tryd.prog.info? 27).map (·.size) = some (arrC x).size := info32.trans (by rw [hq])
  go_wp2_with (first
    | (refine wpList_load_row rfl 27 _ rfl (w.heap.size + 1) rfl 27 (arrC x) (0, 0) _ hl under32 rfl hi ?_)
    | (refine wpList_store_row rfl 27 _ _ rfl w.heap.size (arrC x) rfl rfl 27 zs hs hi (hz32.trans hq.symm) ho ?_))
  refine bodyPost_ret (results_cell_row rfl _ _ w.heap.size 27 (arrC x) (0, 0) _ rfl (setRow_heap _ _ _ _ _ _ hs) under32 rfl hi) rfl ⟨rfl, below_setRow hbw2'.out (Nat.le_refl _) _⟩

def zL : Array Value := #[.int .u8 0, .int .u8 0, .int .u8 0, .int .u8 0, .int .u8 0, .int .u8 0, .int .u8 0, .int .u8 0, .int .u8 0, .int .u8 0, .int .u8 0, .int .u8 0, .int .u8 0, .int .u8 0, .int .u8 0, .int .u8 0, .int .u8 0, .int .u8 0, .int .u8 0, .int .u8 0, .int .u8 0, .int .u8 0, .int .u8 0, .int .u8 0, .int .u8 0, .int .u8 0, .int .u8 0, .int .u8 0, .int .u8 0, .int .u8 0, .int .u8 0, .int .u8 0]
theorem zL_one : zL.all (·.oneCell') = true := by simp [zL, Value.oneCell']
theorem zL_size : zL.size = 32 := by simp [zL]
theorem zL_arr : zL = ((List.range 32).map (byV 0)).toArray := by
  have h : ∀ i, byV 0 i = .int .u8 0 := fun i => by simp [byV, byteN]
  simp [zL, h, List.range, List.range.loop]
end
section
open Go.RowKit
end
section
open Go.RowKit

theorem bytes_mod (x y : Nat) : ∀ n, (∀ i, i < n → byteN x i = byteN y i) → x % 256 ^ n = y % 256 ^ n
  | 0, _ => by simp [Nat.mod_one]
  | n + 1, h => by
    rw [Nat.mod_pow_succ, Nat.mod_pow_succ, bytes_mod x y n (fun i hi => h i (by omega))]
    have := h n (by omega)
    unfold byteN at this
    rw [this]

theorem bytes_all (x y : Nat) (hx : x < 256 ^ 32) (hy : y < 256 ^ 32) : ((List.range 32).all fun i => byteN x i == byteN y i) = decide (x = y) := by
  by_cases h : x = y
  · subst h; simp
  · have : ¬ ((List.range 32).all fun i => byteN x i == byteN y i) = true := by
      intro ha
      refine h ?_
      have := bytes_mod x y 32 (fun i hi => by
        have := List.all_eq_true.1 ha i (List.mem_range.2 hi)
        simpa using this)
      rwa [Nat.mod_eq_of_lt hx, Nat.mod_eq_of_lt hy] at this
    simp only [Bool.not_eq_true] at this
    rw [this]
    simp [h]

theorem under8 : Tryd.prog.underlying 5 = some (.int .u8) := by kernel_rfl
theorem plain8 : Tryd.prog.plainKey 5 = true := by kernel_rfl
theorem cells8 : Tryd.prog.cellsOf 5 = 1 := by kernel_rfl
theorem hasInfo8 : ∃ i, Tryd.prog.info? 5 = some i := by
  cases h : Tryd.prog.info? 5 with
  | none => have := info8; rw [h] at this; cases this
  | some i => exact ⟨i, rfl⟩

theorem arrC_get (N i : Nat) (hi : i < 32) : (arrC N)[i]? = some (.int .u8 ((byteN N i : Nat) : Int)) := arr_get N i hi

theorem run_items (d x y : Nat) (w : World) : ∀ l : List Nat, (∀ i, i ∈ l → i < 32) → (Op.eqItems (d + 1) 5 1 (arrC x) (arrC y) l).run Tryd.prog w = .ok (l.all fun i => byteN x i == byteN y i) w
  | [], _ => by simp [Op.eqItems]
  | i :: l, h => by
    have hi := h i (by simp)
    have ih := run_items d x y w l (fun j hj => h j (by simp [hj]))
    have e1 := run_part_plain (P := Tryd.prog) w plain8 (arrC_get x i hi)
    have e2 := run_part_plain (P := Tryd.prog) w plain8 (arrC_get y i hi)
    simp only [Op.eqItems, Sem.run_bind, Nat.mul_one]
    simp only [e1, e2, Result.andThen_ok, run_equalIn_int (P := Tryd.prog) (w := w) d 5 .u8 .u8 _ _ under8]
    by_cases hb : byteN x i = byteN y i
    · simp [hb, ih]
    · have hb' : ¬ ((byteN x i : Nat) : Int) = ((byteN y i : Nat) : Int) := by omega
      simp [hb, hb']

theorem run_eq_arr (x y : Nat) (hx : x < 256 ^ 32) (hy : y < 256 ^ 32) (w : World) : (Op.equalIn 10000 27 (.agg (arrC x)) (.agg (arrC y))).run Tryd.prog w = .ok (decide (x = y)) w := by
  obtain ⟨i, hi⟩ := hasInfo8
  rw [run_equalIn_array w 9999 (arrC x) (arrC y) under32 hi, cells8, run_items 9998 x y w (List.range 32) (fun i hi => List.mem_range.1 hi), bytes_all x y hx hy]

theorem quiet_load {P : Program} {n : Nat} {w0 w : World} {o : Oper} {a : Act} (ty : TypeId) (x : Operand) (ho : o.op = .load ty x)
    (g : Nat) (hx : a.eval x = .pointer (some ⟨g, 0, none⟩)) (t : TypeId) (cs : Array Value) (fr : Nat × Nat) (hg : w0.heap[g]? = some (.cells cs t fr)) (hlt : g < n) {d : TypeDesc}
    (hu : P.underlying ty = some d) (hd : (match d with | .struct _ | .array _ _ => true | _ => false) = true) (hi : (P.info? ty).map (·.size) = some cs.size) (hB : Below n w0 w) {C : World → Prop} : o.quietAt P a C w (.agg cs) := by
  unfold Oper.quietAt execOp
  simp only [ho, hx, Instr.loadAt, Instr.sureAddr, Sem.run_bind, Sem.run_pure, Result.andThen_ok, run_loadVar_row w g t ty cs fr d ((hB.block g hlt).trans hg) hu hd hi]
  exact ⟨rfl, rfl⟩

theorem quiet_call {P : Program} {C : World → Prop} {o : Oper} {a : Act} {w : World} {v : Value} (f : FuncId) (args : Array Value) (hrun : (execOp a.eval o).run P w = .ok (.enter f args) w) (hc : Calls P f args w (fun e w'' => e = .returned v ∧ C w'')) : o.quietAt P a C w v := by
  unfold Oper.quietAt
  rw [hrun]
  exact ⟨rfl, hc⟩

theorem quiet_run {P : Program} {C : World → Prop} {o : Oper} {a : Act} {w : World} {v : Value} (hrun : (execOp a.eval o).run P w = .ok (.value v) w) : o.quietAt P a C w v := by
  unfold Oper.quietAt
  rw [hrun]
  exact ⟨rfl, rfl⟩

theorem arr_ext (n : Nat) (cs : Array Value) (hs : cs.size = 32) (h : ∀ i, i < 32 → cs[i]? = some (byV n i)) : cs = arrC n := by
  apply Array.ext_getElem?
  intro i
  by_cases hi : i < 32
  · rw [h i hi]; exact (arr_get n i hi).symm
  · rw [Array.getElem?_eq_none (by omega), Array.getElem?_eq_none (by rw [arrC_size]; omega)]

theorem Wr.arr {w w' : World} {b n : Nat} {cs : Array Value} {t : TypeId} {fr : Nat × Nat} (h : Wr w w' b 0 32 (byV n)) (hb : w.heap[b]? = some (.cells cs t fr)) (hs : cs.size = 32) : w'.heap[b]? = some (.cells (arrC n) t fr) := by
  obtain ⟨cs0, t0, fr0, cs', h0, h1, hs', hv⟩ := h.here
  rw [hb] at h0
  injection h0 with h0
  injection h0 with e1 e2 e3
  subst e1; subst e2; subst e3
  rw [h1, arr_ext n cs' (by omega) (fun i hi => by rw [hv i (by omega), if_pos (by omega)]; rfl)]

theorem Row.ofArr {w : World} {b : Nat} {N : Nat} {t : TypeId} (h : w.heap[b]? = some (.cells (arrC N) t (0, 0))) : Row w b 0 32 (byV N) :=
  ⟨arrC N, t, (0, 0), h, fun i hi => ⟨by rw [Nat.zero_add]; exact arr_get N i hi, by simp⟩⟩

theorem zL_arrC : zL = arrC 0 := zL_arr

theorem byV_high (n j : Nat) (hn : n < 9223372036854775808) (hj : 8 ≤ j) : byV n j = byV 0 j := by
  unfold byV byteN
  have : n / 256 ^ j = 0 := Nat.div_eq_of_lt (Nat.lt_of_lt_of_le (show n < 256 ^ 8 by omega) (Nat.pow_le_pow_right (by omega) hj))
  simp [this]
end
section
open Go.ChangeShapes Go.WideShapes Go.ChangeAt Go.RowKit

theorem Tryd.own : ownKnob Tryd.prog.godebug = none := by kernel_rfl
theorem Tryd.laidOut : laidOutB Tryd.prog = true := by kernel_rfl

def numOf (f : Nat → Nat) : Nat → Nat
  | 0 => 0
  | n + 1 => numOf f n + 256 ^ n * f n
theorem numOf_lt (f : Nat → Nat) (hf : ∀ i, f i < 256) : ∀ n, numOf f n < 256 ^ n
  | 0 => by simp [numOf]
  | n + 1 => by
    have h1 := numOf_lt f hf n
    have h2 : 256 ^ n * f n ≤ 256 ^ n * 255 := Nat.mul_le_mul_left _ (by have := hf n; omega)
    rw [numOf, Nat.pow_succ]
    omega
theorem numOf_byte (f : Nat → Nat) (hf : ∀ i, f i < 256) : ∀ n i, i < n → byteN (numOf f n) i = f i
  | 0, i, h => by omega
  | n + 1, i, h => by
    rw [numOf]
    by_cases hi : i < n
    · rw [← byteN_mod _ n i hi, Nat.add_mul_mod_self_left, byteN_mod _ n i hi]
      exact numOf_byte f hf n i hi
    · have e : i = n := by omega
      subst e
      unfold byteN
      rw [Nat.add_mul_div_left _ _ (Nat.pow_pos (by omega)), Nat.div_eq_of_lt (numOf_lt f hf i), Nat.zero_add, Nat.mod_eq_of_lt (hf i)]

theorem cells32 : Tryd.prog.cellsOf 27 = 32 := by kernel_rfl
theorem flat_nil {α β : Type} (xs : List (α × List β)) (h : ∀ i, i < xs.length → ∃ a, xs[i]? = some (a, [])) : xs.flatMap (·.2) = [] := by
  rw [List.flatMap_eq_nil_iff]
  intro x hx
  obtain ⟨i, hi, rfl⟩ := List.getElem_of_mem hx
  obtain ⟨a, ha⟩ := h i hi
  rw [List.getElem?_eq_getElem hi] at ha
  injection ha with ha
  rw [ha]

theorem open32 {H : Type} {enc : TypeId × Value → H} {W : World} {base : Nat} {v : Value} {d : DataW H} {ps : List MemPlace}
    (hok : Value.okWide Tryd.prog W .any base 27 v) (h : DataW.Trod enc Tryd.prog W 0 (fun _ => true) true 27 v d ps) :
    ∃ N, N < 256 ^ 32 ∧ v = arrV N ∧ ps = [] ∧ ∀ (W' : World) (sp : Nat → Bool), DataW.Trod enc Tryd.prog W' 0 sp true 27 (arrV N) d [] := by
  obtain ⟨cs, rfl, hsz, _⟩ : ∃ cs, v = .agg cs ∧ cs.size = Tryd.prog.cellsOf 27 ∧ Row.okWide Tryd.prog W .any base 27 cs := by
    simpa [Value.okWide, under32] using hok
  have hh := h
  obtain ⟨fuel, hf⟩ := h
  obtain ⟨xs, m, rfl, hx, hlen, hxl, hel⟩ := DataW.trod_array under32 hf
  rw [cells32] at hsz
  have each : ∀ i, i < 32 → ∃ n : Nat, n < 256 ∧ cs[i]? = some (.int .u8 (n : Int)) ∧ ∃ a, xs[i]? = some (a, []) := by
    intro i hi
    have h1 := hel i hi
    rw [cells8, List.getElem?_eq_getElem (by omega)] at h1
    obtain ⟨n, e1, e2, wf⟩ := DataW.trod_int under8 h1
    have hb := bounds_u8 wf
    refine ⟨n.toNat, by omega, ?_, ?_⟩
    · have : ((Value.agg cs).cells.toList.drop (i * 1)).take 1 = [cs[i]'(by omega)] := by
        rw [Nat.mul_one]
        simp only [Value.cells]
        rw [List.drop_eq_getElem_cons (by simp; omega)]
        simp
      rw [this] at e1
      injection e1 with e1
      rw [Array.getElem?_eq_getElem (by omega), e1]
      congr 2; omega
    · exact ⟨_, by rw [List.getElem?_eq_getElem (by omega), e2]⟩
  let f : Nat → Nat := fun i => if h : i < 32 then (each i h).choose else 0
  have hf256 : ∀ i, f i < 256 := by
    intro i
    by_cases h : i < 32
    · have := (each i h).choose_spec.1
      simp only [f, dif_pos h]; exact this
    · simp only [f, dif_neg h]; omega
  have hN : cs = arrC (numOf f 32) := by
    refine arr_ext _ _ hsz fun i hi => ?_
    have := (each i hi).choose_spec.2.1
    rw [this]
    unfold byV
    rw [numOf_byte f hf256 32 i hi]
    simp only [f, dif_pos hi]
  have hps : ps = [] := by
    have := congrArg Prod.snd hx
    simp only at this
    rw [this]
    exact flat_nil xs fun i hi => (each i (by omega)).choose_spec.2.2
  subst hps
  rw [hN] at hh
  refine ⟨numOf f 32, numOf_lt f hf256 32, by rw [hN]; rfl, rfl, fun W' sp => ?_⟩
  exact WideElems.Trod_stays Tryd.laidOut (by kernel_rfl) (of_decide_eq_true (by kernel_rfl)) hh (fun _ h => by cases h) (fun _ h => by cases h)
end
section
open Go.RowKit

theorem heap_lt {w : World} {b : Nat} {o : Obj} (h : w.heap[b]? = some o) : b < w.heap.size := by
  rcases Nat.lt_or_ge b w.heap.size with hlt | hge
  · exact hlt
  · rw [Array.getElem?_eq_none hge] at h; cases h
theorem heap_new_at (w : World) (o : Obj) (n : Nat) (h : w.heap.size = n) : (w.alloc o).heap[n]? = some o := by
  subst h; exact heap_new w o
theorem heap_old {w : World} {b : Nat} {o : Obj} (o' : Obj) (h : w.heap[b]? = some o) : (w.alloc o').heap[b]? = some o := (Below.heap_alloc w o' b (heap_lt h)).trans h
theorem setRow_size (w : World) (b : Nat) (cs : Array Value) : (w.setRow b cs).heap.size = w.heap.size := by simp [World.setRow]
theorem drew_size (w : World) : w.drew.heap.size = w.heap.size := rfl
theorem heap_row {w : World} {b c : Nat} {o : Obj} (cs : Array Value) (hne : b ≠ c) (h : w.heap[b]? = some o) : (w.setRow c cs).heap[b]? = some o := (setRow_other _ _ _ _ hne).trans h
theorem heap_call {w w' : World} {b : Nat} {o : Obj} (hC : Below w.heap.size w w') (h : w.heap[b]? = some o) : w'.heap[b]? = some o := (hC.block b (heap_lt h)).trans h
theorem below_call {w w1 w2 : World} (h : Below w.heap.size w w1) (hC : Below w1.heap.size w1 w2) : Below w.heap.size w w2 := h.trans (hC.mono h.size)
theorem below_alloc {w w1 : World} (h : Below w.heap.size w w1) (o : Obj) : Below w.heap.size w (w1.alloc o) := h.alloc h.size o

theorem wp_named {P : Program} {c : Code} {Q : Exit → Act → World → Prop} {a : Act} {w : World} (h : ∀ u : World, u = w → c.wp P Q a u) : c.wp P Q a w := h w rfl

/-- a load of a row under a guard that is met -/
theorem load_guarded {P : Program} {ops : Array Oper} {rest : List Oper} {o : Oper} {a : Act} {w : World} {Q : Exit → Act → World → Prop} (hw : Region.wanted o (yielded ops a.tmps) = true) (ty : TypeId) (x : Operand) (ho : o.op = .load ty x)
    (g : Nat) (hx : a.eval x = .pointer (some ⟨g, 0, none⟩)) (t : TypeId) (cs : Array Value) (fr : Nat × Nat) (d : TypeDesc) (hg : w.heap[g]? = some (.cells cs t fr))
    (hu : P.underlying ty = some d) (hd : (match d with | .struct _ | .array _ _ => true | _ => false) = true) (hi : (P.info? ty).map (·.size) = some cs.size)
    (h : wpList P ops Q rest (a.put o.dst (.agg cs)) w) : wpList P ops Q (o :: rest) a w :=
  wpList_step fun _ hK => by rw [if_pos hw]; exact wp_load_row ty x ho g hx t cs fr d hg hu hd hi (hK _ _ h)
/-- which operation stands next: by its slot; a store by the slot of its address -/
theorem at_dst (d : Nat) {P : Program} {ops : Array Oper} {Q : Exit → Act → World → Prop} {rest : List Oper} {op : Op} {ty : TypeId} {pos : String} {af : Array Edge} {gd : Option (Nat × Bool)} {a : Act} {w : World}
    (h : wpList P ops Q (⟨some d, op, ty, pos, af, gd⟩ :: rest) a w) : wpList P ops Q (⟨some d, op, ty, pos, af, gd⟩ :: rest) a w := h
theorem at_store (p : Nat) {P : Program} {ops : Array Oper} {Q : Exit → Act → World → Prop} {rest : List Oper} {T : TypeId} {x : Operand} {ty : TypeId} {pos : String} {af : Array Edge} {gd : Option (Nat × Bool)} {a : Act} {w : World}
    (h : wpList P ops Q (⟨none, .store T (.tmp p) x, ty, pos, af, gd⟩ :: rest) a w) : wpList P ops Q (⟨none, .store T (.tmp p) x, ty, pos, af, gd⟩ :: rest) a w := h

/-- every block but R is as it was -/
structure Keep (R : Nat) (w w' : World) : Prop where
  os : w'.os = w.os
  tape : w'.tape = w.tape
  output : w'.output = w.output
  size : w.heap.size ≤ w'.heap.size
  block : ∀ k, k < w.heap.size → k ≠ R → w'.heap[k]? = w.heap[k]?
theorem Keep.start (R : Nat) (w : World) : Keep R w w.drew := ⟨rfl, rfl, rfl, Nat.le_refl _, fun _ _ _ => rfl⟩
theorem Keep.call {R : Nat} {w w1 w2 : World} (h : Keep R w w1) (hC : Below w1.heap.size w1 w2) : Keep R w w2 :=
  ⟨hC.os.trans h.os, hC.tape.trans h.tape, hC.output.trans h.output, Nat.le_trans h.size hC.size, fun k hk hne => (hC.block k (Nat.lt_of_lt_of_le hk h.size)).trans (h.block k hk hne)⟩
theorem Keep.store {R : Nat} {w w1 : World} (h : Keep R w w1) (cs : Array Value) : Keep R w (w1.setRow R cs) :=
  ⟨h.os, h.tape, h.output, by rw [setRow_size]; exact h.size, fun k hk hne => (setRow_other _ _ _ _ hne).trans (h.block k hk hne)⟩
theorem Keep.storeNew {R : Nat} {w w1 : World} (h : Keep R w w1) (cs : Array Value) {g : Nat} (hg : w.heap.size ≤ g) : Keep R w (w1.setRow g cs) :=
  ⟨h.os, h.tape, h.output, by rw [setRow_size]; exact h.size, fun k hk hne => (setRow_other _ _ _ _ (by omega)).trans (h.block k hk hne)⟩
theorem Keep.sets {R : Nat} {w w1 w2 : World} {b off x : Nat} (h : Keep R w w1) (hs : Sets w1 w2 b off x) (hb : w.heap.size ≤ b) : Keep R w w2 := by
  obtain ⟨L', _, _, hw⟩ := hs
  exact ⟨hw.os.trans h.os, hw.tape.trans h.tape, hw.output.trans h.output, Nat.le_trans h.size hw.size, fun k hk hne => (hw.other k (Nat.lt_of_lt_of_le hk h.size) (by omega)).trans (h.block k hk hne)⟩
theorem Keep.alloc {R : Nat} {w w1 : World} (h : Keep R w w1) (o : Obj) : Keep R w (w1.alloc o) :=
  ⟨h.os, h.tape, h.output, by rw [alloc_size]; exact Nat.le_trans h.size (Nat.le_succ _), fun k hk hne => (Below.heap_alloc _ _ _ (Nat.lt_of_lt_of_le hk h.size)).trans (h.block k hk hne)⟩
theorem Keep.old {R : Nat} {w w1 : World} (h : Keep R w w1) {b : Nat} {o : Obj} (hb : w.heap[b]? = some o) (hne : b ≠ R) : w1.heap[b]? = some o := (h.block b (heap_lt hb) hne).trans hb
theorem Keep.below {R : Nat} {w w1 : World} (h : Keep R w w1) {B : Nat} (hB : B ≤ R) (hs : B ≤ w.heap.size) : Below B w w1 :=
  ⟨h.os, h.tape, h.output, h.size, fun k hk => h.block k (by omega) (by omega)⟩

theorem take_row {P : Program} {ops : Array Oper} {op : Oper} {a : Act} {R : Nat} {w0 : World} (hw : Region.wanted op (yielded ops a.tmps) = true) (ty : TypeId) (x : Operand) (ho : op.op = .load ty x)
    (g : Nat) (hx : a.eval x = .pointer (some ⟨g, 0, none⟩)) (t : TypeId) (cs : Array Value) (fr : Nat × Nat) (hg : w0.heap[g]? = some (.cells cs t fr)) (hne : g ≠ R) {d : TypeDesc}
    (hu : P.underlying ty = some d) (hd : (match d with | .struct _ | .array _ _ => true | _ => false) = true) (hi : (P.info? ty).map (·.size) = some cs.size) : YieldsIf P ops (Keep R w0) op (.agg cs) a :=
  .inl ⟨hw, fun w hK => by
    unfold execOp
    simp only [ho, hx, Instr.loadAt, Instr.sureAddr, Sem.run_bind, Sem.run_pure, Result.andThen_ok, run_loadVar_row w g t ty cs fr d (hK.old hg hne) hu hd hi]⟩
theorem take_run {P : Program} {ops : Array Oper} {op : Oper} {a : Act} {S : World → Prop} {v : Value} (hw : Region.wanted op (yielded ops a.tmps) = true)
    (h : ∀ w, S w → (execOp a.eval op).run P w = .ok (.value v) w) : YieldsIf P ops S op v a := .inl ⟨hw, h⟩
theorem take_skip {P : Program} {ops : Array Oper} {op : Oper} {a : Act} {S : World → Prop} (hw : Region.wanted op (yielded ops a.tmps) = false) : YieldsIf P ops S op undef a := .inr ⟨hw, rfl⟩

theorem takeAt {P : Program} {md : Region.Mode} {ops : Array Oper} {Q : Exit → Act → World → Prop} {S : World → Prop} {i : Nat} {oi : Oper} {v : Value} {fuel : Nat} {listed : Array Bool} {a : Act} {w : World} (hi : ops[i]? = some oi) (d : Option Tmp) (hd : oi.dst = d)
    (hs : Region.noSelect ops = true) (hf : Region.free md ops listed i = true) (hr : (Region.ready md ops listed).contains i = true)
    (hQ : ∀ c a w, Q (.panic c) (a.put oi.dst v) w → Q (.panic c) a w) (hy : YieldsIf P ops S oi v a) (hS : S w)
    (h : wpAnyH P md ops Q S fuel (listed.setIfInBounds i true) (a.put d v) w) : wpAnyH P md ops Q S (fuel + 1) listed a w := by
  subst hd
  exact wpAnyH_take hi hs hf hr hQ hy hS h
theorem put_at {K : Act → World → Prop} {o : Oper} {a : Act} {v : Value} {w : World} (d : Option Tmp) (hd : o.dst = d) (h : K (a.put d v) w) : K (a.put o.dst v) w := by
  subst hd; exact h
/-- an operation that comes up in a drawn region -/
theorem ready_call {P : Program} {ops : Array Oper} {o : Oper} {a : Act} {w : World} {K : Act → World → Prop} {Q : Exit → Act → World → Prop} (hw : Region.wanted o (yielded ops a.tmps) = true) (d : Option Tmp) (hd : o.dst = d) (f : FuncId) (args : Array Value)
    (hrun : (execOp a.eval o).run P w = .ok (.enter f args) w) (hc : Calls P f args w (fun e w' => ∃ v, e = .returned v ∧ K (a.put d v) w')) :
    if Region.wanted o (yielded ops a.tmps) = true then Oper.wp P o a w K Q else K (a.put o.dst undef) w := by
  subst hd
  rw [if_pos hw]
  unfold Oper.wp
  rw [hrun]
  exact hc.mono fun e w'' ⟨v, he, h⟩ => by subst he; exact h
theorem ready_run {P : Program} {ops : Array Oper} {o : Oper} {a : Act} {w : World} {K : Act → World → Prop} {Q : Exit → Act → World → Prop} (hw : Region.wanted o (yielded ops a.tmps) = true) (d : Option Tmp) (hd : o.dst = d) (v : Value) (w' : World)
    (hrun : (execOp a.eval o).run P w = .ok (.value v) w') (h : K (a.put d v) w') :
    if Region.wanted o (yielded ops a.tmps) = true then Oper.wp P o a w K Q else K (a.put o.dst undef) w := by
  subst hd
  rw [if_pos hw]
  unfold Oper.wp
  rw [hrun]
  exact h
/-- quiet regions: whatever only makes memory -/
theorem qload {P : Program} {w0 w : World} {o : Oper} {a : Act} (ty : TypeId) (x : Operand) (ho : o.op = .load ty x)
    (g : Nat) (hx : a.eval x = .pointer (some ⟨g, 0, none⟩)) (t : TypeId) (cs : Array Value) (fr : Nat × Nat) (hg : w0.heap[g]? = some (.cells cs t fr)) {d : TypeDesc}
    (hu : P.underlying ty = some d) (hd : (match d with | .struct _ | .array _ _ => true | _ => false) = true) (hi : (P.info? ty).map (·.size) = some cs.size) (hB : Below w0.heap.size w0 w) {C : World → Prop} : o.quietAt P a C w (.agg cs) := by
  unfold Oper.quietAt execOp
  simp only [ho, hx, Instr.loadAt, Instr.sureAddr, Sem.run_bind, Sem.run_pure, Result.andThen_ok, run_loadVar_row w g t ty cs fr d ((hB.block g (heap_lt hg)).trans hg) hu hd hi]
  exact ⟨rfl, rfl⟩
theorem qcall {P : Program} {w0 w : World} {o : Oper} {a : Act} {v : Value} (f : FuncId) (args : Array Value) (hrun : (execOp a.eval o).run P w = .ok (.enter f args) w) (hB : Below w0.heap.size w0 w)
    (hc : Calls P f args w (fun e w'' => e = .returned v ∧ Below w.heap.size w w'')) : o.quietAt P a (Below w0.heap.size w0) w v := by
  unfold Oper.quietAt
  rw [hrun]
  exact ⟨rfl, hc.mono fun e w'' ⟨he, h2⟩ => ⟨he, hB.trans (h2.mono hB.size)⟩⟩
theorem qrun {P : Program} {C : World → Prop} {o : Oper} {a : Act} {w : World} {v : Value} (hrun : (execOp a.eval o).run P w = .ok (.value v) w) : o.quietAt P a C w v := by
  unfold Oper.quietAt
  rw [hrun]
  exact ⟨rfl, rfl⟩
theorem results_row_tmp {P : Program} {fn : Func} {p u : Tmp} {ty : TypeId} (h : fn.results = #[.cell p ty, .tmp u]) (tmps : Array Value) (w : World) (g : Nat) (t : TypeId) (cs : Array Value) (fr : Nat × Nat) (d : TypeDesc)
    (hp : tmps.getD p undef = .pointer (some ⟨g, 0, none⟩)) (hg : w.heap[g]? = some (.cells cs t fr))
    (hu : P.underlying ty = some d) (hd : (match d with | .struct _ | .array _ _ => true | _ => false) = true) (hi : (P.info? ty).map (·.size) = some cs.size) :
    (results fn tmps).run P w = .ok (.tuple #[.agg cs, tmps.getD u undef]) w := by
  have hp' : tmps[p]?.getD undef = .pointer (some ⟨g, 0, none⟩) := by simpa using hp
  rw [results_cell_tmp h]
  simp [hp', asAddr, run_loadVar_row w g t ty cs fr d hg hu hd hi]

theorem info32_of (cs : Array Value) (h : cs.size = 32) : (Tryd.prog.info? 27).map (·.size) = some cs.size := info32.trans (by rw [h])

def zE : Array Value := #[.int .u64 0, .int .u64 0, .int .u64 0, .int .u64 0, .int .u64 0]
theorem Fe.newz (w : World) : Fe (w.alloc (.cells zE 50)) w.heap.size 0 0 :=
  ⟨z5, El.newz w, by unfold Bd z5; simp only; omega, by unfold val5 z5; simp⟩
theorem Fe.newz_at (w : World) (n : Nat) (h : w.heap.size = n) : Fe (w.alloc (.cells zE 50)) n 0 0 := by subst h; exact Fe.newz w
theorem setBytes_fe (vb vo b off N cap v0 : Nat) (w0 : World) (hv : Fe w0 vb vo v0) (hx : Row w0 b off 32 (byV N)) (hcap : 32 ≤ cap) (hne : b ≠ vb) :
    Calls Tryd.prog 17 #[.pointer (some ⟨vb, vo, none⟩), .slice (some ⟨b, off, none⟩) 32 cap] w0 fun e w' => e = .returned (.tuple #[.pointer (some ⟨vb, vo, none⟩), .nilIface]) ∧ Sets w0 w' vb vo (valN N) := by
  obtain ⟨L, hL, _⟩ := hv
  exact setBytes_any vb vo b off N cap L w0 hL hx hcap hne
theorem elementOf_fe (N : Nat) (w : World) :
    Calls Tryd.prog 7 #[.agg (arrC N)] w fun e w' => ∃ b, e = .returned (.pointer (some ⟨b, 0, none⟩)) ∧ w.heap.size ≤ b ∧ Below w.heap.size w w' ∧ Fe w' b 0 (valN N) := elementOf_any N w
theorem elementBytes_fe (vb vo x : Nat) (w : World) (hF : Fe w vb vo x) :
    Calls Tryd.prog 11 #[.pointer (some ⟨vb, vo, none⟩)] w fun e w' => e = .returned (.agg (arrC x)) ∧ Below w.heap.size w w' := elementBytes_any vb vo x w hF
end
section
open Go.ChangeShapes Go.WideShapes Go.ChangeAt Go.RowKit Go.Deep

/-- variable g points to the five limbs L; both lie below block B -/
def Var (g : Nat) (L : L5) (B : Nat) (w : World) : Prop := B ≤ w.heap.size ∧ g < B ∧ ∃ b o, w.cell? ⟨g, 0, none⟩ = some (.pointer (some ⟨b, o, none⟩)) ∧ b < B ∧ El w b o L
theorem Var.below {g B : Nat} {L : L5} {w w' : World} (h : Var g L B w) (hB : Below B w w') : Var g L B w' := by
  obtain ⟨hs, hg, b, o, hc, hb, hE⟩ := h
  exact ⟨Nat.le_trans hs hB.size, hg, b, o, (hB.cell (p := ⟨g, 0, none⟩) hg).trans hc, hb, Row.below hE hB hb⟩
theorem Var.later {g B : Nat} {L : L5} {w w' : World} (h : Var g L B w) (hB : Below w.heap.size w w') : Var g L B w' := h.below (hB.mono h.1)

theorem five_fields (fs : Array Field) (h : (fs.map (·.type)) = #[40, 40, 40, 40, 40]) : fs.size = 5 ∧ ∀ i, i < 5 → ∃ f, fs[i]? = some f ∧ f.type = 40 := by
  have hs : fs.size = 5 := by have := congrArg Array.size h; simpa using this
  refine ⟨hs, fun i hi => ?_⟩
  have := congrArg (fun a => a[i]?) h
  simp only [Array.getElem?_map] at this
  rw [Array.getElem?_eq_getElem (by omega)] at this ⊢
  refine ⟨_, rfl, ?_⟩
  have h5 : i = 0 ∨ i = 1 ∨ i = 2 ∨ i = 3 ∨ i = 4 := by omega
  rcases h5 with rfl | rfl | rfl | rfl | rfl <;> simpa using this

def isFive (P : Program) (t u : TypeId) : Bool := match P.underlying t with | some (.struct fs) => (fs.map (·.type) == #[u, u, u, u, u]) && oneCellFields P fs | _ => false
theorem isFive_of {P : Program} {t u : TypeId} (h : isFive P t u = true) : ∃ fs, P.underlying t = some (.struct fs) ∧ fs.map (·.type) = #[u, u, u, u, u] ∧ oneCellFields P fs = true := by
  unfold isFive at h
  split at h
  · rename_i fs hfs
    simp only [Bool.and_eq_true, beq_iff_eq] at h
    exact ⟨fs, hfs, h.1, h.2⟩
  · cases h
theorem fiveE : isFive Tryd.prog 50 40 = true := by kernel_rfl
theorem cellsE : Tryd.prog.cellsOf 50 = 5 := by kernel_rfl
theorem underP : Tryd.prog.underlying 29 = some (.pointer 50) := by kernel_rfl
theorem under64 : Tryd.prog.underlying 40 = some (.int .u64) := by kernel_rfl

theorem var_of {H : Type} {enc : TypeId × Value → H} {W : World} {sp : Nat → Bool} {held : Bool} {fuel : Nat} {cs : List Value} {p : List MemPlace} (a0 a1 a2 a3 a4 : Nat)
    (h : DataW.trod enc Tryd.prog W 0 sp held fuel 29 cs = some (.ptr (.agg [.lit (.int .u64 (a0 : Int)), .lit (.int .u64 (a1 : Int)), .lit (.int .u64 (a2 : Int)), .lit (.int .u64 (a3 : Int)), .lit (.int .u64 (a4 : Int))]), p))
    (hf : ∀ b off, MemPlace.cell b off ∈ p → ∃ c t, W.heap[b]? = some (.cells c t (0, 0))) :
    ∃ b o, cs = [.pointer (some ⟨b, o, none⟩)] ∧ El W b o ⟨a0, a1, a2, a3, a4⟩ := by
  obtain ⟨fs, hu, ht, hone⟩ := isFive_of fiveE
  obtain ⟨hs, hty⟩ := five_fields fs ht
  rcases open_ptr_fields underP hu (hone_of hone) (by rw [hs]; exact cellsE) (by omega) h with ⟨_, hx⟩ | ⟨b, o, n, V, Y, rfl, _, hx, hv⟩
  · cases hx
  refine ⟨b, o, rfl, ?_⟩
  rw [hs] at hx
  injection hx with hx1 hx2
  injection hx1 with hx1
  injection hx1 with hx1
  have each : ∀ i, i < 5 → W.cell? ⟨b, o + i, none⟩ = some (limbV ⟨a0, a1, a2, a3, a4⟩ i) := by
    intro i hi
    obtain ⟨f, hf1, hf2⟩ := hty i hi
    obtain ⟨hc, htr⟩ := hv i f hf1
    rw [hf2] at htr
    obtain ⟨m, e1, e2, _⟩ := DataW.trod_int under64 (x := Y i) htr
    have e3 := congrArg (fun l => l[i]?) hx1
    simp only [List.getElem?_map, List.getElem?_range hi, Option.map_some] at e3
    rw [e2] at e3
    injection e1 with e1
    rw [hc, e1]
    have h5 : i = 0 ∨ i = 1 ∨ i = 2 ∨ i = 3 ∨ i = 4 := by omega
    rcases h5 with rfl | rfl | rfl | rfl | rfl <;> (simp at e3; subst e3; rfl)
  obtain ⟨c, t, hb⟩ := hf b o (by rw [hx2]; refine List.mem_append_left _ ?_; first | (simp [MemPlace.row]; done) | (simp [MemPlace.row]; exact ⟨0, by omega, by omega⟩) | (simp [MemPlace.row, List.range, List.range.loop]; done) | (simp [MemPlace.row, List.range, List.range.loop, Addr.add]; done))
  refine ⟨c, t, (0, 0), hb, fun i hi => ⟨?_, by simp⟩⟩
  have := each i hi
  simpa [World.cell?, hb] using this

/-- what is read of the variables stays read -/
theorem vars_stay {H : Type} {enc : TypeId × Value → H} {W W' : World} (hB : Below W.heap.size W W') : ∀ {ns : List String} {gs : List (DataW H)} {q : List MemPlace},
    (∀ n ∈ ns, ∀ g t, Tryd.prog.globalNamed n = some g → (Tryd.prog.globals[g]?).map (·.type) = some t → Tryd.prog.readableRec t = true ∧ t < Tryd.prog.types.size) →
    DataW.TrodVars enc Tryd.prog W (fun _ => true) ns gs q → DataW.TrodVars enc Tryd.prog W' (fun b => decide (b < W.heap.size)) ns gs q
  | [], [], _, _, h => h
  | [], _ :: _, _, _, h => h
  | _ :: _, [], _, _, h => h
  | n :: ns, d :: ds, ps, hT, h => by
    obtain ⟨g, t, cs, fuel, p, q, hg, ht, hv, hd, hr, rfl⟩ := h
    obtain ⟨h1, h2⟩ := hT n (by simp) g t hg ht
    have hlt : ∀ x ∈ p, x.block < W.heap.size := DataW.trod_lt _ _ _ _ hd
    have hgl : g < W.heap.size := by
      unfold World.var? at hv
      rw [hg] at hv
      rcases Nat.lt_or_ge g W.heap.size with h | h
      · exact h
      · simp [Array.getElem?_eq_none h] at hv
    have hv' : W'.var? Tryd.prog n = some cs := by
      unfold World.var? at hv ⊢
      rw [hg] at hv ⊢
      simp only [Option.bind_some] at hv ⊢
      rw [hB.block g hgl]; exact hv
    obtain ⟨m, hm⟩ := WideElems.Trod_stays (v := .agg cs) (W' := W') (sp' := fun b => decide (b < W.heap.size)) Tryd.laidOut h1 h2 ⟨fuel, hd⟩ (fun x hx => by
      cases x with
      | cell b off => exact hB.cell (p := ⟨b, off, none⟩) (hlt _ hx)
      | map b => exact hB.block b (hlt _ hx)) (fun x hx => by simpa using hlt x hx)
    exact ⟨g, t, cs, m, p, q, hg, ht, hv', hm, vars_stay hB (fun n' hn' => hT n' (by simp [hn'])) hr, rfl⟩
end
section
open Go.RowKit

theorem fe_zero {w : World} {b o : Nat} (h : El w b o z5) : Fe w b o 0 := ⟨z5, h, by unfold Bd z5; simp only; omega, by unfold val5 z5; simp⟩
def o5 : L5 := ⟨1, 0, 0, 0, 0⟩
theorem bd_o5 : Bd o5 := by unfold Bd o5; simp only; omega
theorem val_o5 : val5 o5 % pF = 1 := by unfold val5 o5 pF; simp
theorem bd_z5 : Bd z5 := by unfold Bd z5; simp only; omega
theorem val_z5 : val5 z5 % pF = 0 := by unfold val5 z5; simp

set_option maxHeartbeats 1000000 in
theorem neg_fe (vb vo ab ao x v0 B : Nat) (w : World) (hD : Var 0 z5 B w) (hvB : B ≤ vb) (hv : Fe w vb vo v0) (ha : Fe w ab ao x) (dA : Apart vb vo ab ao) (R : Nat) (hR : Hid (R = (pF - x) % pF)) :
    Calls Tryd.prog 22 #[.pointer (some ⟨vb, vo, none⟩), .pointer (some ⟨ab, ao, none⟩)] w fun e w' => e = .returned (.pointer (some ⟨vb, vo, none⟩)) ∧ Sets w w' vb vo R := by
  obtain ⟨hs, hg, zb, zo, hc, hzb, hE⟩ := hD
  obtain ⟨Lv, hL, _⟩ := hv
  have HE := Lib.hid (fe_zero hE); have HL := Lib.hid hL; have Ha := Lib.hid ha; clear hE hL ha
  go_enter Tryd.func22, Tryd.ntmps22
  go_wp2_with fail
  refine (sub_any vb vo zb zo ab ao 0 x Lv _ HL.out HE.out Ha.out (Or.inr (Or.inl (by omega))) dA).mono ?_
  rintro e w1 ⟨rfl, hs1⟩
  go_wp2
  go_ret
  refine ⟨rfl, ?_⟩
  rw [hR.out, show (pF - x) % pF = (0 + (pF - x)) % pF by rw [Nat.zero_add]]
  exact hs1

set_option maxHeartbeats 1000000 in
theorem zero_fe (vb vo v0 B : Nat) (w : World) (hD : Var 0 z5 B w) (hvB : B ≤ vb) (hv : Fe w vb vo v0) :
    Calls Tryd.prog 31 #[.pointer (some ⟨vb, vo, none⟩)] w fun e w' => e = .returned (.pointer (some ⟨vb, vo, none⟩)) ∧ Sets w w' vb vo 0 := by
  obtain ⟨hs, hg, zb, zo, hc, hzb, hE⟩ := hD
  obtain ⟨Lv, hL, _⟩ := hv
  have h0 := hE.c0; have h1 := hE.c1; have h2 := hE.c2; have h3 := hE.c3; have h4 := hE.c4
  have f0 := hL.f0; have f1 := hL.f1; have f2 := hL.f2; have f3 := hL.f3; have f4 := hL.f4
  have k0 := hL.c0; have k1 := hL.c1; have k2 := hL.c2; have k3 := hL.c3; have k4 := hL.c4
  have HL := Lib.hid hL; clear hL hE
  go_enter Tryd.func31, Tryd.ntmps31
  go_wp2
  go_ret
  exact ⟨rfl, z5, bd_z5, val_z5, Wr.five ((((((Wr.start HL.out).set 0 _).set 1 _).set 2 _).set 3 _).set 4 _) rfl rfl rfl rfl rfl⟩

set_option maxHeartbeats 1000000 in
theorem one_fe (vb vo v0 B : Nat) (w : World) (hD : Var 2 o5 B w) (hvB : B ≤ vb) (hv : Fe w vb vo v0) :
    Calls Tryd.prog 32 #[.pointer (some ⟨vb, vo, none⟩)] w fun e w' => e = .returned (.pointer (some ⟨vb, vo, none⟩)) ∧ Sets w w' vb vo 1 := by
  obtain ⟨hs, hg, zb, zo, hc, hzb, hE⟩ := hD
  obtain ⟨Lv, hL, _⟩ := hv
  have h0 := hE.c0; have h1 := hE.c1; have h2 := hE.c2; have h3 := hE.c3; have h4 := hE.c4
  have f0 := hL.f0; have f1 := hL.f1; have f2 := hL.f2; have f3 := hL.f3; have f4 := hL.f4
  have k0 := hL.c0; have k1 := hL.c1; have k2 := hL.c2; have k3 := hL.c3; have k4 := hL.c4
  have HL := Lib.hid hL; clear hL hE
  go_enter Tryd.func32, Tryd.ntmps32
  go_wp2
  go_ret
  exact ⟨rfl, o5, bd_o5, val_o5, Wr.five ((((((Wr.start HL.out).set 0 _).set 1 _).set 2 _).set 3 _).set 4 _) rfl rfl rfl rfl rfl⟩
end
section
open Go.ChangeShapes Go.WideShapes Go.ChangeAt Go.RowKit Go.Deep

theorem list_len1 {α : Type} {l : List α} (h : l.length = 1) : ∃ a, l = [a] := by
  match l, h with
  | [a], _ => exact ⟨a, rfl⟩
theorem list_len2 {α : Type} {l : List α} (h : l.length = 2) : ∃ a b, l = [a, b] := by
  match l, h with
  | [a, b], _ => exact ⟨a, b, rfl⟩
theorem list_len3 {α : Type} {l : List α} (h : l.length = 3) : ∃ a b c, l = [a, b, c] := by
  match l, h with
  | [a, b, c], _ => exact ⟨a, b, c, rfl⟩
theorem list_len4 {α : Type} {l : List α} (h : l.length = 4) : ∃ a b c d, l = [a, b, c, d] := by
  match l, h with
  | [a, b, c, d], _ => exact ⟨a, b, c, d, rfl⟩
theorem trodVars_len {H : Type} {enc : TypeId × Value → H} {W : World} {sp : Nat → Bool} : ∀ {ns : List String} {gs : List (DataW H)} {q : List MemPlace}, DataW.TrodVars enc Tryd.prog W sp ns gs q → gs.length = ns.length
  | [], [], _, _ => rfl
  | [], _ :: _, _, h => absurd h (by intro h; cases h)
  | _ :: _, [], _, h => absurd h (by intro h; cases h)
  | n :: ns, d :: ds, _, h => by
    obtain ⟨g, t, cs, fuel, p, q, hg, ht, hv, hd, hr, rfl⟩ := h
    simp [trodVars_len hr]
theorem laid_el {H : Type} {enc : TypeId × Value → H} {W : World} {sp : Nat → Bool} {held : Bool} {fuel g : Nat} {n : String} {cs : Array Value} {p : List MemPlace} (a0 a1 a2 a3 a4 : Nat) (hg : Tryd.prog.globalNamed n = some g) (hv : W.var? Tryd.prog n = some cs)
    (hd : DataW.trod enc Tryd.prog W 0 sp held fuel 29 cs.toList = some (.ptr (.agg [.lit (.int .u64 (a0 : Int)), .lit (.int .u64 (a1 : Int)), .lit (.int .u64 (a2 : Int)), .lit (.int .u64 (a3 : Int)), .lit (.int .u64 (a4 : Int))]), p))
    (hf : ∀ b off, MemPlace.cell b off ∈ p → ∃ c t, W.heap[b]? = some (.cells c t (0, 0))) : Var g ⟨a0, a1, a2, a3, a4⟩ W.heap.size W := by
  obtain ⟨b, o, e, hE⟩ := var_of a0 a1 a2 a3 a4 hd hf
  have hc : W.cell? ⟨g, 0, none⟩ = some (.pointer (some ⟨b, o, none⟩)) := by
    have := World.var?_cell hg hv 0
    rw [Array.eq_one_of_toList e] at this
    simpa using this
  exact ⟨Nat.le_refl _, World.block_lt_of_cell? W ⟨g, 0, none⟩ hc, b, o, hc, hE.lt, hE⟩
end
section
open Go.ChangeShapes Go.WideShapes Go.ChangeAt Go.RowKit

theorem underU32 : Tryd.prog.underlying 31 = some (.int .u32) := by kernel_rfl
theorem openU32 {H : Type} {enc : TypeId × Value → H} {W : World} {base : Nat} {v : Value} {d : DataW H} {ps : List MemPlace}
    (hok : Value.okWide Tryd.prog W .any base 31 v) (h : DataW.Trod enc Tryd.prog W 0 (fun _ => true) true 31 v d ps) :
    ∃ n : Nat, n < 4294967296 ∧ v = .int .u32 (n : Int) ∧ ps = [] ∧ ∀ (W' : World) (sp : Nat → Bool), DataW.Trod enc Tryd.prog W' 0 sp true 31 (.int .u32 (n : Int)) d [] := by
  obtain ⟨n, rfl, rfl, rfl, wf⟩ := ChangeShapes.open_int underU32 hok h
  have hb := bounds_u32 wf
  obtain ⟨m, rfl⟩ : ∃ m : Nat, n = (m : Int) := ⟨n.toNat, by omega⟩
  exact ⟨m, by omega, rfl, rfl, fun W' sp => ChangeShapes.shut_int underU32 wf⟩
theorem underI : Tryd.prog.underlying 3 = some (.int .i64) := by kernel_rfl
theorem openInt {H : Type} {enc : TypeId × Value → H} {W : World} {base : Nat} {v : Value} {d : DataW H} {ps : List MemPlace}
    (hok : Value.okWide Tryd.prog W .any base 3 v) (h : DataW.Trod enc Tryd.prog W 0 (fun _ => true) true 3 v d ps) :
    ∃ n : Int, (-9223372036854775808 ≤ n ∧ n ≤ 9223372036854775807) ∧ v = .int .i64 n ∧ ps = [] ∧ ∀ (W' : World) (sp : Nat → Bool), DataW.Trod enc Tryd.prog W' 0 sp true 3 (.int .i64 n) d [] := by
  obtain ⟨n, rfl, rfl, rfl, wf⟩ := ChangeShapes.open_int underI hok h
  exact ⟨n, bounds_i64 wf, rfl, rfl, fun W' sp => ChangeShapes.shut_int underI wf⟩
end
section
open Go.RowKit
section
variable {α : Type}
theorem flat_length (f : Nat → List α) (s : Nat) : ∀ n, (∀ i, i < n → (f i).length = s) → ((List.range n).flatMap f).length = n * s
  | 0, _ => by simp
  | n + 1, h => by
    rw [List.range_succ, List.flatMap_append, List.length_append, flat_length f s n (fun i hi => h i (by omega))]
    simp only [List.flatMap_cons, List.flatMap_nil, List.append_nil]
    rw [h n (by omega), Nat.succ_mul]
theorem row_lt {i n s j : Nat} (hi : i < n) (hj : j < s) : i * s + j < n * s := by
  have := Nat.mul_le_mul_right s (Nat.succ_le_of_lt hi)
  rw [Nat.succ_mul] at this
  omega
theorem flat_get (f : Nat → List α) (s : Nat) : ∀ n, (∀ i, i < n → (f i).length = s) → ∀ i j, i < n → j < s → ((List.range n).flatMap f)[i * s + j]? = (f i)[j]?
  | 0, _, i, _, hi, _ => absurd hi (Nat.not_lt_zero _)
  | n + 1, h, i, j, hi, hj => by
    have hl := flat_length f s n (fun i hi => h i (by omega))
    rw [List.range_succ, List.flatMap_append]
    by_cases hlt : i < n
    · rw [List.getElem?_append_left (by rw [hl]; exact row_lt hlt hj)]
      exact flat_get f s n (fun i hi => h i (by omega)) i j hlt hj
    · obtain rfl : i = n := by omega
      rw [List.getElem?_append_right (by rw [hl]; omega), hl, Nat.add_sub_cancel_left]
      simp
theorem flat_congr {f g : Nat → List α} {n : Nat} (h : ∀ i, i < n → f i = g i) : (List.range n).flatMap f = (List.range n).flatMap g := by
  rw [List.flatMap_def, List.flatMap_def, List.map_congr_left fun i hi => h i (List.mem_range.1 hi)]
theorem flat_succ (f : Nat → List α) (n : Nat) (x : List α) : (List.range n).flatMap f ++ x = (List.range (n + 1)).flatMap (fun i => if i < n then f i else x) := by
  rw [List.range_succ, List.flatMap_append]
  congr 1
  · exact flat_congr fun i hi => by rw [if_pos hi]
  · simp
def setMany : List α → Nat → List α → List α
  | xs, _, [] => xs
  | xs, o, v :: r => setMany (xs.set o v) (o + 1) r
theorem setMany_length : ∀ (vs : List α) (xs : List α) (o : Nat), (setMany xs o vs).length = xs.length
  | [], _, _ => rfl
  | v :: r, xs, o => by rw [setMany, setMany_length r]; simp
theorem setMany_get : ∀ (vs : List α) (xs : List α) (o : Nat), o + vs.length ≤ xs.length → ∀ k, (setMany xs o vs)[k]? = if o ≤ k ∧ k < o + vs.length then vs[k - o]? else xs[k]?
  | [], xs, o, _, k => by
    rw [setMany, if_neg]
    simp only [List.length_nil]
    omega
  | v :: r, xs, o, h, k => by
    simp only [List.length_cons] at h ⊢
    rw [setMany, setMany_get r _ _ (by simp only [List.length_set]; omega)]
    by_cases h1 : o + 1 ≤ k ∧ k < o + 1 + r.length
    · rw [if_pos h1, if_pos (by omega), show k - o = (k - (o + 1)) + 1 by omega]
      simp
    · rw [if_neg h1]
      by_cases h2 : o = k
      · subst h2
        rw [if_pos (by omega), List.getElem?_set_self (by omega)]
        simp
      · rw [List.getElem?_set_ne h2, if_neg (by omega)]
theorem setMany_flat (f : Nat → List α) (s n : Nat) (h : ∀ i, i < n → (f i).length = s) (k : Nat) (hk : k < n) (vs : List α) (hv : vs.length = s) :
    setMany ((List.range n).flatMap f) (k * s) vs = (List.range n).flatMap (fun i => if i = k then vs else f i) := by
  have hl := flat_length f s n h
  have h' : ∀ i, i < n → ((fun i => if i = k then vs else f i) i).length = s := by
    intro i hi
    simp only
    split
    · exact hv
    · exact h i hi
  have hl' := flat_length _ s n h'
  have hb : k * s + s ≤ n * s := by
    have := Nat.mul_le_mul_right s (Nat.succ_le_of_lt hk)
    rwa [Nat.succ_mul] at this
  apply List.ext_getElem?
  intro m
  rw [setMany_get vs _ _ (by rw [hl, hv]; exact hb), hv]
  by_cases hm : m < n * s
  · have hs : 0 < s := Nat.pos_of_ne_zero fun h0 => by subst h0; simp at hm
    have e : m = m / s * s + m % s := by rw [Nat.mul_comm]; exact (Nat.div_add_mod m s).symm
    have hq : m / s < n := Nat.div_lt_of_lt_mul (by rw [Nat.mul_comm]; exact hm)
    have hr : m % s < s := Nat.mod_lt _ hs
    generalize m / s = q at *
    generalize m % s = r at *
    subst e
    rw [flat_get f s n h q r hq hr, flat_get _ s n h' q r hq hr]
    by_cases hqk : q = k
    · subst hqk
      rw [if_pos ⟨Nat.le_add_right _ _, by omega⟩]
      simp only [if_true]
      rw [Nat.add_sub_cancel_left]
    · simp only [if_neg hqk]
      rw [if_neg]
      rintro ⟨h1, h2⟩
      rcases Nat.lt_or_gt_of_ne hqk with h3 | h3
      · have := Nat.mul_le_mul_right s (Nat.succ_le_of_lt h3)
        rw [Nat.succ_mul] at this
        omega
      · have := Nat.mul_le_mul_right s (Nat.succ_le_of_lt h3)
        rw [Nat.succ_mul] at this
        omega
  · rw [if_neg (by omega), List.getElem?_eq_none (by rw [hl]; omega), List.getElem?_eq_none (by rw [hl']; omega)]
end
/-- the slice v owns n rows of s cells each -/
def Own (w : World) (B : Nat) (e : TypeId) (s : Nat) (v : Value) (n : Nat) (f : Nat → List Value) : Prop :=
  w.ownsRow B e s v n ((List.range n).flatMap f) ∧ ∀ i, i < n → (f i).length = s
section
variable {w w' : World} {B s n : Nat} {e : TypeId} {v : Value} {f g : Nat → List Value}
theorem Own.congr (h : Own w B e s v n f) (hg : ∀ i, i < n → f i = g i) : Own w B e s v n g :=
  ⟨by rw [← flat_congr hg]; exact h.1, fun i hi => by rw [← hg i hi]; exact h.2 i hi⟩
theorem Own.nil (w : World) (B : Nat) (e : TypeId) (s : Nat) (f : Nat → List Value) : Own w B e s (.slice none 0 0) 0 f := ⟨World.ownsRow_nil w B e s, fun i hi => absurd hi (Nat.not_lt_zero _)⟩
theorem Own.made (w : World) (B : Nat) (e : TypeId) (s : Nat) (f : Nat → List Value) (hB : B ≤ w.heap.size) : Own (w.alloc (.cells #[] e)) B e s (.slice (some ⟨w.heap.size, 0, none⟩) 0 0) 0 f :=
  ⟨World.ownsRow_made w #[] 0 hB (by unfold maxLen; omega) (by simp), fun i hi => absurd hi (Nat.not_lt_zero _)⟩
theorem Own.form (h : Own w B e s v n f) : ∃ sl cap, v = .slice sl n cap ∧ (0 < n → ∃ b, sl = some ⟨b, 0, none⟩ ∧ B ≤ b ∧ b < w.heap.size) := by
  rcases h.1.2 with ⟨rfl, rfl⟩ | ⟨b, cap, cur, rfl, hb, hg, _⟩
  · exact ⟨none, 0, rfl, fun h => absurd h (Nat.not_lt_zero _)⟩
  · exact ⟨_, cap, rfl, fun _ => ⟨b, rfl, hb, heap_lt hg⟩⟩
theorem Own.kept (h : Own w B e s v n f) (hk : ∀ b, v.ownBlock = some b → w'.heap[b]? = w.heap[b]?) : Own w' B e s v n f := by
  refine ⟨⟨h.1.1, ?_⟩, h.2⟩
  rcases h.1.2 with hn | ⟨b, cap, cur, rfl, hb, hg, rest⟩
  · exact .inl hn
  · exact .inr ⟨b, cap, cur, rfl, hb, (hk b rfl).trans hg, rest⟩
theorem Own.lt (h : Own w B e s v n f) : ∀ b, v.ownBlock = some b → B ≤ b ∧ b < w.heap.size := h.1.lt
theorem Own.below (h : Own w B e s v n f) (hB : Below w.heap.size w w') : Own w' B e s v n f := h.kept fun b hb => hB.block b (h.lt b hb).2
theorem Own.alloc (h : Own w B e s v n f) (o : Obj) : Own (w.alloc o) B e s v n f := ⟨h.1.alloc o, h.2⟩
theorem Own.drew (h : Own w B e s v n f) : Own w.drew B e s v n f := h
theorem Own.range {b cap : Nat} (h : Own w B e s (.slice (some ⟨b, 0, none⟩) n cap) n f) {i : Nat} (hi : i < n) : w.rangeAt b (i * s) (f i) := by
  intro j u hu
  have hj : j < s := by rw [← h.2 i hi]; exact (List.getElem?_eq_some_iff.1 hu).1
  rw [h.1.cellAt _ (row_lt hi hj), flat_get f s n h.2 i j hi hj, hu]
theorem Own.there {b cap : Nat} (h : Own w B e s (.slice (some ⟨b, 0, none⟩) n cap) n f) {i : Nat} (hi : i < n) : w.there b (i * s) s := by
  intro j hj
  refine ⟨?_, h.1.frozenAt _⟩
  rw [h.1.cellAt _ (row_lt hi hj), flat_get f s n h.2 i j hi hj, List.getElem?_eq_getElem (by rw [h.2 i hi]; exact hj)]
  rfl
theorem owns_setCells {b cap : Nat} : ∀ (vs : List Value) (w : World) (o : Nat) (xs : List Value), w.ownsRow B e s (.slice (some ⟨b, 0, none⟩) n cap) n xs →
    (w.setCells b o vs).ownsRow B e s (.slice (some ⟨b, 0, none⟩) n cap) n (setMany xs o vs) ∧ w.grownBy (w.setCells b o vs) (some b)
  | [], w, _, _, h => ⟨h, ⟨rfl, rfl, rfl, Nat.le_refl _, fun _ _ _ => rfl⟩⟩
  | v :: r, w, o, xs, h => by
    have h1 := h.stored o v
    have h2 := owns_setCells r _ (o + 1) _ h1.1
    exact ⟨h2.1, ⟨h2.2.os.trans h1.2.os, h2.2.tape.trans h1.2.tape, h2.2.output.trans h1.2.output, Nat.le_trans h1.2.size h2.2.size,
      fun k hk hne => (h2.2.block k (Nat.lt_of_lt_of_le hk h1.2.size) hne).trans (h1.2.block k hk hne)⟩⟩
theorem Own.store {b cap : Nat} (h : Own w B e s (.slice (some ⟨b, 0, none⟩) n cap) n f) {i : Nat} (hi : i < n) (vs : List Value) (hv : vs.length = s) :
    Own (w.setCells b (i * s) vs) B e s (.slice (some ⟨b, 0, none⟩) n cap) n (fun j => if j = i then vs else f j) ∧ w.grownBy (w.setCells b (i * s) vs) (some b) := by
  have h1 := owns_setCells vs w (i * s) _ h.1
  rw [setMany_flat f s n h.2 i hi vs hv] at h1
  refine ⟨⟨h1.1, fun j hj => ?_⟩, h1.2⟩
  simp only
  split
  · exact hv
  · exact h.2 j hj
theorem grown_below {R : Nat} {row : Option Nat} (hg : w.grownBy w' row) (hr : ∀ b, row = some b → R ≤ b) (hR : R ≤ w.heap.size) : Below R w w' :=
  ⟨hg.os, hg.tape, hg.output, hg.size, fun k hk => hg.block k (by omega) fun e => by have := hr k e.symm; omega⟩
end
theorem wpList_append_one {P : Program} {ops : Array Oper} {rest : List Oper} {o : Oper} {a : Act} {w : World} {Q : Exit → Act → World → Prop} (hgd : o.guard = none) (sx x : Operand) (t : TypeId)
    (ho : o.op = .call { callee := .builtin .append, args := #[sx, x], argTypes := #[t, t] }) (d : Option Tmp) (hd : o.dst = d)
    (B : Nat) (e : TypeId) (z : Value) (size bytes : Nat) (ht : P.underlying t = some (.slice e)) (hi : (P.info? e).map (fun i => (i.zero, i.size, i.bytes)) = some (some z, size, bytes)) (hzs : z.cells.size = size) (hsz : 0 < size)
    (v : Value) (n : Nat) (f : Nat → List Value) (hs : a.eval sx = v) (hown : Own w B e size v n f)
    (b c : Nat) (cs : List Value) (hx : a.eval x = .slice (some ⟨b, 0, none⟩) 1 c) (hl : cs.length = size) (hc : w.rangeAt b 0 cs) (h1 : ∀ u ∈ cs, u.oneCell' = true)
    (h63 : n + 1 ≤ maxLen) (hbytes : (n + 1) * bytes ≤ 140737488355328) (hB : B ≤ w.heap.size)
    (h : ∀ v' w', Own w' B e size v' (n + 1) (fun i => if i < n then f i else cs) → w.grownBy w' v.ownBlock → wpList P ops Q rest (a.put d v') w') : wpList P ops Q (o :: rest) a w := by
  cases hq : P.info? e with
  | none => rw [hq] at hi; cases hi
  | some i =>
    rw [hq] at hi
    simp only [Option.map_some, Option.some.injEq, Prod.mk.injEq] at hi
    obtain ⟨hz, hsize, hby⟩ := hi
    subst hd
    refine wpList_append_own w hgd sx x t ho B e i z size bytes ht hq hz hsize hby hzs hsz v n _ hs hown.1 ⟨b, 0, none⟩ 1 c cs hx (by rw [hl, Nat.one_mul]) (fun j u hu => ?_) h1 h63 hbytes hB ?_
    · have := hc j u hu
      rw [Addr.add_mid]
      exact this
    · intro v' w' ho' hg' _
      refine h v' w' ⟨by rw [flat_succ] at ho'; exact ho', fun j hj => ?_⟩ hg'
      show (if j < n then f j else cs).length = size
      split
      · exact hown.2 j (by omega)
      · exact hl
end
section
open Go.RowKit

theorem results_row2 {P : Program} {fn : Func} {p q : Tmp} {ty : TypeId} (h : fn.results = #[.cell p ty, .cell q ty]) (tmps : Array Value) (w : World) (g : Nat) (t : TypeId) (cs : Array Value) (fr : Nat × Nat) (g' : Nat) (t' : TypeId) (cs' : Array Value) (fr' : Nat × Nat) (d : TypeDesc)
    (hp : tmps.getD p undef = .pointer (some ⟨g, 0, none⟩)) (hq : tmps.getD q undef = .pointer (some ⟨g', 0, none⟩)) (hg : w.heap[g]? = some (.cells cs t fr)) (hg' : w.heap[g']? = some (.cells cs' t' fr'))
    (hu : P.underlying ty = some d) (hd : (match d with | .struct _ | .array _ _ => true | _ => false) = true) (hi : (P.info? ty).map (·.size) = some cs.size) (hi' : (P.info? ty).map (·.size) = some cs'.size) :
    (results fn tmps).run P w = .ok (.tuple #[.agg cs, .agg cs']) w := by
  have hp' : tmps[p]?.getD undef = .pointer (some ⟨g, 0, none⟩) := by simpa using hp
  have hq' : tmps[q]?.getD undef = .pointer (some ⟨g', 0, none⟩) := by simpa using hq
  simp [results, h, hp', hq', asAddr, run_loadVar_row w g t ty cs fr d hg hu hd hi, run_loadVar_row w g' t' ty cs' fr' d hg' hu hd hi']
theorem results_row_tmp2 {P : Program} {fn : Func} {p u u' : Tmp} {ty : TypeId} (h : fn.results = #[.cell p ty, .tmp u, .tmp u']) (tmps : Array Value) (w : World) (g : Nat) (t : TypeId) (cs : Array Value) (fr : Nat × Nat) (d : TypeDesc)
    (hp : tmps.getD p undef = .pointer (some ⟨g, 0, none⟩)) (hg : w.heap[g]? = some (.cells cs t fr))
    (hu : P.underlying ty = some d) (hd : (match d with | .struct _ | .array _ _ => true | _ => false) = true) (hi : (P.info? ty).map (·.size) = some cs.size) :
    (results fn tmps).run P w = .ok (.tuple #[.agg cs, tmps.getD u undef, tmps.getD u' undef]) w := by
  have hp' : tmps[p]?.getD undef = .pointer (some ⟨g, 0, none⟩) := by simpa using hp
  simp [results, h, hp', asAddr, run_loadVar_row w g t ty cs fr d hg hu hd hi]
theorem Keep.setsR {R : Nat} {w w1 w2 : World} {off x : Nat} (h : Keep R w w1) (hs : Sets w1 w2 R off x) : Keep R w w2 := by
  obtain ⟨L', _, _, hw⟩ := hs
  exact ⟨hw.os.trans h.os, hw.tape.trans h.tape, hw.output.trans h.output, Nat.le_trans h.size hw.size, fun k hk hne => (hw.other k (Nat.lt_of_lt_of_le hk h.size) hne).trans (h.block k hk hne)⟩
/-- every block but R and R' is as it was -/
structure Keep2 (R R' : Nat) (w w' : World) : Prop where
  os : w'.os = w.os
  tape : w'.tape = w.tape
  output : w'.output = w.output
  size : w.heap.size ≤ w'.heap.size
  block : ∀ k, k < w.heap.size → k ≠ R → k ≠ R' → w'.heap[k]? = w.heap[k]?
theorem Keep2.start (R R' : Nat) (w : World) : Keep2 R R' w w.drew := ⟨rfl, rfl, rfl, Nat.le_refl _, fun _ _ _ _ => rfl⟩
theorem Keep2.call {R R' : Nat} {w w1 w2 : World} (h : Keep2 R R' w w1) (hC : Below w1.heap.size w1 w2) : Keep2 R R' w w2 :=
  ⟨hC.os.trans h.os, hC.tape.trans h.tape, hC.output.trans h.output, Nat.le_trans h.size hC.size, fun k hk hne hne2 => (hC.block k (Nat.lt_of_lt_of_le hk h.size)).trans (h.block k hk hne hne2)⟩
theorem Keep2.store {R R' : Nat} {w w1 : World} (h : Keep2 R R' w w1) (cs : Array Value) : Keep2 R R' w (w1.setRow R cs) :=
  ⟨h.os, h.tape, h.output, by rw [setRow_size]; exact h.size, fun k hk hne hne2 => (setRow_other _ _ _ _ hne).trans (h.block k hk hne hne2)⟩
theorem Keep2.store' {R R' : Nat} {w w1 : World} (h : Keep2 R R' w w1) (cs : Array Value) : Keep2 R R' w (w1.setRow R' cs) :=
  ⟨h.os, h.tape, h.output, by rw [setRow_size]; exact h.size, fun k hk hne hne2 => (setRow_other _ _ _ _ hne2).trans (h.block k hk hne hne2)⟩
theorem Keep2.storeNew {R R' : Nat} {w w1 : World} (h : Keep2 R R' w w1) (cs : Array Value) {g : Nat} (hg : w.heap.size ≤ g) : Keep2 R R' w (w1.setRow g cs) :=
  ⟨h.os, h.tape, h.output, by rw [setRow_size]; exact h.size, fun k hk hne hne2 => (setRow_other _ _ _ _ (by omega)).trans (h.block k hk hne hne2)⟩
theorem Keep2.sets {R R' : Nat} {w w1 w2 : World} {b off x : Nat} (h : Keep2 R R' w w1) (hs : Sets w1 w2 b off x) (hb : w.heap.size ≤ b) : Keep2 R R' w w2 := by
  obtain ⟨L', _, _, hw⟩ := hs
  exact ⟨hw.os.trans h.os, hw.tape.trans h.tape, hw.output.trans h.output, Nat.le_trans h.size hw.size, fun k hk hne hne2 => (hw.other k (Nat.lt_of_lt_of_le hk h.size) (by omega)).trans (h.block k hk hne hne2)⟩
theorem Keep2.alloc {R R' : Nat} {w w1 : World} (h : Keep2 R R' w w1) (o : Obj) : Keep2 R R' w (w1.alloc o) :=
  ⟨h.os, h.tape, h.output, by rw [alloc_size]; exact Nat.le_trans h.size (Nat.le_succ _), fun k hk hne hne2 => (Below.heap_alloc _ _ _ (Nat.lt_of_lt_of_le hk h.size)).trans (h.block k hk hne hne2)⟩
theorem Keep2.old {R R' : Nat} {w w1 : World} (h : Keep2 R R' w w1) {b : Nat} {o : Obj} (hb : w.heap[b]? = some o) (hne : b ≠ R) (hne2 : b ≠ R') : w1.heap[b]? = some o := (h.block b (heap_lt hb) hne hne2).trans hb
theorem Keep2.below {R R' : Nat} {w w1 : World} (h : Keep2 R R' w w1) {B : Nat} (hB : B ≤ R) (hB2 : B ≤ R') (hs : B ≤ w.heap.size) : Below B w w1 :=
  ⟨h.os, h.tape, h.output, h.size, fun k hk => h.block k (by omega) (by omega) (by omega)⟩

theorem take_row2 {P : Program} {ops : Array Oper} {op : Oper} {a : Act} {R R' : Nat} {w0 : World} (hw : Region.wanted op (yielded ops a.tmps) = true) (ty : TypeId) (x : Operand) (ho : op.op = .load ty x)
    (g : Nat) (hx : a.eval x = .pointer (some ⟨g, 0, none⟩)) (t : TypeId) (cs : Array Value) (fr : Nat × Nat) (hg : w0.heap[g]? = some (.cells cs t fr)) (hne : g ≠ R) (hne2 : g ≠ R') {d : TypeDesc}
    (hu : P.underlying ty = some d) (hd : (match d with | .struct _ | .array _ _ => true | _ => false) = true) (hi : (P.info? ty).map (·.size) = some cs.size) : YieldsIf P ops (Keep2 R R' w0) op (.agg cs) a :=
  .inl ⟨hw, fun w hK => by
    unfold execOp
    simp only [ho, hx, Instr.loadAt, Instr.sureAddr, Sem.run_bind, Sem.run_pure, Result.andThen_ok, run_loadVar_row w g t ty cs fr d (hK.old hg hne hne2) hu hd hi]⟩
end
section
open Go.RowKit
/-- of the blocks of w none but b has turned -/
structure Fr (b : Nat) (w w' : World) : Prop where
  os : w'.os = w.os
  tape : w'.tape = w.tape
  output : w'.output = w.output
  size : w.heap.size ≤ w'.heap.size
  other : ∀ k, k < w.heap.size → k ≠ b → w'.heap[k]? = w.heap[k]?
theorem Fr.refl (b : Nat) (w : World) : Fr b w w := ⟨rfl, rfl, rfl, Nat.le_refl _, fun _ _ _ => rfl⟩
theorem Fr.call {b : Nat} {w w1 w2 : World} (h : Fr b w w1) (hC : Below w1.heap.size w1 w2) : Fr b w w2 :=
  ⟨hC.os.trans h.os, hC.tape.trans h.tape, hC.output.trans h.output, Nat.le_trans h.size hC.size, fun k hk hb => (hC.block k (Nat.lt_of_lt_of_le hk h.size)).trans (h.other k hk hb)⟩
theorem Fr.alloc {b : Nat} {w w1 : World} (h : Fr b w w1) (o : Obj) : Fr b w (w1.alloc o) :=
  ⟨h.os, h.tape, h.output, by rw [alloc_size]; have := h.size; omega, fun k hk hb => (Below.heap_alloc w1 o k (Nat.lt_of_lt_of_le hk h.size)).trans (h.other k hk hb)⟩
theorem Fr.drew {b : Nat} {w w1 : World} (h : Fr b w w1) : Fr b w w1.drew := ⟨h.os, h.tape, h.output, h.size, h.other⟩
theorem Fr.sets {b c off x : Nat} {w w1 w2 : World} (h : Fr b w w1) (hS : Sets w1 w2 c off x) (hc : c = b ∨ w.heap.size ≤ c) : Fr b w w2 := by
  obtain ⟨L, _, _, hw⟩ := hS
  exact ⟨hw.os.trans h.os, hw.tape.trans h.tape, hw.output.trans h.output, Nat.le_trans h.size hw.size, fun k hk hb => (hw.other k (Nat.lt_of_lt_of_le hk h.size) (by rcases hc with rfl | hc <;> omega)).trans (h.other k hk hb)⟩
theorem Fr.fr {b c : Nat} {w w1 w2 : World} (h : Fr b w w1) (hF : Fr c w1 w2) (hc : c = b ∨ w.heap.size ≤ c) : Fr b w w2 :=
  ⟨hF.os.trans h.os, hF.tape.trans h.tape, hF.output.trans h.output, Nat.le_trans h.size hF.size, fun k hk hb => (hF.other k (Nat.lt_of_lt_of_le hk h.size) (by rcases hc with rfl | hc <;> omega)).trans (h.other k hk hb)⟩
theorem Fr.below {b B : Nat} {w w' : World} (h : Fr b w w') (hb : B ≤ b) (hB : B ≤ w.heap.size) : Below B w w' :=
  ⟨h.os, h.tape, h.output, h.size, fun k hk => h.other k (by omega) (by omega)⟩
theorem Fr.ofBelow {b : Nat} {w w' : World} (h : Below w.heap.size w w') : Fr b w w' := (Fr.refl b w).call h
theorem Fr.keepF {b c off x : Nat} {w w' : World} (h : Fr b w w') (hF : Fe w c off x) (hc : c ≠ b) : Fe w' c off x := hF.keep (h.other c hF.lt hc)
theorem Fr.keepR {b c off n : Nat} {vs : Nat → Value} {w w' : World} (h : Fr b w w') (hF : Row w c off n vs) (hc : c ≠ b) : Row w' c off n vs := hF.keep (h.other c hF.lt hc)
theorem Fr.keepB {b c : Nat} {o : Obj} {w w' : World} (h : Fr b w w') (hF : w.heap[c]? = some o) (hc : c ≠ b) : w'.heap[c]? = some o := (h.other c (heap_lt hF) hc).trans hF
/-- an element of a new block -/
theorem Fe.news_at (w : World) (n : Nat) (cs : Array Value) (T : TypeId) (k : Nat) (h0 : cs[k]? = some (.int .u64 0)) (h1 : cs[k + 1]? = some (.int .u64 0)) (h2 : cs[k + 2]? = some (.int .u64 0)) (h3 : cs[k + 3]? = some (.int .u64 0)) (h4 : cs[k + 4]? = some (.int .u64 0)) (h : w.heap.size = n) :
    Fe (w.alloc (.cells cs T)) n k 0 := by
  subst h
  refine ⟨z5, ⟨cs, T, (0, 0), heap_new_at _ _ _ rfl, fun i hi => ⟨?_, by simp⟩⟩, by unfold Bd z5; simp only; omega, by unfold val5 z5; simp⟩
  rcases (show i = 0 ∨ i = 1 ∨ i = 2 ∨ i = 3 ∨ i = 4 by omega) with rfl | rfl | rfl | rfl | rfl
  · exact h0
  · exact h1
  · exact h2
  · exact h3
  · exact h4
end
section
open Go.RowKit
theorem sets_ofDrew {w w' : World} {b off x : Nat} (h : Sets w.drew w' b off x) : Sets w w' b off x := by obtain ⟨L', h1, h2, hw⟩ := h; exact ⟨L', h1, h2, hw.ofDrew⟩
theorem Var.drew {g B : Nat} {L : L5} {w : World} (h : Var g L B w) : Var g L B w.drew := h
/-- a step's cells -/
def opC (k z x y : Int) (n : Nat) : Array Value := #[.int .i64 k, .int .i64 z, .int .i64 x, .int .i64 y, .int .u32 (n : Int)]
end
section
open Go.RowKit
theorem kinds16 (k : Int) : k = 0 ∨ k = 1 ∨ k = 2 ∨ k = 3 ∨ k = 4 ∨ k = 5 ∨ k = 6 ∨ k = 7 ∨ k = 8 ∨ k = 9 ∨ k = 10 ∨ k = 11 ∨ k = 12 ∨ k = 13 ∨ k = 14 ∨ k = 15 ∨ (k < 0 ∨ 15 < k) := by omega
theorem usesN_off {k : Int} (h : k < 0 ∨ 15 < k) : usesN k = (false, false, false) := by
  unfold usesN
  rw [if_neg (by omega), if_neg (by omega), if_neg (by omega)]
theorem isreg_any (i : Int) (n : Nat) (w : World) : Calls Tryd.prog 9 #[.int .i64 i, .int .i64 (n : Int)] w fun e w' => e = .returned (.bool (regN i n)) ∧ w' = w := by
  by_cases h : 0 ≤ i
  · go_enter Tryd.func9, Tryd.ntmps9
    go_wp2
    go_ret
    simp [regN, h]
    try omega
  · go_enter Tryd.func9, Tryd.ntmps9
    go_wp2
    go_ret
    simp [regN, h]
    try omega
set_option maxHeartbeats 4000000 in
theorem iuses_any (k : Int) (w : World) : Calls Tryd.prog 8 #[.int .i64 k] w fun e w' => e = .returned (.tuple #[.bool (usesN k).1, .bool (usesN k).2.1, .bool (usesN k).2.2]) ∧ w' = w := by
  rcases kinds16 k with rfl | rfl | rfl | rfl | rfl | rfl | rfl | rfl | rfl | rfl | rfl | rfl | rfl | rfl | rfl | rfl | h
  case inr.inr.inr.inr.inr.inr.inr.inr.inr.inr.inr.inr.inr.inr.inr.inr =>
    rw [usesN_off h]
    have h0 : ¬ k = 0 := by omega
    have h1 : ¬ k = 1 := by omega
    have h2 : ¬ k = 2 := by omega
    have h3 : ¬ k = 3 := by omega
    have h4 : ¬ k = 4 := by omega
    have h5 : ¬ k = 5 := by omega
    have h6 : ¬ k = 6 := by omega
    have h7 : ¬ k = 7 := by omega
    have h8 : ¬ k = 8 := by omega
    have h9 : ¬ k = 9 := by omega
    have h10 : ¬ k = 10 := by omega
    have h11 : ¬ k = 11 := by omega
    have h12 : ¬ k = 12 := by omega
    have h13 : ¬ k = 13 := by omega
    have h14 : ¬ k = 14 := by omega
    have h15 : ¬ k = 15 := by omega
    clear h
    go_enter Tryd.func8, Tryd.ntmps8
    go_wp2
    go_ret3
    simp
  all_goals
    go_enter Tryd.func8, Tryd.ntmps8
    go_wp2
    go_ret3
    simp [usesN]
set_option maxHeartbeats 4000000 in
theorem suses_any (k : Int) (w : World) : Calls Tryd.prog 13 #[.int .i64 k] w fun e w' => e = .returned (.tuple #[.bool (usesN k).2.1, .bool (usesN k).2.2]) ∧ w' = w := by
  rcases kinds16 k with rfl | rfl | rfl | rfl | rfl | rfl | rfl | rfl | rfl | rfl | rfl | rfl | rfl | rfl | rfl | rfl | h
  case inr.inr.inr.inr.inr.inr.inr.inr.inr.inr.inr.inr.inr.inr.inr.inr =>
    rw [usesN_off h]
    have h0 : ¬ k = 0 := by omega
    have h1 : ¬ k = 1 := by omega
    have h2 : ¬ k = 2 := by omega
    have h3 : ¬ k = 3 := by omega
    have h4 : ¬ k = 4 := by omega
    have h5 : ¬ k = 5 := by omega
    have h6 : ¬ k = 6 := by omega
    have h7 : ¬ k = 7 := by omega
    have h8 : ¬ k = 8 := by omega
    have h9 : ¬ k = 9 := by omega
    have h10 : ¬ k = 10 := by omega
    have h11 : ¬ k = 11 := by omega
    have h12 : ¬ k = 12 := by omega
    have h15 : ¬ k = 15 := by omega
    clear h
    go_enter Tryd.func13, Tryd.ntmps13
    go_wp2
    go_ret2
    simp
  all_goals
    go_enter Tryd.func13, Tryd.ntmps13
    go_wp2
    go_ret2
    simp [usesN]
set_option maxHeartbeats 1000000 in
theorem there_any (n : Nat) (i : Int) (b : Nat) (w : World) (hc : w.cell? ⟨b, 0, none⟩ = some (.int .i64 i)) : Calls Tryd.prog 14 #[.int .i64 (n : Int), .slice (some ⟨b, 0, none⟩) 1 1] w fun e w' => e = .returned (.bool (regN i n)) ∧ w' = w := by
  by_cases h : 0 ≤ i
  · by_cases h2 : i < (n : Int)
    · go_enter Tryd.func14, Tryd.ntmps14
      go_wp2
      refine wp_loop_rounds 2 ?_
      rw [rounds_succ]
      go_wp2
      rw [rounds_succ]
      go_wp2
      go_ret
      simp [regN, h, h2]
    · go_enter Tryd.func14, Tryd.ntmps14
      go_wp2
      refine wp_loop_rounds 1 ?_
      rw [rounds_succ]
      go_wp2
      go_ret
      simp [regN, h, h2]
  · have h' : i < 0 := by omega
    go_enter Tryd.func14, Tryd.ntmps14
    go_wp2
    refine wp_loop_rounds 1 ?_
    rw [rounds_succ]
    go_wp2
    go_ret
    simp [regN]
    try omega
end
section
open Go.RowKit

def uC (V : Nat) : Array Value := #[.int .u64 ((V % 18446744073709551616 : Nat) : Int), .int .u64 ((V / 18446744073709551616 : Nat) : Int)]
theorem uC_size (V : Nat) : (uC V).size = 2 := rfl
theorem uC_one (V : Nat) : (uC V).all (·.oneCell') = true := by simp [uC, Value.oneCell']
def zU : Array Value := #[.int .u64 0, .int .u64 0]
theorem zU_size : zU.size = 2 := rfl
theorem zU_one : zU.all (·.oneCell') = true := by simp [zU, Value.oneCell']
def isTwo (d : Option TypeDesc) : Bool := match d with | some (.struct _) => true | _ => false
theorem isTwo_of {d : Option TypeDesc} (h : isTwo d = true) : ∃ fs, d = some (.struct fs) := by
  match d, h with
  | some (.struct fs), _ => exact ⟨fs, rfl⟩
theorem infoU : (Tryd.prog.info? 100).map (·.size) = some 2 := by kernel_rfl
theorem infoU_of (cs : Array Value) (h : cs.size = 2) : (Tryd.prog.info? 100).map (·.size) = some cs.size := infoU.trans (by rw [h])
theorem uC_of (V L H : Nat) (hL : L < 18446744073709551616) (h : V = H * 18446744073709551616 + L) : uC V = #[.int .u64 (L : Int), .int .u64 (H : Int)] := by
  unfold uC
  rw [show V % 18446744073709551616 = L by omega, show V / 18446744073709551616 = H by omega]

theorem Mul64_to (x y H L : Nat) (hx : x < 18446744073709551616) (hy : y < 18446744073709551616) (h : Hid (H * 18446744073709551616 + L = x * y)) (hL : L < 18446744073709551616) (w : World) :
    Calls Tryd.prog 71 #[.int .u64 (x : Int), .int .u64 (y : Int)] w fun e w' => e = .returned (.tuple #[.int .u64 (H : Int), .int .u64 (L : Int)]) ∧ w = w' := by
  have h := h.out
  have e1 : H = x * y / 18446744073709551616 := by omega
  have e2 : L = x * y % 18446744073709551616 := by omega
  rw [e1, e2]
  exact Mul64_any x y hx hy w
theorem Add64_to (x y c s k : Nat) (hc : c ≤ 1) (h : Hid (k * 18446744073709551616 + s = x + y + c)) (hs : s < 18446744073709551616) (w : World) :
    (callFunc 75 #[.int .u64 (x : Int), .int .u64 (y : Int), .int .u64 (c : Int)]).run Tryd.prog w = .ok (.value (.tuple #[.int .u64 (s : Int), .int .u64 (k : Int)])) w := by
  have h := h.out
  rw [run_Add64 x y c hc w, show (x + y + c) % 18446744073709551616 = s by omega, show (x + y + c) / 18446744073709551616 = k by omega]
theorem split64 (V : Nat) : ∃ H L : Nat, L < 18446744073709551616 ∧ Hid (H * 18446744073709551616 + L = V) :=
  ⟨V / 18446744073709551616, V % 18446744073709551616, by omega, Lib.hid (by omega)⟩
theorem mul_lt64 {a b : Nat} (ha : a < 18446744073709551616) (hb : b < 18446744073709551616) : a * b ≤ 340282366920938463426481119284349108225 := by
  have := Nat.mul_le_mul (Nat.le_pred_of_lt ha) (Nat.le_pred_of_lt hb)
  exact this

set_option maxHeartbeats 1000000 in
theorem mul_raw (a b H L : Nat) (ha : a < 18446744073709551616) (hb : b < 18446744073709551616) (hL : L < 18446744073709551616) (h : Hid (H * 18446744073709551616 + L = a * b)) (w : World) :
    Calls Tryd.prog 66 #[.int .u64 (a : Int), .int .u64 (b : Int)] w fun e w' => e = .returned (.agg #[.int .u64 (L : Int), .int .u64 (H : Int)]) ∧ Below w.heap.size w w' := by
  go_enter Tryd.func66, Tryd.ntmps66
  go_wp2_with fail
  refine (Mul64_to a b H L ha hb h hL _).mono ?_
  rintro e w' ⟨rfl, rfl⟩
  go_wp2
  exact bodyPost_ret (v := .agg #[.int .u64 (L : Int), .int .u64 (H : Int)]) (by simp [results, Tryd.results66, go_sem]) rfl ⟨rfl, (Below.refl _ _).alloc (Nat.le_refl _) _⟩
theorem mul_any (a b R : Nat) (ha : a < 18446744073709551616) (hb : b < 18446744073709551616) (hR : Hid (R = a * b)) (w : World) :
    Calls Tryd.prog 66 #[.int .u64 (a : Int), .int .u64 (b : Int)] w fun e w' => e = .returned (.agg (uC R)) ∧ Below w.heap.size w w' := by
  obtain ⟨H, L, hL, h⟩ := split64 (a * b)
  rw [uC_of R L H hL (by have := h.out; have := hR.out; omega)]
  exact mul_raw a b H L ha hb hL h w
set_option maxHeartbeats 1000000 in
theorem addMul_raw (lo hi a b H L s k S K : Nat) (ha : a < 18446744073709551616) (hb : b < 18446744073709551616) (hL : L < 18446744073709551616) (h : Hid (H * 18446744073709551616 + L = a * b))
    (hs : s < 18446744073709551616) (h1 : Hid (k * 18446744073709551616 + s = L + lo + 0)) (hk : k ≤ 1) (hS : S < 18446744073709551616) (h2 : Hid (K * 18446744073709551616 + S = H + hi + k)) (w : World) :
    Calls Tryd.prog 69 #[.agg #[.int .u64 (lo : Int), .int .u64 (hi : Int)], .int .u64 (a : Int), .int .u64 (b : Int)] w fun e w' => e = .returned (.agg #[.int .u64 (s : Int), .int .u64 (S : Int)]) ∧ Below w.heap.size w w' := by
  have r1 : ∀ u : World, (callFunc 75 #[.int .u64 (L : Int), .int .u64 (lo : Int), .int .u64 0]).run Tryd.prog u = .ok (.value (.tuple #[.int .u64 (s : Int), .int .u64 (k : Int)])) u := fun u => Add64_to L lo 0 s k (by omega) h1 hs u
  have r2 := fun u : World => Add64_to H hi k S K hk h2 hS u
  go_enter Tryd.func69, Tryd.ntmps69
  go_wp2_with fail
  refine (Mul64_to a b H L ha hb h hL _).mono ?_
  rintro e w' ⟨rfl, rfl⟩
  go_wp2
  exact bodyPost_ret (v := .agg #[.int .u64 (s : Int), .int .u64 (S : Int)]) (by simp [results, Tryd.results69, go_sem]) rfl ⟨rfl, ((Below.refl _ _).alloc (Nat.le_refl _) _).alloc (by simp) _⟩
theorem addMul_any (V a b R : Nat) (ha : a < 18446744073709551616) (hb : b < 18446744073709551616) (hR : Hid (R = V + a * b)) (hlt : R < 340282366920938463463374607431768211456) (w : World) :
    Calls Tryd.prog 69 #[.agg (uC V), .int .u64 (a : Int), .int .u64 (b : Int)] w fun e w' => e = .returned (.agg (uC R)) ∧ Below w.heap.size w w' := by
  obtain ⟨H, L, hL, h⟩ := split64 (a * b)
  obtain ⟨hi, lo, hlo, hV⟩ := split64 V
  obtain ⟨k, s, hs, h1⟩ := split64 (L + lo + 0)
  obtain ⟨K, S, hS, h2⟩ := split64 (H + hi + k)
  have hR := hR.out; have hh := h.out; have hv := hV.out; have hh1 := h1.out; have hh2 := h2.out
  obtain ⟨P, hP⟩ : ∃ P, P = a * b := ⟨_, rfl⟩
  rw [← hP] at hR hh
  have hK : K = 0 := by omega
  rw [uC_of V lo hi hlo (by omega), uC_of R s S hs (by omega)]
  exact addMul_raw lo hi a b H L s k S K ha hb hL h hs h1 (by omega) hS h2 w
theorem mul19_to (a A : Nat) (h : a < 970881267037344822) (hA : Hid (A = 19 * a)) (w : World) :
    Calls Tryd.prog 64 #[.int .u64 (a : Int)] w fun e w' => e = .returned (.int .u64 (A : Int)) ∧ w = w' := by
  rw [hA.out, show ((19 * a : Nat) : Int) = 19 * (a : Int) by omega]
  exact (mul19_any (a : Int) w (by omega) (by omega)).mono fun e w' ⟨h1, h2⟩ => ⟨h1, h2.symm⟩
set_option maxHeartbeats 1000000 in
theorem addMul19_raw (lo hi a A b H L s k S K : Nat) (ha : a < 970881267037344822) (hA : Hid (A = 19 * a)) (hb : b < 18446744073709551616) (hL : L < 18446744073709551616) (h : Hid (H * 18446744073709551616 + L = A * b))
    (hs : s < 18446744073709551616) (h1 : Hid (k * 18446744073709551616 + s = L + lo + 0)) (hk : k ≤ 1) (hS : S < 18446744073709551616) (h2 : Hid (K * 18446744073709551616 + S = H + hi + k)) (w : World) :
    Calls Tryd.prog 68 #[.agg #[.int .u64 (lo : Int), .int .u64 (hi : Int)], .int .u64 (a : Int), .int .u64 (b : Int)] w fun e w' => e = .returned (.agg #[.int .u64 (s : Int), .int .u64 (S : Int)]) ∧ Below w.heap.size w w' := by
  have r1 : ∀ u : World, (callFunc 75 #[.int .u64 (L : Int), .int .u64 (lo : Int), .int .u64 0]).run Tryd.prog u = .ok (.value (.tuple #[.int .u64 (s : Int), .int .u64 (k : Int)])) u := fun u => Add64_to L lo 0 s k (by omega) h1 hs u
  have r2 := fun u : World => Add64_to H hi k S K hk h2 hS u
  go_enter Tryd.func68, Tryd.ntmps68
  go_wp2_with fail
  refine (mul19_to a A ha hA _).mono ?_
  rintro e w' ⟨rfl, rfl⟩
  go_wp2_with fail
  refine (Mul64_to A b H L (by have := hA.out; omega) hb h hL _).mono ?_
  rintro e w' ⟨rfl, rfl⟩
  go_wp2
  exact bodyPost_ret (v := .agg #[.int .u64 (s : Int), .int .u64 (S : Int)]) (by simp [results, Tryd.results68, go_sem]) rfl ⟨rfl, ((Below.refl _ _).alloc (Nat.le_refl _) _).alloc (by simp) _⟩
theorem addMul19_any (V a b R : Nat) (ha : a < 970881267037344822) (hb : b < 18446744073709551616) (hR : Hid (R = V + 19 * (a * b))) (hlt : R < 340282366920938463463374607431768211456) (w : World) :
    Calls Tryd.prog 68 #[.agg (uC V), .int .u64 (a : Int), .int .u64 (b : Int)] w fun e w' => e = .returned (.agg (uC R)) ∧ Below w.heap.size w w' := by
  obtain ⟨A, hA⟩ : ∃ A : Nat, Hid (A = 19 * a) := ⟨_, rfl⟩
  obtain ⟨H, L, hL, h⟩ := split64 (A * b)
  obtain ⟨hi, lo, hlo, hV⟩ := split64 V
  obtain ⟨k, s, hs, h1⟩ := split64 (L + lo + 0)
  obtain ⟨K, S, hS, h2⟩ := split64 (H + hi + k)
  have hR := hR.out; have hh := h.out; have hv := hV.out; have hh1 := h1.out; have hh2 := h2.out
  rw [show 19 * (a * b) = A * b by rw [hA.out, Nat.mul_assoc]] at hR
  obtain ⟨P, hP⟩ : ∃ P, P = A * b := ⟨_, rfl⟩
  rw [← hP] at hR hh
  have hK : K = 0 := by omega
  rw [uC_of V lo hi hlo (by omega), uC_of R s S hs (by omega)]
  exact addMul19_raw lo hi a A b H L s k S K ha hA hb hL h hs h1 (by omega) hS h2 w
set_option maxHeartbeats 1000000 in
theorem addMul38_raw (lo hi a A b B H L s k S K : Nat) (ha : a < 970881267037344822) (hA : Hid (A = 19 * a)) (hb : b < 9223372036854775808) (hB : Hid (B = b * 2)) (hL : L < 18446744073709551616) (h : Hid (H * 18446744073709551616 + L = A * B))
    (hs : s < 18446744073709551616) (h1 : Hid (k * 18446744073709551616 + s = L + lo + 0)) (hk : k ≤ 1) (hS : S < 18446744073709551616) (h2 : Hid (K * 18446744073709551616 + S = H + hi + k)) (w : World) :
    Calls Tryd.prog 67 #[.agg #[.int .u64 (lo : Int), .int .u64 (hi : Int)], .int .u64 (a : Int), .int .u64 (b : Int)] w fun e w' => e = .returned (.agg #[.int .u64 (s : Int), .int .u64 (S : Int)]) ∧ Below w.heap.size w w' := by
  have r1 : ∀ u : World, (callFunc 75 #[.int .u64 (L : Int), .int .u64 (lo : Int), .int .u64 0]).run Tryd.prog u = .ok (.value (.tuple #[.int .u64 (s : Int), .int .u64 (k : Int)])) u := fun u => Add64_to L lo 0 s k (by omega) h1 hs u
  have r2 := fun u : World => Add64_to H hi k S K hk h2 hS u
  go_enter Tryd.func67, Tryd.ntmps67
  go_wp2_with fail
  refine (mul19_to a A ha hA _).mono ?_
  rintro e w' ⟨rfl, rfl⟩
  go_wp2_with fail
  rw [show (b : Int) * 2 = (B : Int) by have := hB.out; omega]
  refine (Mul64_to A B H L (by have := hA.out; omega) (by have := hB.out; omega) h hL _).mono ?_
  rintro e w' ⟨rfl, rfl⟩
  go_wp2
  exact bodyPost_ret (v := .agg #[.int .u64 (s : Int), .int .u64 (S : Int)]) (by simp [results, Tryd.results67, go_sem]) rfl ⟨rfl, ((Below.refl _ _).alloc (Nat.le_refl _) _).alloc (by simp) _⟩
theorem addMul38_any (V a b R : Nat) (ha : a < 970881267037344822) (hb : b < 9223372036854775808) (hR : Hid (R = V + 38 * (a * b))) (hlt : R < 340282366920938463463374607431768211456) (w : World) :
    Calls Tryd.prog 67 #[.agg (uC V), .int .u64 (a : Int), .int .u64 (b : Int)] w fun e w' => e = .returned (.agg (uC R)) ∧ Below w.heap.size w w' := by
  obtain ⟨A, hA⟩ : ∃ A : Nat, Hid (A = 19 * a) := ⟨_, rfl⟩
  obtain ⟨B, hB⟩ : ∃ B : Nat, Hid (B = b * 2) := ⟨_, rfl⟩
  obtain ⟨H, L, hL, h⟩ := split64 (A * B)
  obtain ⟨hi, lo, hlo, hV⟩ := split64 V
  obtain ⟨k, s, hs, h1⟩ := split64 (L + lo + 0)
  obtain ⟨K, S, hS, h2⟩ := split64 (H + hi + k)
  have hR := hR.out; have hh := h.out; have hv := hV.out; have hh1 := h1.out; have hh2 := h2.out
  rw [show 38 * (a * b) = A * B by rw [hA.out, hB.out]; grind] at hR
  obtain ⟨P, hP⟩ : ∃ P, P = A * B := ⟨_, rfl⟩
  rw [← hP] at hR hh
  have hK : K = 0 := by omega
  rw [uC_of V lo hi hlo (by omega), uC_of R s S hs (by omega)]
  exact addMul38_raw lo hi a A b B H L s k S K ha hA hb hB hL h hs h1 (by omega) hS h2 w
set_option maxHeartbeats 1000000 in
theorem shr51_raw (lo hi R : Nat) (hhi : hi < 2251799813685248) (hlo : lo < 18446744073709551616) (e : bits .or .u64 ((hi : Int) * 8192) ((lo : Int) / 2251799813685248) = (R : Int)) (w : World) :
    Calls Tryd.prog 70 #[.agg #[.int .u64 (lo : Int), .int .u64 (hi : Int)]] w fun e w' => e = .returned (.int .u64 (R : Int)) ∧ Below w.heap.size w w' := by
  go_enter Tryd.func70, Tryd.ntmps70
  go_wp2
  go_ret
  exact ⟨rfl, (Below.refl _ _).alloc (Nat.le_refl _) _⟩
theorem shr51_any (V R : Nat) (hV : V < 41538374868278621028243970633760768) (hR : Hid (R = V / 2251799813685248)) (w : World) :
    Calls Tryd.prog 70 #[.agg (uC V)] w fun e w' => e = .returned (.int .u64 (R : Int)) ∧ Below w.heap.size w w' := by
  obtain ⟨hi, lo, hlo, hv⟩ := split64 V
  have hv := hv.out; have hR := hR.out
  rw [uC_of V lo hi hlo (by omega)]
  have e1 : hi < 2251799813685248 := by omega
  have e2 : hi * 8192 + lo / 2251799813685248 = R := by
    rw [hR, ← hv]
    clear hR hv hV
    omega
  have e3 : lo / 2251799813685248 < 2 ^ 13 := by omega
  have e4 : hi * 2 ^ 13 + lo / 2251799813685248 < 18446744073709551616 := by omega
  have h := or_word hi (lo / 2251799813685248) 13 e3 e4
  have e5 : hi * 2 ^ 13 + lo / 2251799813685248 = R := e2
  rw [e5] at h
  have e6 : ((hi * 2 ^ 13 : Nat) : Int) = (hi : Int) * 8192 := by omega
  have e7 : ((lo / 2251799813685248 : Nat) : Int) = (lo : Int) / 2251799813685248 := by omega
  rw [e6, e7] at h
  exact shr51_raw lo hi R e1 hlo h w
end
section
open Go.RowKit


/-- a cell of a block that is known whole -/
theorem blk_cell {w : World} {b : Nat} {cs : Array Value} {t : TypeId} {fr : Nat × Nat} (h : w.heap[b]? = some (.cells cs t fr)) (i : Nat) {v : Value} (hv : cs[i]? = some v) : w.cell? ⟨b, i, none⟩ = some v := by
  simp [World.cell?, h, hv]
theorem uC_0 (V : Nat) : (uC V)[0]? = some (.int .u64 ((V % 18446744073709551616 : Nat) : Int)) := rfl
theorem low51 (V l m : Nat) (hl : Hid (l = V % 18446744073709551616)) (hm : Hid (m = V % 2251799813685248)) : bits .and .u64 (l : Int) 2251799813685247 = (m : Int) := by
  have h1 := hl.out; have h2 := hm.out
  rw [mask51 l (by omega), show l % 2251799813685248 = m by omega]
theorem qcell {P : Program} {w0 w : World} {o : Oper} {a : Act} {v : Value} (ty : TypeId) (x : Operand) (ho : o.op = .load ty x) (b off : Nat) (hx : a.eval x = .pointer (some ⟨b, off, none⟩))
    (hc : w0.cell? ⟨b, off, none⟩ = some v) (hlt : b < w0.heap.size) (hB : Below w0.heap.size w0 w) (hrun : ∀ u : World, u.cell? ⟨b, off, none⟩ = some v → (execOp a.eval o).run P u = .ok (.value v) u) {C : World → Prop} : o.quietAt P a C w v := by
  unfold Oper.quietAt
  rw [hrun w ((hB.cell (p := ⟨b, off, none⟩) hlt).trans hc)]
  exact ⟨rfl, rfl⟩
theorem mul19_q (a : Int) (w : World) (h0 : 0 ≤ a) (h : a < 970881267037344822) : Calls Tryd.prog 64 #[.int .u64 a] w fun e w'' => e = .returned (.int .u64 (19 * a)) ∧ Below w.heap.size w w'' :=
  (mul19_any a w h0 h).mono fun e w'' ⟨h1, h2⟩ => ⟨h1, by rw [h2]; exact Below.refl _ _⟩
end
section
open Go.RowKit


theorem and51 (L m : Nat) (hL : L < 18446744073709551616) (hm : Hid (m = L % 2251799813685248)) : bits .and .u64 (L : Int) 2251799813685247 = (m : Int) := by
  rw [mask51 L hL, hm.out]
theorem sh51 (H L R : Nat) (hH : H < 2251799813685248) (hL : L < 18446744073709551616) (hR : Hid (R = (H * 18446744073709551616 + L) / 2251799813685248)) : bits .or .u64 ((H : Int) * 8192) ((L : Int) / 2251799813685248) = (R : Int) := by
  have hR := hR.out
  have e3 : L / 2251799813685248 < 2 ^ 13 := by omega
  have e4 : H * 2 ^ 13 + L / 2251799813685248 < 18446744073709551616 := by omega
  have h := or_word H (L / 2251799813685248) 13 e3 e4
  have e5 : H * 2 ^ 13 + L / 2251799813685248 = R := by
    rw [hR]
    clear hR h e4
    have e2 : H * 8192 + L / 2251799813685248 = (H * 18446744073709551616 + L) / 2251799813685248 := by omega
    exact e2
  rw [e5] at h
  have e6 : ((H * 2 ^ 13 : Nat) : Int) = (H : Int) * 8192 := by omega
  have e7 : ((L / 2251799813685248 : Nat) : Int) = (L : Int) / 2251799813685248 := by omega
  rw [e6, e7] at h
  exact h
set_option maxHeartbeats 1000000 in
theorem mul51_raw (a y H L lo hi : Nat) (ha : a < 18446744073709551616) (hy : y < 4294967296) (h : Hid (H * 18446744073709551616 + L = a * y)) (hL : L < 18446744073709551616) (hH : H < 2251799813685248)
    (e1 : bits .and .u64 (L : Int) 2251799813685247 = (lo : Int)) (e2 : bits .or .u64 ((H : Int) * 8192) ((L : Int) / 2251799813685248) = (hi : Int)) (w : World) :
    Calls Tryd.prog 52 #[.int .u64 (a : Int), .int .u32 (y : Int)] w fun e w' => e = .returned (.tuple #[.int .u64 (lo : Int), .int .u64 (hi : Int)]) ∧ w = w' := by
  go_enter Tryd.func52, Tryd.ntmps52
  go_wp2_with fail
  refine (Mul64_to a y H L ha (by omega) h hL _).mono ?_
  rintro e w' ⟨rfl, rfl⟩
  go_wp2
  go_ret2
  exact ⟨rfl, rfl⟩
theorem mul51_any (a y lo hi : Nat) (ha : a ≤ 2252074691592191) (hy : y < 4294967296) (hlo : Hid (lo = a * y % 2251799813685248)) (hhi : Hid (hi = a * y / 2251799813685248)) (w : World) :
    Calls Tryd.prog 52 #[.int .u64 (a : Int), .int .u32 (y : Int)] w fun e w' => e = .returned (.tuple #[.int .u64 (lo : Int), .int .u64 (hi : Int)]) ∧ w = w' := by
  obtain ⟨H, L, hL, h⟩ := split64 (a * y)
  have hb := Nat.mul_le_mul ha (show y ≤ 4294967295 by omega)
  have h' := h.out
  have hH : H < 2251799813685248 := by omega
  refine mul51_raw a y H L lo hi (by omega) hy h hL hH (and51 L lo hL (Lib.hid ?_)) (sh51 H L hi hH hL (Lib.hid ?_)) w
  · rw [hlo.out, ← h']; omega
  · rw [hhi.out, ← h']

set_option maxHeartbeats 2000000 in
theorem mult32_raw (vb vo ab ao a0 a1 a2 a3 a4 y : Nat) (vs : Nat → Value) (ba0 : a0 ≤ 2252074691592191) (ba1 : a1 ≤ 2252074691592191) (ba2 : a2 ≤ 2252074691592191) (ba3 : a3 ≤ 2252074691592191) (ba4 : a4 ≤ 2252074691592191) (hy : y < 4294967296) (w : World) (hv : Row w vb vo 5 vs) (h0 : w.cell? ⟨ab, ao, none⟩ = some (.int .u64 (a0 : Int))) (h1 : w.cell? ⟨ab, ao + 1, none⟩ = some (.int .u64 (a1 : Int))) (h2 : w.cell? ⟨ab, ao + 2, none⟩ = some (.int .u64 (a2 : Int))) (h3 : w.cell? ⟨ab, ao + 3, none⟩ = some (.int .u64 (a3 : Int))) (h4 : w.cell? ⟨ab, ao + 4, none⟩ = some (.int .u64 (a4 : Int))) :
    Calls Tryd.prog 23 #[.pointer (some ⟨vb, vo, none⟩), .pointer (some ⟨ab, ao, none⟩), .int .u32 (y : Int)] w fun e w' => e = .returned (.pointer (some ⟨vb, vo, none⟩)) ∧ Wr w w' vb vo 5 (limbV (cpL ⟨a0 * y, a1 * y, a2 * y, a3 * y, a4 * y⟩)) := by
  have ba0' := Nat.mul_le_mul ba0 (show y ≤ 4294967295 by omega)
  obtain ⟨lo0, qlo0⟩ : ∃ u : Nat, u = a0 * y % 2251799813685248 := ⟨_, rfl⟩
  obtain ⟨hi0, qhi0⟩ : ∃ u : Nat, u = a0 * y / 2251799813685248 := ⟨_, rfl⟩
  have blo0 : lo0 < 2251799813685248 := by omega
  have bhi0 : hi0 < 8589934592 := by omega
  have Hlo0 := Lib.hid qlo0; have Hhi0 := Lib.hid qhi0; clear qlo0 qhi0 ba0'
  have ba1' := Nat.mul_le_mul ba1 (show y ≤ 4294967295 by omega)
  obtain ⟨lo1, qlo1⟩ : ∃ u : Nat, u = a1 * y % 2251799813685248 := ⟨_, rfl⟩
  obtain ⟨hi1, qhi1⟩ : ∃ u : Nat, u = a1 * y / 2251799813685248 := ⟨_, rfl⟩
  have blo1 : lo1 < 2251799813685248 := by omega
  have bhi1 : hi1 < 8589934592 := by omega
  have Hlo1 := Lib.hid qlo1; have Hhi1 := Lib.hid qhi1; clear qlo1 qhi1 ba1'
  have ba2' := Nat.mul_le_mul ba2 (show y ≤ 4294967295 by omega)
  obtain ⟨lo2, qlo2⟩ : ∃ u : Nat, u = a2 * y % 2251799813685248 := ⟨_, rfl⟩
  obtain ⟨hi2, qhi2⟩ : ∃ u : Nat, u = a2 * y / 2251799813685248 := ⟨_, rfl⟩
  have blo2 : lo2 < 2251799813685248 := by omega
  have bhi2 : hi2 < 8589934592 := by omega
  have Hlo2 := Lib.hid qlo2; have Hhi2 := Lib.hid qhi2; clear qlo2 qhi2 ba2'
  have ba3' := Nat.mul_le_mul ba3 (show y ≤ 4294967295 by omega)
  obtain ⟨lo3, qlo3⟩ : ∃ u : Nat, u = a3 * y % 2251799813685248 := ⟨_, rfl⟩
  obtain ⟨hi3, qhi3⟩ : ∃ u : Nat, u = a3 * y / 2251799813685248 := ⟨_, rfl⟩
  have blo3 : lo3 < 2251799813685248 := by omega
  have bhi3 : hi3 < 8589934592 := by omega
  have Hlo3 := Lib.hid qlo3; have Hhi3 := Lib.hid qhi3; clear qlo3 qhi3 ba3'
  have ba4' := Nat.mul_le_mul ba4 (show y ≤ 4294967295 by omega)
  obtain ⟨lo4, qlo4⟩ : ∃ u : Nat, u = a4 * y % 2251799813685248 := ⟨_, rfl⟩
  obtain ⟨hi4, qhi4⟩ : ∃ u : Nat, u = a4 * y / 2251799813685248 := ⟨_, rfl⟩
  have blo4 : lo4 < 2251799813685248 := by omega
  have bhi4 : hi4 < 8589934592 := by omega
  have Hlo4 := Lib.hid qlo4; have Hhi4 := Lib.hid qhi4; clear qlo4 qhi4 ba4'
  have f0 := hv.frozen (i := 0) (by omega); have k0 := hv.cell (i := 0) (by omega)
  have f1 := hv.frozen (i := 1) (by omega); have k1 := hv.cell (i := 1) (by omega)
  have f2 := hv.frozen (i := 2) (by omega); have k2 := hv.cell (i := 2) (by omega)
  have f3 := hv.frozen (i := 3) (by omega); have k3 := hv.cell (i := 3) (by omega)
  have f4 := hv.frozen (i := 4) (by omega); have k4 := hv.cell (i := 4) (by omega)
  rw [Nat.add_zero] at f0 k0
  have Hv := Lib.hid hv; clear hv
  go_enter Tryd.func23, Tryd.ntmps23
  go_wp2_with fail
  refine (mul51_any a0 y lo0 hi0 ba0 hy Hlo0 Hhi0 _).mono ?_
  rintro e w' ⟨rfl, rfl⟩
  go_wp2_with fail
  refine (mul51_any a1 y lo1 hi1 ba1 hy Hlo1 Hhi1 _).mono ?_
  rintro e w' ⟨rfl, rfl⟩
  go_wp2_with fail
  refine (mul51_any a2 y lo2 hi2 ba2 hy Hlo2 Hhi2 _).mono ?_
  rintro e w' ⟨rfl, rfl⟩
  go_wp2_with fail
  refine (mul51_any a3 y lo3 hi3 ba3 hy Hlo3 Hhi3 _).mono ?_
  rintro e w' ⟨rfl, rfl⟩
  go_wp2_with fail
  refine (mul51_any a4 y lo4 hi4 ba4 hy Hlo4 Hhi4 _).mono ?_
  rintro e w' ⟨rfl, rfl⟩
  go_wp2
  go_ret
  refine ⟨rfl, Wr.five ((((((Wr.start Hv.out).set 0 _).set 1 _).set 2 _).set 3 _).set 4 _) ?_ ?_ ?_ ?_ ?_⟩
  · exact u64_eq (show _ = (((lo0 + 19 * hi4 : Nat)) : Int) by omega) |>.trans (by rw [Hlo0.out, Hhi4.out]; rfl)
  · exact u64_eq (show _ = (((lo1 + hi0 : Nat)) : Int) by omega) |>.trans (by rw [Hlo1.out, Hhi0.out]; rfl)
  · exact u64_eq (show _ = (((lo2 + hi1 : Nat)) : Int) by omega) |>.trans (by rw [Hlo2.out, Hhi1.out]; rfl)
  · exact u64_eq (show _ = (((lo3 + hi2 : Nat)) : Int) by omega) |>.trans (by rw [Hlo3.out, Hhi2.out]; rfl)
  · exact u64_eq (show _ = (((lo4 + hi3 : Nat)) : Int) by omega) |>.trans (by rw [Hlo4.out, Hhi3.out]; rfl)
theorem m32_val (a0 a1 a2 a3 a4 y : Nat) : val5 ⟨a0 * y, a1 * y, a2 * y, a3 * y, a4 * y⟩ = val5 ⟨a0, a1, a2, a3, a4⟩ * y := by
  unfold val5; simp only; grind
theorem m32_bd (a0 a1 a2 a3 a4 y : Nat) (ba0 : a0 ≤ 2252074691592191) (ba1 : a1 ≤ 2252074691592191) (ba2 : a2 ≤ 2252074691592191) (ba3 : a3 ≤ 2252074691592191) (ba4 : a4 ≤ 2252074691592191) (hy : y < 4294967296) : Bd (cpL ⟨a0 * y, a1 * y, a2 * y, a3 * y, a4 * y⟩) := by
  have p0 := Nat.mul_le_mul ba0 (show y ≤ 4294967295 by omega)
  have p1 := Nat.mul_le_mul ba1 (show y ≤ 4294967295 by omega)
  have p2 := Nat.mul_le_mul ba2 (show y ≤ 4294967295 by omega)
  have p3 := Nat.mul_le_mul ba3 (show y ≤ 4294967295 by omega)
  have p4 := Nat.mul_le_mul ba4 (show y ≤ 4294967295 by omega)
  generalize a0 * y = q0 at *
  generalize a1 * y = q1 at *
  generalize a2 * y = q2 at *
  generalize a3 * y = q3 at *
  generalize a4 * y = q4 at *
  unfold Bd cpL
  simp only
  omega
theorem mult32_fe (vb vo ab ao x y v0 : Nat) (w : World) (hy : y < 4294967296) (hv : Fe w vb vo v0) (ha : Fe w ab ao x) (R : Nat) (hR : Hid (R = x * y % pF)) :
    Calls Tryd.prog 23 #[.pointer (some ⟨vb, vo, none⟩), .pointer (some ⟨ab, ao, none⟩), .int .u32 (y : Int)] w fun e w' => e = .returned (.pointer (some ⟨vb, vo, none⟩)) ∧ Sets w w' vb vo R := by
  obtain ⟨Lv, hL, _⟩ := hv
  obtain ⟨⟨a0, a1, a2, a3, a4⟩, hA, ⟨p0, p1, p2, p3, p4⟩, hx⟩ := ha
  simp only at p0 p1 p2 p3 p4
  refine (mult32_raw vb vo ab ao a0 a1 a2 a3 a4 y (limbV Lv) (by omega) (by omega) (by omega) (by omega) (by omega) hy w hL (El.c0 hA) (El.c1 hA) (El.c2 hA) (El.c3 hA) (El.c4 hA)).mono ?_
  rintro e w1 ⟨rfl, hw⟩
  exact ⟨rfl, _, m32_bd a0 a1 a2 a3 a4 y (by omega) (by omega) (by omega) (by omega) (by omega) hy, by rw [cpL_mod, m32_val, hR.out, ← hx, Nat.mod_mul_mod], hw⟩
end
section
open Go.RowKit

theorem and_one8' (X : Nat) (h : X < 256) : bits .and .u8 (X : Int) 1 = ((X % 2 : Nat) : Int) := by
  have hx : X &&& 1 < 2 ^ 8 := Nat.and_lt_two_pow _ (by omega)
  have h1 : (BitVec.ofInt 8 (X : Int)).toNat = X := by
    rw [BitVec.ofInt_natCast, BitVec.toNat_ofNat]; exact Nat.mod_eq_of_lt (by omega)
  show IntKind.u8.wrap ((BitVec.ofInt 8 (X : Int) &&& BitVec.ofInt 8 1).toNat : Int) = _
  rw [BitVec.toNat_and, h1, show (BitVec.ofInt 8 1).toNat = 1 from rfl, IntKind.wrap_u8, Nat.and_one_is_mod]
  omega
theorem drew_below {w w' : World} {B : Nat} (h : Below B w w') : Below B w w'.drew := h.drew
set_option maxHeartbeats 1000000 in
theorem compare_any (b b' N M cap cap' : Nat) (w : World) (hN : N < 256 ^ 32) (hM : M < 256 ^ 32) (h : Row w b 0 32 (byV N)) (h' : Row w b' 0 32 (byV M)) (Z : Int) (hZ : Hid (Z = if N = M then 1 else 0)) :
    Calls Tryd.prog 72 #[.slice (some ⟨b, 0, none⟩) 32 cap, .slice (some ⟨b', 0, none⟩) 32 cap'] w fun e w' => e = .returned (.int .i64 Z) ∧ Below w.heap.size w w' := by
  have H := Lib.hid h; have H' := Lib.hid h'; clear h h'
  go_enter Tryd.func72, Tryd.ntmps72
  go_wp2
  go_loopw [13] (fun i wr => ∃ k : Nat, k ≤ 32 ∧ i = .int .i64 (k : Int) ∧ Hid (∀ i, i < k → byteN N i = byteN M i) ∧ Hid (Below w.heap.size w wr)) (fun i _ => 32 - (intOf i).toNat)
  case atStart =>
    exact ⟨0, by omega, rfl, Lib.hid (fun i hi => absurd hi (by omega)), Lib.hid (Below.refl _ w)⟩
  case round =>
    obtain ⟨k, hk, rfl, hq, hB⟩ := hrel
    by_cases hlt : k < 32
    · have c1 := (H.out.below hB.out H.out.lt).byte (i := k) hlt
      have c2 := (H'.out.below hB.out H'.out.lt).byte (i := k) hlt
      rw [Nat.zero_add] at c1 c2
      obtain ⟨A, qA⟩ : ∃ u, u = byteN N k := ⟨_, rfl⟩
      obtain ⟨C, qC⟩ : ∃ u, u = byteN M k := ⟨_, rfl⟩
      rw [← qA] at c1
      rw [← qC] at c2
      have HA := Lib.hid qA; have HC := Lib.hid qC; clear qA qC
      by_cases he : A = C
      · subst he
        go_wp2
        go_region
        go_wp2
        go_roundw
        case rel =>
          refine ⟨k + 1, by omega, by go_num, Lib.hid ?_, Lib.hid hB.out.drew⟩
          intro i hi
          by_cases hik : i = k
          · subst hik; rw [← HA.out, ← HC.out]
          · exact hq.out i (by omega)
        case measure => simp [intOf]; omega
      · have hne : ((A : Int) != (C : Int)) = true := by simp; omega
        have hne2 : ¬ (A : Int) = (C : Int) := by omega
        have hZ0 : Z = 0 := by
          rw [hZ.out, if_neg]
          rintro rfl
          exact he (HA.out.trans HC.out.symm)
        subst hZ0
        go_wp2
        go_region
        go_wp2
        go_ret
        exact ⟨rfl, hB.out.drew⟩
    · have hZ1 : Z = 1 := by
        rw [hZ.out, if_pos]
        have := bytes_mod N M 32 (fun i hi => hq.out i (by omega))
        rwa [Nat.mod_eq_of_lt hN, Nat.mod_eq_of_lt hM] at this
      subst hZ1
      go_wp2
      go_ret
      exact ⟨rfl, hB.out⟩

theorem Fe.lt32 {w : World} {b off x : Nat} (h : Fe w b off x) : x < 256 ^ 32 := Nat.lt_trans h.small (by unfold pF; omega)

set_option maxHeartbeats 1000000 in
theorem Equal_any (vb vo ub uo x y : Nat) (w : World) (hv : Fe w vb vo x) (hu : Fe w ub uo y) (Z : Int) (hZ : Hid (Z = if x = y then 1 else 0)) :
    Calls Tryd.prog 54 #[.pointer (some ⟨vb, vo, none⟩), .pointer (some ⟨ub, uo, none⟩)] w fun e w' => e = .returned (.int .i64 Z) ∧ Below w.heap.size w w' := by
  have Hv := Lib.hid hv; have Hu := Lib.hid hu; clear hv hu
  go_enter Tryd.func54, Tryd.ntmps54
  go_wp2_with fail
  refine (Bytes_any ub uo y _ Hu.out).mono ?_
  rintro e w1 ⟨b1, rfl, hb1, hB1, hR1⟩
  have HB1 := Lib.hid hB1; have HR1 := Lib.hid hR1; clear hB1 hR1
  go_wp2_with fail
  refine (Bytes_any vb vo x _ (Hv.out.below_all HB1.out)).mono ?_
  rintro e w2 ⟨b2, rfl, hb2, hB2, hR2⟩
  have HB2 := Lib.hid hB2; have HR2 := Lib.hid hR2; clear hB2 hR2
  go_wp2_with fail
  refine (compare_any b1 b2 y x 32 32 _ Hu.out.lt32 Hv.out.lt32 (HR1.out.below_all HB2.out) HR2.out Z (Lib.hid (by rw [hZ.out]; by_cases e : x = y; (subst e; simp); (rw [if_neg e, if_neg (Ne.symm e)])))).mono ?_
  rintro e w3 ⟨rfl, hB3⟩
  go_wp2
  go_ret
  exact ⟨rfl, below_call (below_call HB1.out HB2.out) hB3⟩

set_option maxHeartbeats 1000000 in
theorem IsNegative_any (vb vo x : Nat) (w : World) (hv : Fe w vb vo x) (Z : Int) (hZ : Hid (Z = ((x % 2 : Nat) : Int))) :
    Calls Tryd.prog 53 #[.pointer (some ⟨vb, vo, none⟩)] w fun e w' => e = .returned (.int .i64 Z) ∧ Below w.heap.size w w' := by
  have Hv := Lib.hid hv; clear hv
  go_enter Tryd.func53, Tryd.ntmps53
  go_wp2_with fail
  refine (Bytes_any vb vo x _ Hv.out).mono ?_
  rintro e w1 ⟨b1, rfl, hb1, hB1, hR1⟩
  have HB1 := Lib.hid hB1
  have c0 := hR1.byte (i := 0) (by omega)
  have hb := byteN_lt x 0
  have h2 : byteN x 0 % 2 = x % 2 := by unfold byteN; omega
  have h3 := and_one8' (byteN x 0) hb
  rw [h2, ← hZ.out] at h3
  have h4 : 0 ≤ Z ∧ Z ≤ 1 := by rw [hZ.out]; omega
  generalize byteN x 0 = A at *
  clear h2 hR1 hB1
  go_wp2
  go_ret
  refine ⟨?_, HB1.out⟩
  first | rfl | (simp; omega)
end
section
/-- (X : Y : Z) stands for P -/
def Rp (P : CP) (X Y Z : Fp) : Prop := Z ≠ 0 ∧ X = P.x * Z ∧ Y = P.y * Z
/-- (X : Y : Z : T) stands for P -/
def Rq (P : CP) (X Y Z T : Fp) : Prop := Rp P X Y Z ∧ T = P.x * P.y * Z
theorem Rp.one (P : CP) : Rp P P.x P.y 1 := ⟨fp_one_ne, by grind, by grind⟩
theorem Rq.one (P : CP) : Rq P P.x P.y 1 (P.x * P.y) := ⟨Rp.one P, by grind⟩
theorem s_more {d x1 y1 x2 y2 z1 z2 E : Fp} (hE : d * (x1 * x2 * (y1 * y2)) = E) : z1 * z2 * (z1 * z2) + d * (x1 * z1 * (x2 * z2) * (y1 * z1 * (y2 * z2))) = z1 * z2 * (z1 * z2) * (1 + E) := by grind
theorem s_less {d x1 y1 x2 y2 z1 z2 E : Fp} (hE : d * (x1 * x2 * (y1 * y2)) = E) : z1 * z2 * (z1 * z2) - d * (x1 * z1 * (x2 * z2) * (y1 * z1 * (y2 * z2))) = z1 * z2 * (z1 * z2) * (1 - E) := by grind
theorem s_x {x1 y1 x2 y2 z1 z2 E x3 L : Fp} (hx : x3 * (1 + E) = x1 * y2 + x2 * y1) : z1 * z2 * ((x1 * z1 * (y2 * z2) + x2 * z2 * (y1 * z1)) * L) = x3 * (z1 * z2 * (z1 * z2) * (1 + E) * L) := by grind
theorem s_y {x1 y1 x2 y2 z1 z2 E y3 M : Fp} (hy : y3 * (1 - E) = y1 * y2 + x1 * x2) : z1 * z2 * ((x1 * z1 * (x2 * z2) + y1 * z1 * (y2 * z2)) * M) = y3 * (M * (z1 * z2 * (z1 * z2) * (1 - E))) := by grind
/-- the reference's sum -/
theorem Rp.added {P Q : CP} {X1 Y1 Z1 X2 Y2 Z2 : Fp} (h1 : Rp P X1 Y1 Z1) (h2 : Rp Q X2 Y2 Z2) :
    Rp (P.add Q) (Z1 * Z2 * ((X1 * Y2 + X2 * Y1) * (Z1 * Z2 * (Z1 * Z2) - fp dN * (X1 * X2 * (Y1 * Y2))))) (Z1 * Z2 * ((X1 * X2 + Y1 * Y2) * (Z1 * Z2 * (Z1 * Z2) + fp dN * (X1 * X2 * (Y1 * Y2)))))
      ((Z1 * Z2 * (Z1 * Z2) + fp dN * (X1 * X2 * (Y1 * Y2))) * (Z1 * Z2 * (Z1 * Z2) - fp dN * (X1 * X2 * (Y1 * Y2)))) := by
  obtain ⟨z1, rfl, rfl⟩ := h1
  obtain ⟨z2, rfl, rfl⟩ := h2
  have hE : fp dN * (P.x * Q.x * (P.y * Q.y)) = P.e Q := rfl
  have zz : Z1 * Z2 ≠ 0 := fne_mul z1 z2
  rw [s_more hE, s_less hE]
  refine ⟨fne_mul (fne_mul (fne_mul zz zz) (P.np Q)) (fne_mul (fne_mul zz zz) (P.nm Q)), ?_, ?_⟩
  · exact s_x (P.hx Q)
  · exact s_y (P.hy Q)
theorem i_z {d x1 y1 x2 y2 z1 z2 E : Fp} (hE : d * (x1 * x2 * (y1 * y2)) = E) : z1 * z2 + z1 * z2 + x1 * y1 * z1 * (x2 * y2 * z2 * (d + d)) = 2 * (z1 * z2) * (1 + E) := by grind
theorem i_t {d x1 y1 x2 y2 z1 z2 E : Fp} (hE : d * (x1 * x2 * (y1 * y2)) = E) : z1 * z2 + z1 * z2 - x1 * y1 * z1 * (x2 * y2 * z2 * (d + d)) = 2 * (z1 * z2) * (1 - E) := by grind
theorem i_x {x1 y1 x2 y2 z1 z2 E x3 : Fp} (hx : x3 * (1 + E) = x1 * y2 + x2 * y1) : (y1 * z1 + x1 * z1) * (y2 * z2 + x2 * z2) - (y1 * z1 - x1 * z1) * (y2 * z2 - x2 * z2) = x3 * (2 * (z1 * z2) * (1 + E)) := by grind
theorem i_y {x1 y1 x2 y2 z1 z2 E y3 : Fp} (hy : y3 * (1 - E) = y1 * y2 + x1 * x2) : (y1 * z1 + x1 * z1) * (y2 * z2 + x2 * z2) + (y1 * z1 - x1 * z1) * (y2 * z2 - x2 * z2) = y3 * (2 * (z1 * z2) * (1 - E)) := by grind
/-- (X : Y : Z : T) of the completed model: x = X / Z, y = Y / T -/
def Rc (P : CP) (X Y Z T : Fp) : Prop := Z ≠ 0 ∧ T ≠ 0 ∧ X = P.x * Z ∧ Y = P.y * T
theorem Rc.p3 {P : CP} {X Y Z T : Fp} (h : Rc P X Y Z T) : Rq P (X * T) (Y * Z) (Z * T) (X * Y) := by
  obtain ⟨hz, ht, rfl, rfl⟩ := h
  exact ⟨⟨fne_mul hz ht, by grind, by grind⟩, by grind⟩
theorem Rc.p2 {P : CP} {X Y Z T : Fp} (h : Rc P X Y Z T) : Rp P (X * T) (Y * Z) (Z * T) := h.p3.1
/-- what is kept of a point to add it: Y + X, Y - X, Z, 2 d T -/
def Rk (P : CP) (A S Z D : Fp) : Prop := Z ≠ 0 ∧ A = P.y * Z + P.x * Z ∧ S = P.y * Z - P.x * Z ∧ D = P.x * P.y * Z * (fp dN + fp dN)
theorem Rq.kept {P : CP} {X Y Z T : Fp} (h : Rq P X Y Z T) : Rk P (Y + X) (Y - X) Z (T * (fp dN + fp dN)) := by
  obtain ⟨⟨hz, rfl, rfl⟩, rfl⟩ := h
  exact ⟨hz, rfl, rfl, rfl⟩
theorem Rc.add {P Q : CP} {X Y Z T A S Z2 D : Fp} (h1 : Rq P X Y Z T) (h2 : Rk Q A S Z2 D) :
    Rc (P.add Q) ((Y + X) * A - (Y - X) * S) ((Y + X) * A + (Y - X) * S) (Z * Z2 + Z * Z2 + T * D) (Z * Z2 + Z * Z2 - T * D) := by
  obtain ⟨⟨hz, rfl, rfl⟩, rfl⟩ := h1
  obtain ⟨hz2, rfl, rfl, rfl⟩ := h2
  have hE : fp dN * (P.x * Q.x * (P.y * Q.y)) = P.e Q := rfl
  have zz : 2 * (Z * Z2) ≠ 0 := fne_mul fp_two_ne (fne_mul hz hz2)
  rw [i_z hE, i_t hE]
  exact ⟨fne_mul zz (P.np Q), fne_mul zz (P.nm Q), i_x (P.hx Q), i_y (P.hy Q)⟩
/-- what is kept of -Q -/
theorem Rk.neg {Q : CP} {A S Z D : Fp} (h : Rk Q A S Z D) : Rk Q.neg S A Z (-D) := by
  obtain ⟨hz, rfl, rfl, rfl⟩ := h
  refine ⟨hz, ?_, ?_, ?_⟩ <;> (unfold CP.neg; simp only <;> (generalize fp dN = d; grind))
theorem Rc.sub {P Q : CP} {X Y Z T A S Z2 D : Fp} (h1 : Rq P X Y Z T) (h2 : Rk Q A S Z2 D) :
    Rc (P.add Q.neg) ((Y + X) * S - (Y - X) * A) ((Y + X) * S + (Y - X) * A) (Z * Z2 + Z * Z2 - T * D) (Z * Z2 + Z * Z2 + T * D) := by
  have h := Rc.add h1 h2.neg
  rw [show Z * Z2 + Z * Z2 + T * -D = Z * Z2 + Z * Z2 - T * D by grind, show Z * Z2 + Z * Z2 - T * -D = Z * Z2 + Z * Z2 + T * D by grind] at h
  exact h
theorem Rq.neg {P : CP} {X Y Z T : Fp} (h : Rq P X Y Z T) : Rq P.neg (-X) Y Z (-T) := by
  obtain ⟨⟨hz, rfl, rfl⟩, rfl⟩ := h
  refine ⟨⟨hz, ?_, ?_⟩, ?_⟩ <;> (unfold CP.neg; simp only <;> grind)
theorem Rp.neg {P : CP} {X Y Z : Fp} (h : Rp P X Y Z) : Rp P.neg (-X) Y Z := by
  obtain ⟨hz, rfl, rfl⟩ := h
  refine ⟨hz, ?_, ?_⟩ <;> (unfold CP.neg; simp only <;> grind)
/-- equal points -/
theorem Rp.same {P Q : CP} {X1 Y1 Z1 X2 Y2 Z2 : Fp} (h1 : Rp P X1 Y1 Z1) (h2 : Rp Q X2 Y2 Z2) : (X1 * Z2 = X2 * Z1 ∧ Y1 * Z2 = Y2 * Z1) ↔ P = Q := by
  obtain ⟨z1, rfl, rfl⟩ := h1
  obtain ⟨z2, rfl, rfl⟩ := h2
  have zz : Z1 * Z2 ≠ 0 := fne_mul z1 z2
  constructor
  · intro ⟨hx, hy⟩
    exact CP.ext' (fp_cancel zz (by grind)) (fp_cancel zz (by grind))
  · rintro rfl
    exact ⟨by grind, by grind⟩
theorem Rp.affx {P : CP} {X Y Z : Fp} (h : Rp P X Y Z) : X * fpInv Z = P.x := by
  obtain ⟨hz, rfl, rfl⟩ := h
  have := fpInv_mul Z hz
  grind
theorem Rp.affy {P : CP} {X Y Z : Fp} (h : Rp P X Y Z) : Y * fpInv Z = P.y := by
  obtain ⟨hz, rfl, rfl⟩ := h
  have := fpInv_mul Z hz
  grind
theorem nul_sq {x y d : Fp} (hx : x = 0) (hy : y = 0) : y * y - x * x - d * (x * x * (y * y)) = 0 := by grind
theorem nul_one {x y d : Fp} (hx : x = 0) (hy : y = 0) (h : y * y - x * x = 1 + d * (x * x * (y * y))) : (1 : Fp) = 0 := by
  have e := nul_sq (d := d) hx hy
  have : (1 : Fp) = y * y - x * x - d * (x * x * (y * y)) := by rw [h]; clear e h hx hy; grind
  rw [this, e]
/-- no point has x = 0 and y = 0 -/
theorem Rp.not_null {P : CP} {X Y Z : Fp} (h : Rp P X Y Z) (hx : X = 0) (hy : Y = 0) : False := by
  obtain ⟨hz, rfl, rfl⟩ := h
  have h1 : P.x = 0 := (fp_nodiv hx).resolve_right hz
  have h2 : P.y = 0 := (fp_nodiv hy).resolve_right hz
  have := P.on
  unfold onC at this
  exact fp_one_ne (nul_one h1 h2 this)
/-- the doubled point -/
theorem db_x {x y z E x3 d : Fp} (ho : y * y - x * x = 1 + d * (x * x * (y * y))) (hE : d * (x * x * (y * y)) = E) (hx : x3 * (1 + E) = x * y + x * y) : (x * z + y * z) * (x * z + y * z) - (y * z * (y * z) + x * z * (x * z)) = x3 * (y * z * (y * z) - x * z * (x * z)) := by grind
theorem db_y {x y z E y3 d : Fp} (ho : y * y - x * x = 1 + d * (x * x * (y * y))) (hE : d * (x * x * (y * y)) = E) (hy : y3 * (1 - E) = y * y + x * x) : y * z * (y * z) + x * z * (x * z) = y3 * (z * z + z * z - (y * z * (y * z) - x * z * (x * z))) := by grind
theorem db_z {x y z E d : Fp} (ho : y * y - x * x = 1 + d * (x * x * (y * y))) (hE : d * (x * x * (y * y)) = E) : y * z * (y * z) - x * z * (x * z) = z * z * (1 + E) := by grind
theorem db_t {x y z E d : Fp} (ho : y * y - x * x = 1 + d * (x * x * (y * y))) (hE : d * (x * x * (y * y)) = E) : z * z + z * z - (y * z * (y * z) - x * z * (x * z)) = z * z * (1 - E) := by grind
theorem Rc.double {P : CP} {X Y Z : Fp} (h : Rp P X Y Z) :
    Rc (P.add P) ((X + Y) * (X + Y) - (Y * Y + X * X)) (Y * Y + X * X) (Y * Y - X * X) (Z * Z + Z * Z - (Y * Y - X * X)) := by
  obtain ⟨hz, rfl, rfl⟩ := h
  have hE : fp dN * (P.x * P.x * (P.y * P.y)) = P.e P := rfl
  have ho := P.on
  unfold onC at ho
  refine ⟨?_, ?_, db_x ho hE (P.hx P), db_y ho hE (P.hy P)⟩
  · rw [db_z ho hE]; exact fne_mul (fne_mul hz hz) (P.np P)
  · rw [db_t ho hE]; exact fne_mul (fne_mul hz hz) (P.nm P)
/-- what a point is told by, as a number of 32 bytes -/
def encN (P : CP) : Nat := P.y.val + (if P.x.val % 2 = 1 then 57896044618658097711785492504343953926634992332820282019728792003956564819968 else 0)
/-- the point that a number of 32 bytes encodes -/
def decP (N : Nat) : Option CP := if h : dcIs (valN N) = true then some ⟨fp (dcX (valN N) (N / 57896044618658097711785492504343953926634992332820282019728792003956564819968)), fp (valN N), dc_on _ _ h⟩ else none
theorem encN_lt (P : CP) : encN P < 256 ^ 32 := by
  have h := P.y.isLt
  unfold encN
  unfold pF at h
  split <;> omega
theorem encN_val (P : CP) : valN (encN P) = P.y.val := by
  have h := P.y.isLt
  unfold encN valN
  have hp : pF < 57896044618658097711785492504343953926634992332820282019728792003956564819968 := by unfold pF; omega
  rw [show (P.y.val + if P.x.val % 2 = 1 then 57896044618658097711785492504343953926634992332820282019728792003956564819968 else 0) % 57896044618658097711785492504343953926634992332820282019728792003956564819968 = P.y.val by split <;> omega]
  exact Nat.mod_eq_of_lt h
theorem encN_sign (P : CP) : encN P / 57896044618658097711785492504343953926634992332820282019728792003956564819968 = P.x.val % 2 := by
  have h := P.y.isLt
  have hp : pF < 57896044618658097711785492504343953926634992332820282019728792003956564819968 := by unfold pF; omega
  unfold encN
  split <;> omega
theorem fp_self (a : Fp) : fp a.val = a := fp_of a
/-- what a point is told by encodes that point -/
theorem dec_enc (P : CP) : decP (encN P) = some P := by
  have ho := P.on
  rw [← fp_self P.x, ← fp_self P.y] at ho
  have hi := dcIs_of P.y.val (fp P.x.val) ho
  have hx := dcX_of P.x.val P.y.val P.x.isLt ho
  have hx' : dcX P.y.val (P.x.val % 2) = P.x.val := by
    rcases hx with h | ⟨h1, h2⟩
    · exact h
    · unfold dcX; rw [h1, h2]; rfl
  unfold decP
  have hv := encN_val P
  have hs := encN_sign P
  rw [dif_pos (by rw [hv]; exact hi)]
  refine congrArg some (CP.ext' ?_ ?_)
  · show fp (dcX (valN (encN P)) _) = P.x
    rw [hv, hs, hx', fp_self]
  · show fp (valN (encN P)) = P.y
    rw [hv, fp_self]
end
section
open Go.RowKit

def wordN (N i : Nat) : Nat := N / 18446744073709551616 ^ i % 18446744073709551616
theorem wordN_lt (N i : Nat) : wordN N i < 18446744073709551616 := Nat.mod_lt _ (by omega)
def woV (N i : Nat) : Value := .int .u64 ((wordN N i : Nat) : Int)
def numC (N : Nat) : Array Value := ((List.range 4).map (woV N)).toArray
def numV (N : Nat) : Value := .agg (numC N)
theorem numC_size (N : Nat) : (numC N).size = 4 := by simp [numC]
theorem numC_get (N i : Nat) (hi : i < 4) : (numC N)[i]? = some (woV N i) := by simp [numC, hi]
theorem numC_one (N : Nat) : (numC N).all (·.oneCell') = true := by
  refine Array.all_eq_true_iff_forall_mem.2 fun v hv => ?_
  simp only [numC, List.mem_toArray, List.mem_map] at hv
  obtain ⟨i, _, rfl⟩ := hv
  rfl
theorem infoNum : (Tryd.prog.info? 42).map (·.size) = some 4 := by kernel_rfl
theorem underNum : Tryd.prog.underlying 42 = some (.array 4 40) := by kernel_rfl
theorem infoNumC (N : Nat) : (Tryd.prog.info? 42).map (·.size) = some (numC N).size := infoNum.trans (by rw [numC_size])

def z4 : Array Value := #[.int .u64 0, .int .u64 0, .int .u64 0, .int .u64 0]
theorem z4_one : z4.all (·.oneCell') = true := by simp [z4, Value.oneCell']
theorem woV_zero (i : Nat) : woV 0 i = .int .u64 0 := by simp [woV, wordN]
theorem z4_num : z4 = numC 0 := by simp [z4, numC, woV_zero, List.range, List.range.loop]

theorem num_ext (n : Nat) (cs : Array Value) (hs : cs.size = 4) (h : ∀ i, i < 4 → cs[i]? = some (woV n i)) : cs = numC n := by
  apply Array.ext_getElem?
  intro i
  by_cases hi : i < 4
  · rw [h i hi]; exact (numC_get n i hi).symm
  · rw [Array.getElem?_eq_none (by omega), Array.getElem?_eq_none (by rw [numC_size]; omega)]

theorem Wr.num {w w' : World} {b n : Nat} {cs : Array Value} {t : TypeId} {fr : Nat × Nat} (h : Wr w w' b 0 4 (woV n)) (hb : w.heap[b]? = some (.cells cs t fr)) (hs : cs.size = 4) : w'.heap[b]? = some (.cells (numC n) t fr) := by
  obtain ⟨cs0, t0, fr0, cs', h0, h1, hs', hv⟩ := h.here
  rw [hb] at h0
  injection h0 with h0
  injection h0 with e1 e2 e3
  subst e1; subst e2; subst e3
  rw [h1, num_ext n cs' (by omega) (fun i hi => by rw [hv i (by omega), if_pos (by omega)]; rfl)]

theorem Row.ofNum {w : World} {b : Nat} {N : Nat} {t : TypeId} (h : w.heap[b]? = some (.cells (numC N) t (0, 0))) : Row w b 0 4 (woV N) :=
  ⟨numC N, t, (0, 0), h, fun i hi => ⟨by rw [Nat.zero_add]; exact numC_get N i hi, by simp⟩⟩

theorem four_new3 (w : World) (a b c d : Obj) : ((((w.alloc a).alloc b).alloc c).alloc d).heap[w.heap.size + 1 + 1 + 1]? = some d := by
  have := heap_new (((w.alloc a).alloc b).alloc c) d
  rw [alloc_size, alloc_size, alloc_size] at this
  exact this
theorem four_new2 (w : World) (a b c d : Obj) : ((((w.alloc a).alloc b).alloc c).alloc d).heap[w.heap.size + 1 + 1]? = some c :=
  (Below.heap_alloc _ d (w.heap.size + 1 + 1) (by rw [alloc_size, alloc_size, alloc_size]; omega)).trans (three_new2 w a b c)
theorem four_new1 (w : World) (a b c d : Obj) : ((((w.alloc a).alloc b).alloc c).alloc d).heap[w.heap.size + 1]? = some b :=
  (Below.heap_alloc _ d (w.heap.size + 1) (by rw [alloc_size, alloc_size, alloc_size]; omega)).trans (three_new1 w a b c)
theorem four_new0 (w : World) (a b c d : Obj) : ((((w.alloc a).alloc b).alloc c).alloc d).heap[w.heap.size]? = some a :=
  (Below.heap_alloc _ d w.heap.size (by rw [alloc_size, alloc_size, alloc_size]; omega)).trans (three_new0 w a b c)
theorem four_size (w : World) (a b c d : Obj) : ((((w.alloc a).alloc b).alloc c).alloc d).heap.size = w.heap.size + 4 := by
  rw [alloc_size, alloc_size, alloc_size, alloc_size]
theorem four_below (w : World) (a b c d : Obj) : Below w.heap.size w ((((w.alloc a).alloc b).alloc c).alloc d) :=
  ((((Below.refl _ w).alloc (Nat.le_refl _) _).alloc (by rw [alloc_size]; omega) _).alloc (by rw [alloc_size, alloc_size]; omega) _).alloc (by rw [alloc_size, alloc_size, alloc_size]; omega) _

/-- the carry into word k -/
def carN (a b k : Nat) : Nat := (a % 18446744073709551616 ^ k + b % 18446744073709551616 ^ k) / 18446744073709551616 ^ k
theorem carN_le (a b k : Nat) : carN a b k ≤ 1 := by
  unfold carN
  have h : 0 < 18446744073709551616 ^ k := Nat.pow_pos (by omega)
  have h1 := Nat.mod_lt a h
  have h2 := Nat.mod_lt b h
  have : (a % 18446744073709551616 ^ k + b % 18446744073709551616 ^ k) / 18446744073709551616 ^ k < 2 := by
    rw [Nat.div_lt_iff_lt_mul h]; omega
  omega
theorem carN_step (a b k : Nat) : (wordN a k + wordN b k + carN a b k) / 18446744073709551616 = carN a b (k + 1) := by
  unfold carN wordN
  have h : 0 < 18446744073709551616 ^ k := Nat.pow_pos (by omega)
  rw [Nat.mod_pow_succ, Nat.mod_pow_succ, Nat.pow_succ, ← Nat.div_div_eq_div_mul]
  congr 1
  have e : a % 18446744073709551616 ^ k + 18446744073709551616 ^ k * (a / 18446744073709551616 ^ k % 18446744073709551616) + (b % 18446744073709551616 ^ k + 18446744073709551616 ^ k * (b / 18446744073709551616 ^ k % 18446744073709551616))
      = a % 18446744073709551616 ^ k + b % 18446744073709551616 ^ k + 18446744073709551616 ^ k * (a / 18446744073709551616 ^ k % 18446744073709551616 + b / 18446744073709551616 ^ k % 18446744073709551616) := by
    rw [Nat.mul_add]; omega
  rw [e, Nat.add_mul_div_left _ _ h]
  omega
theorem carN_word (a b k : Nat) : (wordN a k + wordN b k + carN a b k) % 18446744073709551616 = wordN (a + b) k := by
  unfold carN wordN
  have h : 0 < 18446744073709551616 ^ k := Nat.pow_pos (by omega)
  have e : a + b = a % 18446744073709551616 ^ k + b % 18446744073709551616 ^ k + 18446744073709551616 ^ k * (a / 18446744073709551616 ^ k + b / 18446744073709551616 ^ k) := by
    have h1 := Nat.mod_add_div a (18446744073709551616 ^ k)
    have h2 := Nat.mod_add_div b (18446744073709551616 ^ k)
    rw [Nat.mul_add]; omega
  have e2 : (a + b) / 18446744073709551616 ^ k = (a % 18446744073709551616 ^ k + b % 18446744073709551616 ^ k) / 18446744073709551616 ^ k + (a / 18446744073709551616 ^ k + b / 18446744073709551616 ^ k) := by
    conv => lhs; rw [e]
    rw [Nat.add_mul_div_left _ _ h]
  rw [e2]
  omega

set_option maxHeartbeats 1000000 in
theorem sum_raw (a b : Nat) (cA cB : Array Value) (eA : Hid (cA = numC a)) (eB : Hid (cB = numC b)) (w : World) :
    Calls Tryd.prog 58 #[.agg cA, .agg cB] w fun e w' => e = .returned (numV (a + b)) ∧ Below w.heap.size w w' := by
  unfold numV
  go_enter Tryd.func58, Tryd.ntmps58
  go_wp2
  change Code.wp _ _ _ _ ((((w.alloc (.cells cA 42)).alloc (.cells cB 42)).alloc (.cells z4 42)).alloc (.cells z4 42))
  obtain ⟨w1, hw1⟩ : ∃ u : World, u = (((w.alloc (.cells cA 42)).alloc (.cells cB 42)).alloc (.cells z4 42)).alloc (.cells z4 42) := ⟨_, rfl⟩
  rw [← hw1]
  have h0 : w1.heap[w.heap.size]? = some (.cells cA 42 (0, 0)) := by rw [hw1]; exact four_new0 _ _ _ _ _
  have h1 : w1.heap[w.heap.size + 1]? = some (.cells cB 42 (0, 0)) := by rw [hw1]; exact four_new1 _ _ _ _ _
  have h2 : w1.heap[w.heap.size + 1 + 1]? = some (.cells z4 42 (0, 0)) := by rw [hw1]; exact four_new2 _ _ _ _ _
  have h3 : w1.heap[w.heap.size + 1 + 1 + 1]? = some (.cells z4 42 (0, 0)) := by rw [hw1]; exact four_new3 _ _ _ _ _
  have hB := Lib.hid (show Below w.heap.size w w1 by rw [hw1]; exact four_below w _ _ _ _)
  have hs1 : w1.heap.size = w.heap.size + 4 := by rw [hw1, four_size]
  clear hw1
  rw [eA.out] at h0; rw [eB.out] at h1; rw [z4_num] at h2 h3
  have r0 := Lib.hid (Row.ofNum h0); have r1 := Lib.hid (Row.ofNum h1); have r3 := Lib.hid (Row.ofNum h3)
  have H2 := Lib.hid h2; have H3 := Lib.hid h3
  clear h0 h1 h2 h3
  go_loopw [6, 7] (fun c i wr => ∃ k C : Nat, k ≤ 4 ∧ i = .int .i64 (k : Int) ∧ c = .int .u64 (C : Int) ∧ Hid (C = carN a b k) ∧ Hid (Wr w1 wr (w.heap.size + 1 + 1 + 1) 0 4 (fun j => if j < k then woV (a + b) j else woV 0 j))) (fun _ i _ => 4 - (intOf i).toNat)
  case atStart =>
    exact ⟨0, 0, by omega, rfl, rfl, Lib.hid (by simp [carN, Nat.mod_one]), Lib.hid ((Wr.start r3.out).congr fun i _ => by simp)⟩
  case round =>
    obtain ⟨k, C, hk, rfl, rfl, hC, hw⟩ := hrel
    by_cases hlt : k < 4
    · have a0 := ((hw.out.others r0.out (Or.inl (by omega))).cell (i := k) hlt)
      have a1 := ((hw.out.others r1.out (Or.inl (by omega))).cell (i := k) hlt)
      have f3 := (hw.out.row r3.out).frozen (i := k) hlt
      have c3 := (hw.out.row r3.out).cell (i := k) hlt
      simp only [Nat.zero_add] at a0 a1 f3 c3
      rw [if_neg (by omega)] at c3
      unfold woV at a0 a1 c3
      have hc1 : C ≤ 1 := by rw [hC.out]; exact carN_le a b k
      have hadd := run_Add64 (wordN a k) (wordN b k) C hc1
      have es := Lib.hid (carN_step a b k); have ew := Lib.hid (carN_word a b k)
      rw [← hC.out] at es ew
      generalize wordN a k = A0 at *
      generalize wordN b k = B0 at *
      generalize hS : (A0 + B0 + C) % 18446744073709551616 = S at *
      generalize hT : (A0 + B0 + C) / 18446744073709551616 = T at *
      have hS := Lib.hid hS; have hT := Lib.hid hT
      go_wp2
      go_region
      go_wp2
      go_roundw
      case rel =>
        refine ⟨k + 1, T, by omega, by go_num, rfl, es, Lib.hid ?_⟩
        have h9 := (hw.out.set k (.int .u64 (S : Int)) hlt).drew
        rw [Nat.zero_add] at h9
        refine h9.congr fun j hj => ?_
        by_cases hjk : j = k
        · subst hjk
          rw [if_pos (by omega), if_pos rfl]
          unfold woV
          rw [← ew.out]
        · rw [if_neg hjk]
          by_cases h2 : j < k
          · rw [if_pos (by omega), if_pos h2]
          · rw [if_neg (by omega), if_neg h2]
      case measure => simp [intOf]; omega
    · have hw' : Wr w1 wr (w.heap.size + 1 + 1 + 1) 0 4 (woV (a + b)) := hw.out.congr fun j hj => by rw [if_pos (by omega)]
      have hl := hw'.num H3.out (numC_size 0)
      have hs := (hw'.other (w.heap.size + 1 + 1) (by omega) (by omega)).trans H2.out
      have hBw := Lib.hid (hB.out.trans (hw'.below (B := w.heap.size) (by omega) hB.out.size))
      clear hw' hw
      go_wp2_with (first
        | (refine wpList_load_row rfl 42 _ rfl (w.heap.size + 1 + 1 + 1) rfl 42 (numC (a + b)) (0, 0) _ hl underNum rfl (infoNumC _) ?_)
        | (refine wpList_store_row rfl 42 _ _ rfl (w.heap.size + 1 + 1) (numC (a + b)) rfl rfl 42 (numC 0) hs (infoNumC _) (by rw [numC_size, numC_size]) (numC_one _) ?_))
      refine bodyPost_ret (results_cell_row rfl _ _ (w.heap.size + 1 + 1) 42 (numC (a + b)) (0, 0) _ rfl (setRow_heap _ _ _ _ _ _ hs) underNum rfl (infoNumC _)) rfl ⟨rfl, below_setRow hBw.out (by omega) _⟩
theorem sum_any (a b : Nat) (w : World) : Calls Tryd.prog 58 #[numV a, numV b] w fun e w' => e = .returned (numV (a + b)) ∧ Below w.heap.size w w' :=
  sum_raw a b _ _ rfl rfl w
end
section
open Go.RowKit
theorem words_mod (x y : Nat) : ∀ n, (∀ i, i < n → wordN x i = wordN y i) → x % 18446744073709551616 ^ n = y % 18446744073709551616 ^ n
  | 0, _ => by simp [Nat.mod_one]
  | n + 1, h => by
    rw [Nat.mod_pow_succ, Nat.mod_pow_succ, words_mod x y n (fun i hi => h i (by omega))]
    have := h n (by omega)
    unfold wordN at this
    rw [this]
theorem words_all (x y : Nat) (hx : x < 18446744073709551616 ^ 4) (hy : y < 18446744073709551616 ^ 4) : ((List.range 4).all fun i => wordN x i == wordN y i) = decide (x = y) := by
  by_cases h : x = y
  · subst h; simp
  · have : ¬ ((List.range 4).all fun i => wordN x i == wordN y i) = true := by
      intro ha
      refine h ?_
      have := words_mod x y 4 (fun i hi => by
        have := List.all_eq_true.1 ha i (List.mem_range.2 hi)
        simpa using this)
      rwa [Nat.mod_eq_of_lt hx, Nat.mod_eq_of_lt hy] at this
    simp only [Bool.not_eq_true] at this
    rw [this]
    simp [h]
theorem underW : Tryd.prog.underlying 40 = some (.int .u64) := by kernel_rfl
theorem plainW : Tryd.prog.plainKey 40 = true := by kernel_rfl
theorem cellsW : Tryd.prog.cellsOf 40 = 1 := by kernel_rfl
theorem infoW : (Tryd.prog.info? 40).map (·.size) = some 1 := by kernel_rfl
theorem hasInfoW : ∃ i, Tryd.prog.info? 40 = some i := by
  cases h : Tryd.prog.info? 40 with
  | none => have := infoW; rw [h] at this; cases this
  | some i => exact ⟨i, rfl⟩
theorem run_itemsW (d x y : Nat) (w : World) : ∀ l : List Nat, (∀ i, i ∈ l → i < 4) → (Op.eqItems (d + 1) 40 1 (numC x) (numC y) l).run Tryd.prog w = .ok (l.all fun i => wordN x i == wordN y i) w
  | [], _ => by simp [Op.eqItems]
  | i :: l, h => by
    have hi := h i (by simp)
    have ih := run_itemsW d x y w l (fun j hj => h j (by simp [hj]))
    have e1 := run_part_plain (P := Tryd.prog) w plainW (numC_get x i hi)
    have e2 := run_part_plain (P := Tryd.prog) w plainW (numC_get y i hi)
    simp only [Op.eqItems, Sem.run_bind, Nat.mul_one]
    unfold woV at e1 e2
    simp only [e1, e2, Result.andThen_ok, run_equalIn_int (P := Tryd.prog) (w := w) d 40 .u64 .u64 _ _ underW]
    by_cases hb : wordN x i = wordN y i
    · simp [hb, ih]
    · have hb' : ¬ ((wordN x i : Nat) : Int) = ((wordN y i : Nat) : Int) := by omega
      simp [hb, hb']
theorem run_eq_num (x y : Nat) (hx : x < 18446744073709551616 ^ 4) (hy : y < 18446744073709551616 ^ 4) (w : World) : (Op.equalIn 10000 42 (.agg (numC x)) (.agg (numC y))).run Tryd.prog w = .ok (decide (x = y)) w := by
  obtain ⟨i, hi⟩ := hasInfoW
  rw [run_equalIn_array w 9999 (numC x) (numC y) underNum hi, cellsW, run_itemsW 9998 x y w (List.range 4) (fun i hi => List.mem_range.1 hi), words_all x y hx hy]
end
section
open Go.RowKit
theorem structE : Tryd.prog.underlying 50 = some (.struct (Tryd.prog.fieldsOf 50)) := by kernel_rfl
theorem stoodE : Tryd.prog.stoodInHeld 50 = false := by kernel_rfl
theorem fieldsE : (Tryd.prog.fieldsOf 50).toList.map (fun f => (f.name != "_", f.type, f.offset)) = [0, 1, 2, 3, 4].map (fun i => (true, 40, i)) := by kernel_rfl
theorem run_fieldsE (d : Nat) (xs ys : Array Value) (vs us : Nat → Int) (w : World) : ∀ (fs : List Field) (l : List Nat), fs.map (fun f => (f.name != "_", f.type, f.offset)) = l.map (fun i => (true, 40, i)) →
    (∀ i, i ∈ l → xs[i]? = some (.int .u64 (vs i)) ∧ ys[i]? = some (.int .u64 (us i))) → (Op.eqFields (d + 1) xs ys fs).run Tryd.prog w = .ok (l.all fun i => vs i == us i) w
  | [], [], _, _ => by simp [Op.eqFields]
  | [], i :: l, h, _ => by simp at h
  | f :: fs, [], h, _ => by simp at h
  | f :: fs, i :: l, h, hv => by
    simp only [List.map_cons, List.cons.injEq, Prod.mk.injEq] at h
    obtain ⟨⟨h1, h2, h3⟩, h4⟩ := h
    have h1' : f.name ≠ "_" := by simpa using h1
    obtain ⟨a1, a2⟩ := hv i (by simp)
    have ih := run_fieldsE d xs ys vs us w fs l h4 (fun j hj => hv j (by simp [hj]))
    have e1 := run_part_plain (P := Tryd.prog) w plainW a1
    have e2 := run_part_plain (P := Tryd.prog) w plainW a2
    simp only [Op.eqFields, h1', ne_eq, not_false_eq_true, if_true, Sem.run_bind, h2, h3, e1, e2, Result.andThen_ok, run_equalIn_int (P := Tryd.prog) (w := w) d 40 .u64 .u64 _ _ underW]
    by_cases hb : vs i = us i
    · simp [hb, ih]
    · simp [hb]
theorem run_eq_el (L : L5) (w : World) : (Op.equalIn 10000 50 (.agg #[.int .u64 (L.l0 : Int), .int .u64 (L.l1 : Int), .int .u64 (L.l2 : Int), .int .u64 (L.l3 : Int), .int .u64 (L.l4 : Int)]) (.agg #[.int .u64 0, .int .u64 0, .int .u64 0, .int .u64 0, .int .u64 0])).run Tryd.prog w = .ok (decide (L.l0 = 0 ∧ L.l1 = 0 ∧ L.l2 = 0 ∧ L.l3 = 0 ∧ L.l4 = 0)) w := by
  rw [run_equalIn_struct w 9999 _ _ _ structE stoodE, run_fieldsE 9998 _ _ (fun i => if i = 0 then (L.l0 : Int) else if i = 1 then L.l1 else if i = 2 then L.l2 else if i = 3 then L.l3 else L.l4) (fun _ => 0) w _ _ fieldsE (by
    intro i hi
    simp only [List.mem_cons, List.not_mem_nil, or_false] at hi
    rcases hi with rfl | rfl | rfl | rfl | rfl <;> exact ⟨rfl, rfl⟩)]
  congr 1
  rw [Bool.eq_iff_iff]
  simp only [List.all_cons, List.all_nil, Bool.and_true, Bool.and_eq_true, beq_iff_eq, decide_eq_true_eq]
  simp
theorem z5_iff (L : L5) : L = z5 ↔ (L.l0 = 0 ∧ L.l1 = 0 ∧ L.l2 = 0 ∧ L.l3 = 0 ∧ L.l4 = 0) := by
  obtain ⟨a, b, c, d, e⟩ := L
  unfold z5
  simp only [L5.mk.injEq]
/-- raw limbs that are not both all 0 -/
theorem not_both {P : CP} {X Y Z : Fp} (h : Rp P X Y Z) {L M : L5} (hL : val5 L % pF = X.val) (hM : val5 M % pF = Y.val) : ¬ (L = z5 ∧ M = z5) := by
  rintro ⟨rfl, rfl⟩
  have h0 : val5 z5 % pF = 0 := by unfold val5 z5; simp
  rw [h0] at hL hM
  exact Rp.not_null h (Fin.ext hL.symm) (Fin.ext hM.symm)

/-! parts of rows -/
theorem range_part {w : World} {g : Nat} {t : TypeId} {cs : Array Value} {fr : Nat × Nat} (hg : w.heap[g]? = some (.cells cs t fr)) (o : Nat) (ps : Array Value) (hp : ∀ j, j < ps.size → cs[o + j]? = ps[j]?) : w.rangeAt g o ps.toList := by
  intro j v hv
  have hj : j < ps.size := by
    have := (List.getElem?_eq_some_iff.1 hv).1
    simpa using this
  rw [cell_of_row w g (o + j) cs t fr hg, hp j hj]
  simpa using hv
theorem wpList_load_part {P : Program} {ops : Array Oper} {rest : List Oper} {op : Oper} {a : Act} {w : World} {Q : Exit → Act → World → Prop} (hgd : op.guard = none) (ty : TypeId) (x : Operand) (ho : op.op = .load ty x)
    (g o : Nat) (hx : a.eval x = .pointer (some ⟨g, o, none⟩)) (t : TypeId) (cs : Array Value) (fr : Nat × Nat) (hg : w.heap[g]? = some (.cells cs t fr)) (ps : Array Value) (hp : ∀ j, j < ps.size → cs[o + j]? = ps[j]?) {d : TypeDesc}
    (hu : P.underlying ty = some d) (hd : d.isRow = true) (hi : (P.info? ty).map (·.size) = some ps.size)
    (h : wpList P ops Q rest (a.put op.dst (.agg ps)) w) : wpList P ops Q (op :: rest) a w :=
  wpList_load_mid hgd ty x ho g o hx ps.toList d (range_part hg o ps hp) hu hd (by simpa using hi) h
theorem take_part {P : Program} {ops : Array Oper} {op : Oper} {a : Act} {R : Nat} {w0 : World} (hw : Region.wanted op (yielded ops a.tmps) = true) (ty : TypeId) (x : Operand) (ho : op.op = .load ty x)
    (g o : Nat) (hx : a.eval x = .pointer (some ⟨g, o, none⟩)) (t : TypeId) (cs : Array Value) (fr : Nat × Nat) (hg : w0.heap[g]? = some (.cells cs t fr)) (hne : g ≠ R) (ps : Array Value) (hp : ∀ j, j < ps.size → cs[o + j]? = ps[j]?) {d : TypeDesc}
    (hu : P.underlying ty = some d) (hd : d.isRow = true) (hi : (P.info? ty).map (·.size) = some ps.size) : YieldsIf P ops (Keep R w0) op (.agg ps) a :=
  yieldsIf_load_mid hw ty x ho g o hx ps.toList d (fun w hK => range_part (hK.old hg hne) o ps hp) hu hd (by simpa using hi)
theorem take_part2 {P : Program} {ops : Array Oper} {op : Oper} {a : Act} {R R' : Nat} {w0 : World} (hw : Region.wanted op (yielded ops a.tmps) = true) (ty : TypeId) (x : Operand) (ho : op.op = .load ty x)
    (g o : Nat) (hx : a.eval x = .pointer (some ⟨g, o, none⟩)) (t : TypeId) (cs : Array Value) (fr : Nat × Nat) (hg : w0.heap[g]? = some (.cells cs t fr)) (hne : g ≠ R) (hne2 : g ≠ R') (ps : Array Value) (hp : ∀ j, j < ps.size → cs[o + j]? = ps[j]?) {d : TypeDesc}
    (hu : P.underlying ty = some d) (hd : d.isRow = true) (hi : (P.info? ty).map (·.size) = some ps.size) : YieldsIf P ops (Keep2 R R' w0) op (.agg ps) a :=
  yieldsIf_load_mid hw ty x ho g o hx ps.toList d (fun w hK => range_part (hK.old hg hne hne2) o ps hp) hu hd (by simpa using hi)

/-! points of the reference: three numbers -/
def ptC (x y z : Nat) : Array Value := #[woV x 0, woV x 1, woV x 2, woV x 3, woV y 0, woV y 1, woV y 2, woV y 3, woV z 0, woV z 1, woV z 2, woV z 3]
def z12 : Array Value := #[.int .u64 0, .int .u64 0, .int .u64 0, .int .u64 0, .int .u64 0, .int .u64 0, .int .u64 0, .int .u64 0, .int .u64 0, .int .u64 0, .int .u64 0, .int .u64 0]
theorem z12_size : z12.size = 12 := rfl
theorem z12_one : z12.all (·.oneCell') = true := by simp [z12, Value.oneCell']
theorem ptC_size (x y z : Nat) : (ptC x y z).size = 12 := rfl
theorem ptC_one (x y z : Nat) : (ptC x y z).all (·.oneCell') = true := by simp [ptC, woV, Value.oneCell']
theorem numC_four (x : Nat) : numC x = #[woV x 0, woV x 1, woV x 2, woV x 3] := by simp [numC, List.range, List.range.loop]
theorem part_x (x y z : Nat) : ∀ j, j < (numC x).size → (ptC x y z)[0 + j]? = (numC x)[j]? := by
  intro j hj; rw [numC_size] at hj; rw [numC_four]
  rcases (show j = 0 ∨ j = 1 ∨ j = 2 ∨ j = 3 by omega) with rfl | rfl | rfl | rfl <;> rfl
theorem part_y (x y z : Nat) : ∀ j, j < (numC y).size → (ptC x y z)[4 + j]? = (numC y)[j]? := by
  intro j hj; rw [numC_size] at hj; rw [numC_four]
  rcases (show j = 0 ∨ j = 1 ∨ j = 2 ∨ j = 3 by omega) with rfl | rfl | rfl | rfl <;> rfl
theorem part_z (x y z : Nat) : ∀ j, j < (numC z).size → (ptC x y z)[8 + j]? = (numC z)[j]? := by
  intro j hj; rw [numC_size] at hj; rw [numC_four]
  rcases (show j = 0 ∨ j = 1 ∨ j = 2 ∨ j = 3 by omega) with rfl | rfl | rfl | rfl <;> rfl

theorem take_built {P : Program} {ops : Array Oper} {op : Oper} {a : Act} {S : World → Prop} (hw : Region.wanted op (yielded ops a.tmps) = true) (t : TypeId) (parts : Array (Nat × Operand)) (ho : op.op = .build t parts)
    (cells : Array Value) (hf : P.built t (parts.map fun (i, x) => (i, a.eval x)).toList = some cells) : YieldsIf P ops S op (.agg cells) a :=
  .inl ⟨hw, fun w _ => by
    unfold execOp
    simp only [ho, Sem.run_bind, run_build w t _ _ hf, Result.andThen_ok, Sem.run_pure]⟩
/-! frames of drawn regions -/
theorem Keep.fr {R : Nat} {w w' : World} (h : Keep R w w') : Fr R w w' := ⟨h.os, h.tape, h.output, h.size, fun k hk hb => h.block k hk hb⟩
theorem Fr.keep {b R : Nat} {w w1 w2 : World} (h : Fr b w w1) (hK : Keep R w1 w2) (hc : R = b ∨ w.heap.size ≤ R) : Fr b w w2 := Fr.fr h hK.fr hc

theorem Keep.frNew {R b : Nat} {w w1 w2 : World} (h : Keep R w w1) (hF : Fr b w1 w2) (hb : w.heap.size ≤ b) : Keep R w w2 :=
  ⟨hF.os.trans h.os, hF.tape.trans h.tape, hF.output.trans h.output, Nat.le_trans h.size hF.size, fun k hk hne => (hF.other k (Nat.lt_of_lt_of_le hk h.size) (by omega)).trans (h.block k hk hne)⟩
/-! byte slices built out of constants -/
theorem wpList_buildBytes {ops : Array Oper} {rest : List Oper} {o : Oper} {a : Act} {w : World} {Q : Exit → Act → World → Prop} (hg : o.guard = none) (d : Option Tmp) (hd : o.dst = d) (parts : Array (Nat × Operand)) (ho : o.op = .buildSlice 55 32 parts)
    (zs : List Int) (N B : Nat) (hN : (zs.map (Value.int .u8)).toArray = arrC N) (hB : w.heap.size = B) (hlen : 32 = zs.length)
    (hparts : parts.toList = (zs.zipIdx 0).map fun x => (x.2, Operand.const (Value.int .u8 x.1)))
    (h : wpList Tryd.prog ops Q rest (a.put d (.slice (some ⟨B, 0, none⟩) 32 32)) (w.alloc (.cells (arrC N) 5))) : wpList Tryd.prog ops Q (o :: rest) a w := by
  rw [← hN] at h
  exact wpList_buildFlatAt hg 55 5 32 parts ho .u8 zs B hB d hd (by kernel_rfl) (by kernel_rfl) (by kernel_rfl) hlen (by omega) (by omega) hparts h
end
section
open Go.RowKit

/-- a - b, and 2^256 more where b is greater -/
def difN (a b : Nat) : Nat := if a < b then a + 18446744073709551616 ^ 4 - b else a - b
/-- the borrow out of the words below k -/
def borN (a b k : Nat) : Nat := if a % 18446744073709551616 ^ k < b % 18446744073709551616 ^ k then 1 else 0
theorem borN_le (a b k : Nat) : borN a b k ≤ 1 := by unfold borN; split <;> omega
theorem borN_four (a b : Nat) (ha : a < 18446744073709551616 ^ 4) (hb : b < 18446744073709551616 ^ 4) : borN a b 4 = if a < b then 1 else 0 := by
  unfold borN; rw [Nat.mod_eq_of_lt ha, Nat.mod_eq_of_lt hb]

theorem digit_step (M a b B wa wb : Nat) (hM : 0 < M) (hB : 0 < B) (ha : a < M) (hb : b < M) (hwa : wa < B) (hwb : wb < B) :
    (if wa < wb + (if a < b then 1 else 0) then 1 else 0 : Nat) = if a + M * wa < b + M * wb then 1 else 0 := by
  by_cases h : wa = wb
  · subst h
    by_cases h2 : a < b
    · rw [if_pos h2, if_pos (by omega), if_pos (by omega)]
    · rw [if_neg h2, if_neg (by omega), if_neg (by omega)]
  · by_cases h3 : wa < wb
    · have : M * (wa + 1) ≤ M * wb := Nat.mul_le_mul_left M h3
      rw [Nat.mul_add] at this
      rw [if_pos (show a + M * wa < b + M * wb by omega)]
      rw [if_pos (by split <;> omega)]
    · have : M * (wb + 1) ≤ M * wa := Nat.mul_le_mul_left M (by omega)
      rw [Nat.mul_add] at this
      rw [if_neg (show ¬ a + M * wa < b + M * wb by omega)]
      rw [if_neg (by split <;> omega)]

theorem borN_step (a b k : Nat) : (if wordN a k < wordN b k + borN a b k then 1 else 0 : Nat) = borN a b (k + 1) := by
  unfold borN wordN
  rw [Nat.mod_pow_succ, Nat.mod_pow_succ]
  have h : 0 < 18446744073709551616 ^ k := Nat.pow_pos (by omega)
  exact digit_step _ _ _ 18446744073709551616 _ _ h (by omega) (Nat.mod_lt _ h) (Nat.mod_lt _ h) (Nat.mod_lt _ (by omega)) (Nat.mod_lt _ (by omega))

theorem bor_low (a b c k : Nat) (h : (c + b) % 18446744073709551616 ^ k = a % 18446744073709551616 ^ k) :
    a % 18446744073709551616 ^ k + borN a b k * 18446744073709551616 ^ k = b % 18446744073709551616 ^ k + c % 18446744073709551616 ^ k := by
  have hM : 0 < 18446744073709551616 ^ k := Nat.pow_pos (by omega)
  unfold borN
  rw [Nat.add_mod] at h
  generalize 18446744073709551616 ^ k = M at *
  have h1 := Nat.mod_lt a hM
  have h2 := Nat.mod_lt b hM
  have h3 := Nat.mod_lt c hM
  generalize a % M = A at *
  generalize b % M = B at *
  generalize c % M = C at *
  by_cases hs : C + B < M
  · rw [Nat.mod_eq_of_lt hs] at h
    rw [if_neg (by omega)]; omega
  · have : (C + B) % M = C + B - M := by
      rw [Nat.mod_eq_sub_mod (by omega), Nat.mod_eq_of_lt (by omega)]
    rw [if_pos (by omega)]; omega

theorem borN_word (a b k : Nat) (ha : a < 18446744073709551616 ^ 4) (hb : b < 18446744073709551616 ^ 4) (hk : k < 4) :
    (wordN a k + 18446744073709551616 - wordN b k - borN a b k) % 18446744073709551616 = wordN (difN a b) k := by
  have hd : ∀ j, j ≤ 4 → (difN a b + b) % 18446744073709551616 ^ j = a % 18446744073709551616 ^ j := by
    intro j hj
    unfold difN
    by_cases h : a < b
    · rw [if_pos h]
      have e : a + 18446744073709551616 ^ 4 - b + b = a + 18446744073709551616 ^ j * 18446744073709551616 ^ (4 - j) := by
        rw [← Nat.pow_add, show j + (4 - j) = 4 by omega]; omega
      rw [e, Nat.add_mul_mod_self_left]
    · rw [if_neg h, Nat.sub_add_cancel (by omega)]
  have h0 := bor_low a b (difN a b) k (hd k (by omega))
  have h1 := bor_low a b (difN a b) (k + 1) (hd (k + 1) (by omega))
  rw [Nat.mod_pow_succ, Nat.mod_pow_succ, Nat.mod_pow_succ, Nat.pow_succ] at h1
  have hM : 0 < 18446744073709551616 ^ k := Nat.pow_pos (by omega)
  have g1 := borN_le a b k
  have g2 := borN_le a b (k + 1)
  have w1 := wordN_lt a k
  have w2 := wordN_lt b k
  have w3 := wordN_lt (difN a b) k
  change a % 18446744073709551616 ^ k + 18446744073709551616 ^ k * wordN a k + borN a b (k + 1) * (18446744073709551616 ^ k * 18446744073709551616) = b % 18446744073709551616 ^ k + 18446744073709551616 ^ k * wordN b k + (difN a b % 18446744073709551616 ^ k + 18446744073709551616 ^ k * wordN (difN a b) k) at h1
  generalize wordN (difN a b) k = c at *
  generalize wordN a k = A at *
  generalize wordN b k = B at *
  generalize borN a b (k + 1) = t at *
  generalize borN a b k = s at *
  have key : 18446744073709551616 ^ k * (A + t * 18446744073709551616) = 18446744073709551616 ^ k * (B + c + s) := by
    rw [Nat.mul_add, Nat.mul_add, Nat.mul_add]
    have : 18446744073709551616 ^ k * (t * 18446744073709551616) = t * (18446744073709551616 ^ k * 18446744073709551616) := by rw [Nat.mul_left_comm]
    rw [this]
    have h5 : 18446744073709551616 ^ k * s = s * 18446744073709551616 ^ k := Nat.mul_comm _ _
    rw [h5]
    omega
  have key := Nat.eq_of_mul_eq_mul_left hM key
  have : t = 0 ∨ t = 1 := by omega
  rcases this with rfl | rfl <;> omega

set_option maxHeartbeats 1000000 in
theorem rest_raw (a b : Nat) (ha : a < 18446744073709551616 ^ 4) (hb : b < 18446744073709551616 ^ 4) (cA cB : Array Value) (eA : Hid (cA = numC a)) (eB : Hid (cB = numC b)) (w : World) :
    Calls Tryd.prog 59 #[.agg cA, .agg cB] w fun e w' => e = .returned (.tuple #[numV (difN a b), .int .u64 ((if a < b then 1 else 0 : Nat) : Int)]) ∧ Below w.heap.size w w' := by
  unfold numV
  obtain ⟨Z, hZ⟩ : ∃ Z : Nat, Z = if a < b then 1 else 0 := ⟨_, rfl⟩
  rw [← hZ]
  have HZ := Lib.hid hZ; clear hZ
  go_enter Tryd.func59, Tryd.ntmps59
  go_wp2
  change Code.wp _ _ _ _ ((((w.alloc (.cells cA 42)).alloc (.cells cB 42)).alloc (.cells z4 42)).alloc (.cells z4 42))
  obtain ⟨w1, hw1⟩ : ∃ u : World, u = (((w.alloc (.cells cA 42)).alloc (.cells cB 42)).alloc (.cells z4 42)).alloc (.cells z4 42) := ⟨_, rfl⟩
  rw [← hw1]
  have h0 : w1.heap[w.heap.size]? = some (.cells cA 42 (0, 0)) := by rw [hw1]; exact four_new0 _ _ _ _ _
  have h1 : w1.heap[w.heap.size + 1]? = some (.cells cB 42 (0, 0)) := by rw [hw1]; exact four_new1 _ _ _ _ _
  have h2 : w1.heap[w.heap.size + 1 + 1]? = some (.cells z4 42 (0, 0)) := by rw [hw1]; exact four_new2 _ _ _ _ _
  have h3 : w1.heap[w.heap.size + 1 + 1 + 1]? = some (.cells z4 42 (0, 0)) := by rw [hw1]; exact four_new3 _ _ _ _ _
  have hB := Lib.hid (show Below w.heap.size w w1 by rw [hw1]; exact four_below w _ _ _ _)
  have hs1 : w1.heap.size = w.heap.size + 4 := by rw [hw1, four_size]
  clear hw1
  rw [eA.out] at h0; rw [eB.out] at h1; rw [z4_num] at h2 h3
  have r0 := Lib.hid (Row.ofNum h0); have r1 := Lib.hid (Row.ofNum h1); have r3 := Lib.hid (Row.ofNum h3)
  have H2 := Lib.hid h2; have H3 := Lib.hid h3
  clear h0 h1 h2 h3
  go_loopw [7, 8] (fun c i wr => ∃ k C : Nat, k ≤ 4 ∧ i = .int .i64 (k : Int) ∧ c = .int .u64 (C : Int) ∧ Hid (C = borN a b k) ∧ Hid (Wr w1 wr (w.heap.size + 1 + 1 + 1) 0 4 (fun j => if j < k then woV (difN a b) j else woV 0 j))) (fun _ i _ => 4 - (intOf i).toNat)
  case atStart =>
    exact ⟨0, 0, by omega, rfl, rfl, Lib.hid (by simp [borN, Nat.mod_one]), Lib.hid ((Wr.start r3.out).congr fun i _ => by simp)⟩
  case round =>
    obtain ⟨k, C, hk, rfl, rfl, hC, hw⟩ := hrel
    by_cases hlt : k < 4
    · have a0 := ((hw.out.others r0.out (Or.inl (by omega))).cell (i := k) hlt)
      have a1 := ((hw.out.others r1.out (Or.inl (by omega))).cell (i := k) hlt)
      have f3 := (hw.out.row r3.out).frozen (i := k) hlt
      have c3 := (hw.out.row r3.out).cell (i := k) hlt
      simp only [Nat.zero_add] at a0 a1 f3 c3
      rw [if_neg (by omega)] at c3
      unfold woV at a0 a1 c3
      have hc1 : C ≤ 1 := by rw [hC.out]; exact borN_le a b k
      have hadd := run_Sub64 (wordN a k) (wordN b k) C hc1
      have es := Lib.hid (borN_step a b k); have ew := Lib.hid (borN_word a b k ha hb hlt)
      rw [← hC.out] at es ew
      generalize wordN a k = A0 at *
      generalize wordN b k = B0 at *
      generalize hS : (A0 + 18446744073709551616 - B0 - C) % 18446744073709551616 = S at *
      generalize hT : (if A0 < B0 + C then 1 else 0 : Nat) = T at *
      have hS := Lib.hid hS; have hT := Lib.hid hT
      go_wp2
      go_region
      go_wp2
      go_roundw
      case rel =>
        refine ⟨k + 1, T, by omega, by go_num, rfl, es, Lib.hid ?_⟩
        have h9 := (hw.out.set k (.int .u64 (S : Int)) hlt).drew
        rw [Nat.zero_add] at h9
        refine h9.congr fun j hj => ?_
        by_cases hjk : j = k
        · subst hjk
          rw [if_pos (by omega), if_pos rfl]
          unfold woV
          rw [← ew.out]
        · rw [if_neg hjk]
          by_cases h2 : j < k
          · rw [if_pos (by omega), if_pos h2]
          · rw [if_neg (by omega), if_neg h2]
      case measure => simp [intOf]; omega
    · have hw' : Wr w1 wr (w.heap.size + 1 + 1 + 1) 0 4 (woV (difN a b)) := hw.out.congr fun j hj => by rw [if_pos (by omega)]
      have hl := hw'.num H3.out (numC_size 0)
      have hs := (hw'.other (w.heap.size + 1 + 1) (by omega) (by omega)).trans H2.out
      have hBw := Lib.hid (hB.out.trans (hw'.below (B := w.heap.size) (by omega) hB.out.size))
      clear hw' hw
      obtain rfl : k = 4 := by omega
      have hCZ : C = Z := by rw [hC.out, HZ.out]; exact borN_four a b ha hb
      subst hCZ
      go_wp2_with (first
        | (refine wpList_load_row rfl 42 _ rfl (w.heap.size + 1 + 1 + 1) rfl 42 (numC (difN a b)) (0, 0) _ hl underNum rfl (infoNumC _) ?_)
        | (refine wpList_store_row rfl 42 _ _ rfl (w.heap.size + 1 + 1) (numC (difN a b)) rfl rfl 42 (numC 0) hs (infoNumC _) (by rw [numC_size, numC_size]) (numC_one _) ?_))
      refine bodyPost_ret (results_row_tmp rfl _ _ (w.heap.size + 1 + 1) 42 (numC (difN a b)) (0, 0) _ rfl (setRow_heap _ _ _ _ _ _ hs) underNum rfl (infoNumC _)) rfl ⟨rfl, below_setRow hBw.out (by omega) _⟩
theorem rest_any (a b : Nat) (ha : a < 18446744073709551616 ^ 4) (hb : b < 18446744073709551616 ^ 4) (w : World) : Calls Tryd.prog 59 #[numV a, numV b] w fun e w' => e = .returned (.tuple #[numV (difN a b), .int .u64 ((if a < b then 1 else 0 : Nat) : Int)]) ∧ Below w.heap.size w w' :=
  rest_raw a b ha hb _ _ rfl rfl w
end
section
open Go.RowKit

theorem infoNum_of (cs : Array Value) (h : cs.size = 4) : (Tryd.prog.info? 42).map (·.size) = some cs.size := infoNum.trans (by rw [h])
theorem z4_size : z4.size = 4 := rfl

theorem rest_lt (a b c : Nat) (hc : Hid (c = a + 18446744073709551616 ^ 4 - b)) (h : a < b) (hb : b < 18446744073709551616 ^ 4) (w : World) : Calls Tryd.prog 59 #[.agg (numC a), .agg (numC b)] w fun e w' => e = .returned (.tuple #[.agg (numC c), .int .u64 1]) ∧ Below w.heap.size w w' :=
  (rest_any a b (by omega) hb w).mono fun e w' ⟨he, hB⟩ => ⟨by rw [he, if_pos h, hc.out]; unfold difN; rw [if_pos h]; rfl, hB⟩
theorem rest_ge (a b : Nat) (h : b ≤ a) (ha : a < 18446744073709551616 ^ 4) (w : World) : Calls Tryd.prog 59 #[.agg (numC a), .agg (numC b)] w fun e w' => e = .returned (.tuple #[.agg (numC (a - b)), .int .u64 0]) ∧ Below w.heap.size w w' :=
  (rest_any a b ha (by omega) w).mono fun e w' ⟨he, hB⟩ => ⟨by rw [he, if_neg (by omega)]; unfold difN; rw [if_neg (by omega)]; rfl, hB⟩
theorem num_mod (a : Nat) : numC (a + 18446744073709551616 ^ 4) = numC a := by
  refine num_ext _ _ (numC_size _) fun i hi => ?_
  rw [numC_get _ i hi]
  unfold woV wordN
  have : i = 0 ∨ i = 1 ∨ i = 2 ∨ i = 3 := by omega
  rcases this with rfl | rfl | rfl | rfl <;> (congr 2; omega)

set_option maxHeartbeats 1000000 in
theorem plus_lt (a b m : Nat) (ha : a < m) (hb : b < m) (hm : m < 57896044618658097711785492504343953926634992332820282019728792003956564819968) (c : Nat) (hc : Hid (c = a + b + 18446744073709551616 ^ 4 - m)) (h : a + b < m) (w : World) :
    Calls Tryd.prog 37 #[.agg (numC a), .agg (numC b), .agg (numC m)] w fun e w' => e = .returned (.agg (numC (a + b))) ∧ Below w.heap.size w w' := by
  go_enter Tryd.func37, Tryd.ntmps37
  go_wp2_with (first
    | ((with_reducible refine at_dst 10 ?_); refine wpList_load_row rfl 42 _ rfl (w.heap.size) rfl 42 (numC a) (0, 0) _ (heap_old _ (heap_old _ (heap_old _ (heap_new_at _ _ _ rfl)))) underNum rfl (infoNum_of (numC a) (numC_size _)) ?_)
    | ((with_reducible refine at_dst 11 ?_); refine wpList_load_row rfl 42 _ rfl (w.heap.size + 1) rfl 42 (numC b) (0, 0) _ (heap_old _ (heap_old _ (heap_new_at _ _ _ (by simp only [alloc_size, setRow_size])))) underNum rfl (infoNum_of (numC b) (numC_size _)) ?_))
  refine (sum_any a b _).mono ?_
  rintro e w1 ⟨rfl, hC1⟩
  have hs1 : w.heap.size + 1 + 1 + 1 + 1 ≤ w1.heap.size := by have := hC1.size; (try simp only [alloc_size, setRow_size] at this); omega
  have h3 : w1.heap[w.heap.size]? = some (.cells (numC a) 42 (0, 0)) := (heap_call hC1 (heap_old _ (heap_old _ (heap_old _ (heap_new_at _ _ _ rfl)))))
  have h4 : w1.heap[w.heap.size + 1]? = some (.cells (numC b) 42 (0, 0)) := (heap_call hC1 (heap_old _ (heap_old _ (heap_new_at _ _ _ (by simp only [alloc_size, setRow_size])))))
  have h5 : w1.heap[w.heap.size + 1 + 1]? = some (.cells (numC m) 42 (0, 0)) := (heap_call hC1 (heap_old _ (heap_new_at _ _ _ (by simp only [alloc_size, setRow_size]))))
  have h6 : w1.heap[w.heap.size + 1 + 1 + 1]? = some (.cells (z4) 42 (0, 0)) := (heap_call hC1 (heap_new_at _ _ _ (by simp only [alloc_size, setRow_size])))
  have hB1 : Hid (Below w.heap.size w w1) := Lib.hid (below_call (below_alloc (below_alloc (below_alloc (below_alloc (Below.refl _ w) _) _) _) _) hC1)
  clear hC1
  go_wp2_with (first
    | ((with_reducible refine at_store 7 ?_); refine wpList_store_row rfl 42 _ _ rfl (w1.heap.size) (numC (a + b)) rfl rfl 42 (z4) (heap_new_at _ _ _ rfl) (infoNum_of (numC (a + b)) (numC_size _)) (z4_size.trans (numC_size _).symm) (numC_one _) ?_)
    | ((with_reducible refine at_dst 14 ?_); refine wpList_load_row rfl 42 _ rfl (w1.heap.size) rfl 42 (numC (a + b)) (0, 0) _ (setRow_heap _ _ _ _ _ _ (heap_new_at _ _ _ rfl)) underNum rfl (infoNum_of (numC (a + b)) (numC_size _)) ?_)
    | ((with_reducible refine at_dst 15 ?_); refine wpList_load_row rfl 42 _ rfl (w.heap.size + 1 + 1) rfl 42 (numC m) (0, 0) _ (heap_row _ (by omega) (heap_old _ h5)) underNum rfl (infoNum_of (numC m) (numC_size _)) ?_))
  refine (rest_lt (a + b) m c hc h (by omega) _).mono ?_
  rintro e w2 ⟨rfl, hC2⟩
  have hs2 : w1.heap.size + 1 ≤ w2.heap.size := by have := hC2.size; (try simp only [alloc_size, setRow_size] at this); omega
  have h3 : w2.heap[w.heap.size]? = some (.cells (numC a) 42 (0, 0)) := (heap_call hC2 (heap_row _ (by omega) (heap_old _ h3)))
  have h4 : w2.heap[w.heap.size + 1]? = some (.cells (numC b) 42 (0, 0)) := (heap_call hC2 (heap_row _ (by omega) (heap_old _ h4)))
  have h5 : w2.heap[w.heap.size + 1 + 1]? = some (.cells (numC m) 42 (0, 0)) := (heap_call hC2 (heap_row _ (by omega) (heap_old _ h5)))
  have h6 : w2.heap[w.heap.size + 1 + 1 + 1]? = some (.cells (z4) 42 (0, 0)) := (heap_call hC2 (heap_row _ (by omega) (heap_old _ h6)))
  have h7 : w2.heap[w1.heap.size]? = some (.cells (numC (a + b)) 42 (0, 0)) := (heap_call hC2 (setRow_heap _ _ _ _ _ _ (heap_new_at _ _ _ rfl)))
  have hB2 : Hid (Below w.heap.size w w2) := Lib.hid (below_call (below_setRow (below_alloc hB1.out _) (by omega) _) hC2)
  clear hC2
  go_wp2_with (first
    | ((with_reducible refine at_store 8 ?_); refine wpList_store_row rfl 42 _ _ rfl (w2.heap.size) (numC (c)) rfl rfl 42 (z4) (heap_new_at _ _ _ rfl) (infoNum_of (numC (c)) (numC_size _)) (z4_size.trans (numC_size _).symm) (numC_one _) ?_)
    | ((with_reducible refine at_dst 21 ?_); refine wpList_load_row rfl 42 _ rfl (w1.heap.size) rfl 42 (numC (a + b)) (0, 0) _ (heap_row _ (by omega) (heap_old _ h7)) underNum rfl (infoNum_of (numC (a + b)) (numC_size _)) ?_)
    | ((with_reducible refine at_store 6 ?_); refine wpList_store_row rfl 42 _ _ rfl (w.heap.size + 1 + 1 + 1) (numC (a + b)) rfl rfl 42 (z4) (heap_row _ (by omega) (heap_old _ h6)) (infoNum_of (numC (a + b)) (numC_size _)) (z4_size.trans (numC_size _).symm) (numC_one _) ?_))
  refine bodyPost_ret (results_cell_row rfl _ _ (w.heap.size + 1 + 1 + 1) 42 (numC (a + b)) (0, 0) _ rfl (setRow_heap _ _ _ _ _ _ (heap_row _ (by omega) (heap_old _ h6))) underNum rfl (infoNum_of (numC (a + b)) (numC_size _))) rfl ⟨rfl, (below_setRow (below_setRow (below_alloc hB2.out _) (by omega) _) (by omega) _)⟩

set_option maxHeartbeats 1000000 in
theorem plus_ge (a b m : Nat) (ha : a < m) (hb : b < m) (hm : m < 57896044618658097711785492504343953926634992332820282019728792003956564819968) (h : m ≤ a + b) (w : World) :
    Calls Tryd.prog 37 #[.agg (numC a), .agg (numC b), .agg (numC m)] w fun e w' => e = .returned (.agg (numC (a + b - m))) ∧ Below w.heap.size w w' := by
  go_enter Tryd.func37, Tryd.ntmps37
  go_wp2_with (first
    | ((with_reducible refine at_dst 10 ?_); refine wpList_load_row rfl 42 _ rfl (w.heap.size) rfl 42 (numC a) (0, 0) _ (heap_old _ (heap_old _ (heap_old _ (heap_new_at _ _ _ rfl)))) underNum rfl (infoNum_of (numC a) (numC_size _)) ?_)
    | ((with_reducible refine at_dst 11 ?_); refine wpList_load_row rfl 42 _ rfl (w.heap.size + 1) rfl 42 (numC b) (0, 0) _ (heap_old _ (heap_old _ (heap_new_at _ _ _ (by simp only [alloc_size, setRow_size])))) underNum rfl (infoNum_of (numC b) (numC_size _)) ?_))
  refine (sum_any a b _).mono ?_
  rintro e w1 ⟨rfl, hC1⟩
  have hs1 : w.heap.size + 1 + 1 + 1 + 1 ≤ w1.heap.size := by have := hC1.size; (try simp only [alloc_size, setRow_size] at this); omega
  have h3 : w1.heap[w.heap.size]? = some (.cells (numC a) 42 (0, 0)) := (heap_call hC1 (heap_old _ (heap_old _ (heap_old _ (heap_new_at _ _ _ rfl)))))
  have h4 : w1.heap[w.heap.size + 1]? = some (.cells (numC b) 42 (0, 0)) := (heap_call hC1 (heap_old _ (heap_old _ (heap_new_at _ _ _ (by simp only [alloc_size, setRow_size])))))
  have h5 : w1.heap[w.heap.size + 1 + 1]? = some (.cells (numC m) 42 (0, 0)) := (heap_call hC1 (heap_old _ (heap_new_at _ _ _ (by simp only [alloc_size, setRow_size]))))
  have h6 : w1.heap[w.heap.size + 1 + 1 + 1]? = some (.cells (z4) 42 (0, 0)) := (heap_call hC1 (heap_new_at _ _ _ (by simp only [alloc_size, setRow_size])))
  have hB1 : Hid (Below w.heap.size w w1) := Lib.hid (below_call (below_alloc (below_alloc (below_alloc (below_alloc (Below.refl _ w) _) _) _) _) hC1)
  clear hC1
  go_wp2_with (first
    | ((with_reducible refine at_store 7 ?_); refine wpList_store_row rfl 42 _ _ rfl (w1.heap.size) (numC (a + b)) rfl rfl 42 (z4) (heap_new_at _ _ _ rfl) (infoNum_of (numC (a + b)) (numC_size _)) (z4_size.trans (numC_size _).symm) (numC_one _) ?_)
    | ((with_reducible refine at_dst 14 ?_); refine wpList_load_row rfl 42 _ rfl (w1.heap.size) rfl 42 (numC (a + b)) (0, 0) _ (setRow_heap _ _ _ _ _ _ (heap_new_at _ _ _ rfl)) underNum rfl (infoNum_of (numC (a + b)) (numC_size _)) ?_)
    | ((with_reducible refine at_dst 15 ?_); refine wpList_load_row rfl 42 _ rfl (w.heap.size + 1 + 1) rfl 42 (numC m) (0, 0) _ (heap_row _ (by omega) (heap_old _ h5)) underNum rfl (infoNum_of (numC m) (numC_size _)) ?_))
  refine (rest_ge (a + b) m h (by omega) _).mono ?_
  rintro e w2 ⟨rfl, hC2⟩
  have hs2 : w1.heap.size + 1 ≤ w2.heap.size := by have := hC2.size; (try simp only [alloc_size, setRow_size] at this); omega
  have h3 : w2.heap[w.heap.size]? = some (.cells (numC a) 42 (0, 0)) := (heap_call hC2 (heap_row _ (by omega) (heap_old _ h3)))
  have h4 : w2.heap[w.heap.size + 1]? = some (.cells (numC b) 42 (0, 0)) := (heap_call hC2 (heap_row _ (by omega) (heap_old _ h4)))
  have h5 : w2.heap[w.heap.size + 1 + 1]? = some (.cells (numC m) 42 (0, 0)) := (heap_call hC2 (heap_row _ (by omega) (heap_old _ h5)))
  have h6 : w2.heap[w.heap.size + 1 + 1 + 1]? = some (.cells (z4) 42 (0, 0)) := (heap_call hC2 (heap_row _ (by omega) (heap_old _ h6)))
  have h7 : w2.heap[w1.heap.size]? = some (.cells (numC (a + b)) 42 (0, 0)) := (heap_call hC2 (setRow_heap _ _ _ _ _ _ (heap_new_at _ _ _ rfl)))
  have hB2 : Hid (Below w.heap.size w w2) := Lib.hid (below_call (below_setRow (below_alloc hB1.out _) (by omega) _) hC2)
  clear hC2
  go_wp2_with (first
    | ((with_reducible refine at_store 8 ?_); refine wpList_store_row rfl 42 _ _ rfl (w2.heap.size) (numC (a + b - m)) rfl rfl 42 (z4) (heap_new_at _ _ _ rfl) (infoNum_of (numC (a + b - m)) (numC_size _)) (z4_size.trans (numC_size _).symm) (numC_one _) ?_)
    | ((with_reducible refine at_dst 22 ?_); refine wpList_load_row rfl 42 _ rfl (w2.heap.size) rfl 42 (numC (a + b - m)) (0, 0) _ (setRow_heap _ _ _ _ _ _ (heap_new_at _ _ _ rfl)) underNum rfl (infoNum_of (numC (a + b - m)) (numC_size _)) ?_)
    | ((with_reducible refine at_store 6 ?_); refine wpList_store_row rfl 42 _ _ rfl (w.heap.size + 1 + 1 + 1) (numC (a + b - m)) rfl rfl 42 (z4) (heap_row _ (by omega) (heap_old _ h6)) (infoNum_of (numC (a + b - m)) (numC_size _)) (z4_size.trans (numC_size _).symm) (numC_one _) ?_))
  refine bodyPost_ret (results_cell_row rfl _ _ (w.heap.size + 1 + 1 + 1) 42 (numC (a + b - m)) (0, 0) _ rfl (setRow_heap _ _ _ _ _ _ (heap_row _ (by omega) (heap_old _ h6))) underNum rfl (infoNum_of (numC (a + b - m)) (numC_size _))) rfl ⟨rfl, (below_setRow (below_setRow (below_alloc hB2.out _) (by omega) _) (by omega) _)⟩

set_option maxHeartbeats 1000000 in
theorem minus_lt (a b m : Nat) (ha : a < m) (hb : b < m) (hm : m < 57896044618658097711785492504343953926634992332820282019728792003956564819968) (c : Nat) (hc : Hid (c = a + 18446744073709551616 ^ 4 - b)) (h : a < b) (w : World) :
    Calls Tryd.prog 38 #[.agg (numC a), .agg (numC b), .agg (numC m)] w fun e w' => e = .returned (.agg (numC (c + m))) ∧ Below w.heap.size w w' := by
  go_enter Tryd.func38, Tryd.ntmps38
  go_wp2_with (first
    | ((with_reducible refine at_dst 10 ?_); refine wpList_load_row rfl 42 _ rfl (w.heap.size) rfl 42 (numC a) (0, 0) _ (heap_old _ (heap_old _ (heap_old _ (heap_new_at _ _ _ rfl)))) underNum rfl (infoNum_of (numC a) (numC_size _)) ?_)
    | ((with_reducible refine at_dst 11 ?_); refine wpList_load_row rfl 42 _ rfl (w.heap.size + 1) rfl 42 (numC b) (0, 0) _ (heap_old _ (heap_old _ (heap_new_at _ _ _ (by simp only [alloc_size, setRow_size])))) underNum rfl (infoNum_of (numC b) (numC_size _)) ?_))
  refine (rest_lt a b c hc h (by omega) _).mono ?_
  rintro e w1 ⟨rfl, hC1⟩
  have hs1 : w.heap.size + 1 + 1 + 1 + 1 ≤ w1.heap.size := by have := hC1.size; (try simp only [alloc_size, setRow_size] at this); omega
  have h3 : w1.heap[w.heap.size]? = some (.cells (numC a) 42 (0, 0)) := (heap_call hC1 (heap_old _ (heap_old _ (heap_old _ (heap_new_at _ _ _ rfl)))))
  have h4 : w1.heap[w.heap.size + 1]? = some (.cells (numC b) 42 (0, 0)) := (heap_call hC1 (heap_old _ (heap_old _ (heap_new_at _ _ _ (by simp only [alloc_size, setRow_size])))))
  have h5 : w1.heap[w.heap.size + 1 + 1]? = some (.cells (numC m) 42 (0, 0)) := (heap_call hC1 (heap_old _ (heap_new_at _ _ _ (by simp only [alloc_size, setRow_size]))))
  have h6 : w1.heap[w.heap.size + 1 + 1 + 1]? = some (.cells (z4) 42 (0, 0)) := (heap_call hC1 (heap_new_at _ _ _ (by simp only [alloc_size, setRow_size])))
  have hB1 : Hid (Below w.heap.size w w1) := Lib.hid (below_call (below_alloc (below_alloc (below_alloc (below_alloc (Below.refl _ w) _) _) _) _) hC1)
  clear hC1
  go_wp2_with (first
    | ((with_reducible refine at_store 7 ?_); refine wpList_store_row rfl 42 _ _ rfl (w1.heap.size) (numC (c)) rfl rfl 42 (z4) (heap_new_at _ _ _ rfl) (infoNum_of (numC (c)) (numC_size _)) (z4_size.trans (numC_size _).symm) (numC_one _) ?_)
    | ((with_reducible refine at_dst 17 ?_); refine wpList_load_row rfl 42 _ rfl (w1.heap.size) rfl 42 (numC (c)) (0, 0) _ (setRow_heap _ _ _ _ _ _ (heap_new_at _ _ _ rfl)) underNum rfl (infoNum_of (numC (c)) (numC_size _)) ?_)
    | ((with_reducible refine at_dst 18 ?_); refine wpList_load_row rfl 42 _ rfl (w.heap.size + 1 + 1) rfl 42 (numC m) (0, 0) _ (heap_row _ (by omega) (heap_old _ h5)) underNum rfl (infoNum_of (numC m) (numC_size _)) ?_))
  refine (sum_any c m _).mono ?_
  rintro e w2 ⟨rfl, hC2⟩
  have hs2 : w1.heap.size + 1 ≤ w2.heap.size := by have := hC2.size; (try simp only [alloc_size, setRow_size] at this); omega
  have h3 : w2.heap[w.heap.size]? = some (.cells (numC a) 42 (0, 0)) := (heap_call hC2 (heap_row _ (by omega) (heap_old _ h3)))
  have h4 : w2.heap[w.heap.size + 1]? = some (.cells (numC b) 42 (0, 0)) := (heap_call hC2 (heap_row _ (by omega) (heap_old _ h4)))
  have h5 : w2.heap[w.heap.size + 1 + 1]? = some (.cells (numC m) 42 (0, 0)) := (heap_call hC2 (heap_row _ (by omega) (heap_old _ h5)))
  have h6 : w2.heap[w.heap.size + 1 + 1 + 1]? = some (.cells (z4) 42 (0, 0)) := (heap_call hC2 (heap_row _ (by omega) (heap_old _ h6)))
  have h7 : w2.heap[w1.heap.size]? = some (.cells (numC (c)) 42 (0, 0)) := (heap_call hC2 (setRow_heap _ _ _ _ _ _ (heap_new_at _ _ _ rfl)))
  have hB2 : Hid (Below w.heap.size w w2) := Lib.hid (below_call (below_setRow (below_alloc hB1.out _) (by omega) _) hC2)
  clear hC2
  go_wp2_with (first
    | ((with_reducible refine at_store 6 ?_); refine wpList_store_row rfl 42 _ _ rfl (w.heap.size + 1 + 1 + 1) (numC (c + m)) rfl rfl 42 (z4) h6 (infoNum_of (numC (c + m)) (numC_size _)) (z4_size.trans (numC_size _).symm) (numC_one _) ?_))
  refine bodyPost_ret (results_cell_row rfl _ _ (w.heap.size + 1 + 1 + 1) 42 (numC (c + m)) (0, 0) _ rfl (setRow_heap _ _ _ _ _ _ h6) underNum rfl (infoNum_of (numC (c + m)) (numC_size _))) rfl ⟨rfl, (below_setRow hB2.out (by omega) _)⟩

set_option maxHeartbeats 1000000 in
theorem minus_ge (a b m : Nat) (ha : a < m) (hb : b < m) (hm : m < 57896044618658097711785492504343953926634992332820282019728792003956564819968) (h : b ≤ a) (w : World) :
    Calls Tryd.prog 38 #[.agg (numC a), .agg (numC b), .agg (numC m)] w fun e w' => e = .returned (.agg (numC (a - b))) ∧ Below w.heap.size w w' := by
  go_enter Tryd.func38, Tryd.ntmps38
  go_wp2_with (first
    | ((with_reducible refine at_dst 10 ?_); refine wpList_load_row rfl 42 _ rfl (w.heap.size) rfl 42 (numC a) (0, 0) _ (heap_old _ (heap_old _ (heap_old _ (heap_new_at _ _ _ rfl)))) underNum rfl (infoNum_of (numC a) (numC_size _)) ?_)
    | ((with_reducible refine at_dst 11 ?_); refine wpList_load_row rfl 42 _ rfl (w.heap.size + 1) rfl 42 (numC b) (0, 0) _ (heap_old _ (heap_old _ (heap_new_at _ _ _ (by simp only [alloc_size, setRow_size])))) underNum rfl (infoNum_of (numC b) (numC_size _)) ?_))
  refine (rest_ge a b h (by omega) _).mono ?_
  rintro e w1 ⟨rfl, hC1⟩
  have hs1 : w.heap.size + 1 + 1 + 1 + 1 ≤ w1.heap.size := by have := hC1.size; (try simp only [alloc_size, setRow_size] at this); omega
  have h3 : w1.heap[w.heap.size]? = some (.cells (numC a) 42 (0, 0)) := (heap_call hC1 (heap_old _ (heap_old _ (heap_old _ (heap_new_at _ _ _ rfl)))))
  have h4 : w1.heap[w.heap.size + 1]? = some (.cells (numC b) 42 (0, 0)) := (heap_call hC1 (heap_old _ (heap_old _ (heap_new_at _ _ _ (by simp only [alloc_size, setRow_size])))))
  have h5 : w1.heap[w.heap.size + 1 + 1]? = some (.cells (numC m) 42 (0, 0)) := (heap_call hC1 (heap_old _ (heap_new_at _ _ _ (by simp only [alloc_size, setRow_size]))))
  have h6 : w1.heap[w.heap.size + 1 + 1 + 1]? = some (.cells (z4) 42 (0, 0)) := (heap_call hC1 (heap_new_at _ _ _ (by simp only [alloc_size, setRow_size])))
  have hB1 : Hid (Below w.heap.size w w1) := Lib.hid (below_call (below_alloc (below_alloc (below_alloc (below_alloc (Below.refl _ w) _) _) _) _) hC1)
  clear hC1
  go_wp2_with (first
    | ((with_reducible refine at_store 7 ?_); refine wpList_store_row rfl 42 _ _ rfl (w1.heap.size) (numC (a - b)) rfl rfl 42 (z4) (heap_new_at _ _ _ rfl) (infoNum_of (numC (a - b)) (numC_size _)) (z4_size.trans (numC_size _).symm) (numC_one _) ?_)
    | ((with_reducible refine at_dst 20 ?_); refine wpList_load_row rfl 42 _ rfl (w1.heap.size) rfl 42 (numC (a - b)) (0, 0) _ (setRow_heap _ _ _ _ _ _ (heap_new_at _ _ _ rfl)) underNum rfl (infoNum_of (numC (a - b)) (numC_size _)) ?_)
    | ((with_reducible refine at_store 6 ?_); refine wpList_store_row rfl 42 _ _ rfl (w.heap.size + 1 + 1 + 1) (numC (a - b)) rfl rfl 42 (z4) (heap_row _ (by omega) (heap_old _ h6)) (infoNum_of (numC (a - b)) (numC_size _)) (z4_size.trans (numC_size _).symm) (numC_one _) ?_))
  refine bodyPost_ret (results_cell_row rfl _ _ (w.heap.size + 1 + 1 + 1) 42 (numC (a - b)) (0, 0) _ rfl (setRow_heap _ _ _ _ _ _ (heap_row _ (by omega) (heap_old _ h6))) underNum rfl (infoNum_of (numC (a - b)) (numC_size _))) rfl ⟨rfl, (below_setRow (below_setRow (below_alloc hB1.out _) (by omega) _) (by omega) _)⟩


theorem plus_any (a b m : Nat) (ha : a < m) (hb : b < m) (hm : m < 57896044618658097711785492504343953926634992332820282019728792003956564819968) (w : World) :
    Calls Tryd.prog 37 #[.agg (numC a), .agg (numC b), .agg (numC m)] w fun e w' => e = .returned (.agg (numC ((a + b) % m))) ∧ Below w.heap.size w w' := by
  by_cases h : a + b < m
  · rw [Nat.mod_eq_of_lt h]; exact plus_lt a b m ha hb hm _ rfl h w
  · rw [Nat.mod_eq_sub_mod (by omega), Nat.mod_eq_of_lt (by omega)]; exact plus_ge a b m ha hb hm (by omega) w
theorem minus_any (a b m : Nat) (ha : a < m) (hb : b < m) (hm : m < 57896044618658097711785492504343953926634992332820282019728792003956564819968) (w : World) :
    Calls Tryd.prog 38 #[.agg (numC a), .agg (numC b), .agg (numC m)] w fun e w' => e = .returned (.agg (numC ((a + (m - b)) % m))) ∧ Below w.heap.size w w' := by
  by_cases h : a < b
  · have := minus_lt a b m ha hb hm _ rfl h w
    rw [show a + 18446744073709551616 ^ 4 - b + m = a + (m - b) + 18446744073709551616 ^ 4 by omega, num_mod] at this
    rw [Nat.mod_eq_of_lt (by omega)]
    exact this
  · rw [show a + (m - b) = a - b + m by omega, Nat.add_mod_right, Nat.mod_eq_of_lt (by omega)]
    exact minus_ge a b m ha hb hm (by omega) w
end
section
open Go.RowKit

theorem word_bit (a i : Nat) : wordN a (i / 64) / 2 ^ (i % 64) % 2 = a / 2 ^ i % 2 := by
  unfold wordN
  have e1 : (18446744073709551616 : Nat) = 2 ^ (i % 64) * 2 ^ (64 - i % 64) := by
    rw [← Nat.pow_add, show i % 64 + (64 - i % 64) = 64 by omega]
  have e2 : a / 18446744073709551616 ^ (i / 64) % 18446744073709551616 / 2 ^ (i % 64) = a / 18446744073709551616 ^ (i / 64) / 2 ^ (i % 64) % 2 ^ (64 - i % 64) := by
    generalize a / 18446744073709551616 ^ (i / 64) = A
    rw [e1, Nat.mod_mul_right_div_self]
  rw [e2, Nat.mod_mod_of_dvd _ (show 2 ∣ 2 ^ (64 - i % 64) from ⟨2 ^ (64 - i % 64 - 1), by rw [← Nat.pow_succ']; congr 1; omega⟩), Nat.div_div_eq_div_mul]
  congr 2
  rw [show (18446744073709551616 : Nat) = 2 ^ 64 from rfl, ← Nat.pow_mul, ← Nat.pow_add]
  congr 1; omega
theorem and_one (X s : Nat) (h : X < 18446744073709551616) : bits .and .u64 ((X : Int) / 2 ^ s) 1 = ((X / 2 ^ s % 2 : Nat) : Int) := by
  have e : (X : Int) / 2 ^ s = ((X / 2 ^ s : Nat) : Int) := by simp
  have hb : X / 2 ^ s < 18446744073709551616 := Nat.lt_of_le_of_lt (Nat.div_le_self _ _) h
  have := bits_and_u64_nat (X / 2 ^ s) 1 hb (by omega)
  rw [e]
  refine Eq.trans this ?_
  rw [Nat.and_one_is_mod]

set_option maxHeartbeats 1000000 in
theorem bit_any (a i : Nat) (hi : i < 256) (w : World) :
    Calls Tryd.prog 60 #[.agg (numC a), .int .i64 (i : Int)] w fun e w' => e = .returned (.bool (decide (a / 2 ^ i % 2 = 1))) ∧ Below w.heap.size w w' := by
  have hc := (Row.ofNum (heap_new w (.cells (numC a) 42))).cell (i := i / 64) (by omega)
  rw [Nat.zero_add] at hc
  unfold woV at hc
  have hb := wordN_lt a (i / 64)
  have hX := Lib.hid (word_bit a i)
  generalize wordN a (i / 64) = X at *
  obtain ⟨B, hB⟩ : ∃ B : Bool, B = decide (a / 2 ^ i % 2 = 1) := ⟨_, rfl⟩
  rw [← hB]
  have HB := Lib.hid hB; clear hB
  go_enter Tryd.func60, Tryd.ntmps60
  go_wp2
  go_ret
  refine ⟨?_, (Below.refl _ w).alloc (Nat.le_refl _) _⟩
  rw [HB.out, and_one X _ hb, hX.out]
  congr 2
  by_cases h : a / 2 ^ i % 2 = 1
  · simp [h]
  · have : a / 2 ^ i % 2 = 0 := by omega
    simp [this]
theorem bit_true (a i : Nat) (hi : i < 256) (h : a / 2 ^ i % 2 = 1) (w : World) : Calls Tryd.prog 60 #[.agg (numC a), .int .i64 (i : Int)] w fun e w' => e = .returned (.bool true) ∧ Below w.heap.size w w' :=
  (bit_any a i hi w).mono fun e w' ⟨he, hB⟩ => ⟨by rw [he]; simp [h], hB⟩
theorem bit_false (a i : Nat) (hi : i < 256) (h : ¬ a / 2 ^ i % 2 = 1) (w : World) : Calls Tryd.prog 60 #[.agg (numC a), .int .i64 (i : Int)] w fun e w' => e = .returned (.bool false) ∧ Below w.heap.size w w' :=
  (bit_any a i hi w).mono fun e w' ⟨he, hB⟩ => ⟨by rw [he]; simp [h], hB⟩
end
section
open Go.RowKit

theorem plus_to (a b m r : Nat) (hr : Hid (r = (a + b) % m)) (ha : a < m) (hb : b < m) (hm : m < 57896044618658097711785492504343953926634992332820282019728792003956564819968) (w : World) :
    Calls Tryd.prog 37 #[.agg (numC a), .agg (numC b), .agg (numC m)] w fun e w' => e = .returned (.agg (numC r)) ∧ Below w.heap.size w w' := by
  rw [hr.out]; exact plus_any a b m ha hb hm w
theorem minus_to (a b m r : Nat) (hr : Hid (r = (a + (m - b)) % m)) (ha : a < m) (hb : b < m) (hm : m < 57896044618658097711785492504343953926634992332820282019728792003956564819968) (w : World) :
    Calls Tryd.prog 38 #[.agg (numC a), .agg (numC b), .agg (numC m)] w fun e w' => e = .returned (.agg (numC r)) ∧ Below w.heap.size w w' := by
  rw [hr.out]; exact minus_any a b m ha hb hm w
theorem half_step (b k : Nat) : b / 2 ^ k = 2 * (b / 2 ^ (k + 1)) + b / 2 ^ k % 2 := by
  rw [Nat.pow_succ, ← Nat.div_div_eq_div_mul]; omega
theorem times_step0 (a b m k : Nat) (h : ¬ b / 2 ^ k % 2 = 1) : (a * (b / 2 ^ (k + 1)) % m + a * (b / 2 ^ (k + 1)) % m) % m = a * (b / 2 ^ k) % m := by
  rw [← Nat.add_mod, ← Nat.mul_add, half_step b k, show b / 2 ^ k % 2 = 0 by omega]
  congr 2; omega
theorem times_step1 (a b m k : Nat) (h : b / 2 ^ k % 2 = 1) : ((a * (b / 2 ^ (k + 1)) % m + a * (b / 2 ^ (k + 1)) % m) % m + a) % m = a * (b / 2 ^ k) % m := by
  rw [← Nat.add_mod, ← Nat.mul_add, Nat.mod_add_mod, half_step b k, h]
  congr 1
  rw [Nat.mul_add a (2 * _), Nat.mul_one]
  congr 2; omega

set_option maxHeartbeats 1000000 in
theorem times_any (a b m : Nat) (ha : a < m) (hb : b < 2 ^ 256) (hm : m < 57896044618658097711785492504343953926634992332820282019728792003956564819968) (w : World) :
    Calls Tryd.prog 39 #[.agg (numC a), .agg (numC b), .agg (numC m)] w fun e w' => e = .returned (.agg (numC (a * b % m))) ∧ Below w.heap.size w w' := by
  obtain ⟨F, qF⟩ : ∃ u : Nat, u = a * b % m := ⟨_, rfl⟩
  rw [← qF]
  have HF := Lib.hid qF; clear qF
  go_enter Tryd.func39, Tryd.ntmps39
  -- a literal store
  go_wp2_with fail
  go_loopw [8] (fun i wr => ∃ k X : Nat, k ≤ 256 ∧ i = .int .i64 ((k : Int) - 1) ∧ Hid (X = a * (b / 2 ^ k) % m) ∧ Hid (wr.heap[w.heap.size]? = some (.cells (numC a) 42 (0, 0))) ∧ Hid (wr.heap[w.heap.size + 1]? = some (.cells (numC b) 42 (0, 0))) ∧ Hid (wr.heap[w.heap.size + 1 + 1]? = some (.cells (numC m) 42 (0, 0))) ∧ Hid (wr.heap[w.heap.size + 1 + 1 + 1]? = some (.cells (z4) 42 (0, 0))) ∧ Hid (wr.heap[w.heap.size + 1 + 1 + 1 + 1]? = some (.cells (numC X) 42 (0, 0))) ∧ Hid (Below w.heap.size w wr)) (fun i _ => (intOf i + 1).toNat)
  case atStart =>
    exact ⟨256, 0, by omega, rfl, Lib.hid (by rw [Nat.div_eq_of_lt hb]; simp), Lib.hid (heap_old _ (heap_old _ (heap_old _ (heap_old _ (heap_new_at _ _ _ rfl))))), Lib.hid (heap_old _ (heap_old _ (heap_old _ (heap_new_at _ _ _ (by simp only [alloc_size, setRow_size]))))), Lib.hid (heap_old _ (heap_old _ (heap_new_at _ _ _ (by simp only [alloc_size, setRow_size])))), Lib.hid (heap_old _ (heap_new_at _ _ _ (by simp only [alloc_size, setRow_size]))), Lib.hid (by rw [← z4_num]; exact (heap_new_at _ _ _ (by simp only [alloc_size, setRow_size]))), Lib.hid (below_alloc (below_alloc (below_alloc (below_alloc (below_alloc (Below.refl _ w) _) _) _) _) _)⟩
  case round =>
    obtain ⟨k, X, hk, rfl, HX, H3, H4, H5, H6, H7, HB⟩ := hrel
    have h3 := H3.out
    have h4 := H4.out
    have h5 := H5.out
    have h6 := H6.out
    have h7 := H7.out
    clear H3 H4 H5 H6 H7
    rcases Nat.eq_zero_or_pos k with rfl | hpos
    · skip
      obtain rfl : X = F := by rw [HX.out, HF.out, Nat.pow_zero, Nat.div_one]
      go_wp2_with (first
        | ((with_reducible refine at_dst 25 ?_); refine wpList_load_row rfl 42 _ rfl (w.heap.size + 1 + 1 + 1 + 1) rfl 42 (numC X) (0, 0) _ h7 underNum rfl (infoNum_of (numC X) (numC_size _)) ?_)
        | ((with_reducible refine at_store 6 ?_); refine wpList_store_row rfl 42 _ _ rfl (w.heap.size + 1 + 1 + 1) (numC X) rfl rfl 42 (z4) h6 (infoNum_of (numC X) (numC_size _)) (z4_size.trans (numC_size _).symm) (numC_one _) ?_))
      refine bodyPost_ret (results_cell_row rfl _ _ (w.heap.size + 1 + 1 + 1) 42 (numC X) (0, 0) _ rfl (setRow_heap _ _ _ _ _ _ h6) underNum rfl (infoNum_of (numC X) (numC_size _))) rfl ⟨rfl, (below_setRow HB.out (by omega) _)⟩
    · obtain ⟨j, rfl⟩ : ∃ j, k = j + 1 := ⟨k - 1, by omega⟩
      have bl : X < m := by rw [HX.out]; exact Nat.mod_lt _ (by omega)
      obtain ⟨Y, qY⟩ : ∃ u : Nat, u = (X + X) % m := ⟨_, rfl⟩
      have bl2 : Y < m := by rw [qY]; exact Nat.mod_lt _ (by omega)
      have HY := Lib.hid qY; clear qY
      obtain ⟨Z, qZ⟩ : ∃ u : Nat, u = (Y + a) % m := ⟨_, rfl⟩
      have HZ := Lib.hid qZ; clear qZ
      by_cases hbit : b / 2 ^ j % 2 = 1
      · skip
        go_wp2_with (first
          | ((with_reducible refine at_dst 14 ?_); refine wpList_load_row rfl 42 _ rfl (w.heap.size + 1 + 1 + 1 + 1) rfl 42 (numC X) (0, 0) _ h7 underNum rfl (infoNum_of (numC X) (numC_size _)) ?_)
          | ((with_reducible refine at_dst 15 ?_); refine wpList_load_row rfl 42 _ rfl (w.heap.size + 1 + 1 + 1 + 1) rfl 42 (numC X) (0, 0) _ h7 underNum rfl (infoNum_of (numC X) (numC_size _)) ?_)
          | ((with_reducible refine at_dst 16 ?_); refine wpList_load_row rfl 42 _ rfl (w.heap.size + 1 + 1) rfl 42 (numC m) (0, 0) _ h5 underNum rfl (infoNum_of (numC m) (numC_size _)) ?_))
        refine (plus_to X X m Y HY bl bl hm _).mono ?_
        rintro e w1 ⟨rfl, hC1⟩
        have hs1 : wr.heap.size ≤ w1.heap.size := by have := hC1.size; (try simp only [alloc_size, setRow_size] at this); omega
        have h3 : w1.heap[w.heap.size]? = some (.cells (numC a) 42 (0, 0)) := (heap_call hC1 h3)
        have h4 : w1.heap[w.heap.size + 1]? = some (.cells (numC b) 42 (0, 0)) := (heap_call hC1 h4)
        have h5 : w1.heap[w.heap.size + 1 + 1]? = some (.cells (numC m) 42 (0, 0)) := (heap_call hC1 h5)
        have h6 : w1.heap[w.heap.size + 1 + 1 + 1]? = some (.cells (z4) 42 (0, 0)) := (heap_call hC1 h6)
        have h7 : w1.heap[w.heap.size + 1 + 1 + 1 + 1]? = some (.cells (numC X) 42 (0, 0)) := (heap_call hC1 h7)
        have hB1 : Hid (Below w.heap.size w w1) := Lib.hid (below_call HB.out hC1)
        clear hC1
        go_wp2_with (first
          | ((with_reducible refine at_store 7 ?_); refine wpList_store_row rfl 42 _ _ rfl (w.heap.size + 1 + 1 + 1 + 1) (numC Y) rfl rfl 42 (numC X) h7 (infoNum_of (numC Y) (numC_size _)) ((numC_size _).trans (numC_size _).symm) (numC_one _) ?_)
          | ((with_reducible refine at_dst 18 ?_); refine wpList_load_row rfl 42 _ rfl (w.heap.size + 1) rfl 42 (numC b) (0, 0) _ (heap_row _ (by omega) h4) underNum rfl (infoNum_of (numC b) (numC_size _)) ?_))
        refine (bit_true b j (by omega) hbit _).mono ?_
        rintro e w2 ⟨rfl, hC2⟩
        have hs2 : w1.heap.size ≤ w2.heap.size := by have := hC2.size; (try simp only [alloc_size, setRow_size] at this); omega
        have h3 : w2.heap[w.heap.size]? = some (.cells (numC a) 42 (0, 0)) := (heap_call hC2 (heap_row _ (by omega) h3))
        have h4 : w2.heap[w.heap.size + 1]? = some (.cells (numC b) 42 (0, 0)) := (heap_call hC2 (heap_row _ (by omega) h4))
        have h5 : w2.heap[w.heap.size + 1 + 1]? = some (.cells (numC m) 42 (0, 0)) := (heap_call hC2 (heap_row _ (by omega) h5))
        have h6 : w2.heap[w.heap.size + 1 + 1 + 1]? = some (.cells (z4) 42 (0, 0)) := (heap_call hC2 (heap_row _ (by omega) h6))
        have h7 : w2.heap[w.heap.size + 1 + 1 + 1 + 1]? = some (.cells (numC Y) 42 (0, 0)) := (heap_call hC2 (setRow_heap _ _ _ _ _ _ h7))
        have hB2 : Hid (Below w.heap.size w w2) := Lib.hid (below_call (below_setRow hB1.out (by omega) _) hC2)
        clear hC2
        go_wp2_with (first
          | ((with_reducible refine at_dst 21 ?_); refine wpList_load_row rfl 42 _ rfl (w.heap.size + 1 + 1 + 1 + 1) rfl 42 (numC Y) (0, 0) _ h7 underNum rfl (infoNum_of (numC Y) (numC_size _)) ?_)
          | ((with_reducible refine at_dst 22 ?_); refine wpList_load_row rfl 42 _ rfl (w.heap.size) rfl 42 (numC a) (0, 0) _ h3 underNum rfl (infoNum_of (numC a) (numC_size _)) ?_)
          | ((with_reducible refine at_dst 23 ?_); refine wpList_load_row rfl 42 _ rfl (w.heap.size + 1 + 1) rfl 42 (numC m) (0, 0) _ h5 underNum rfl (infoNum_of (numC m) (numC_size _)) ?_))
        refine (plus_to Y a m Z HZ bl2 ha hm _).mono ?_
        rintro e w3 ⟨rfl, hC3⟩
        have hs3 : w2.heap.size ≤ w3.heap.size := by have := hC3.size; (try simp only [alloc_size, setRow_size] at this); omega
        have h3 : w3.heap[w.heap.size]? = some (.cells (numC a) 42 (0, 0)) := (heap_call hC3 h3)
        have h4 : w3.heap[w.heap.size + 1]? = some (.cells (numC b) 42 (0, 0)) := (heap_call hC3 h4)
        have h5 : w3.heap[w.heap.size + 1 + 1]? = some (.cells (numC m) 42 (0, 0)) := (heap_call hC3 h5)
        have h6 : w3.heap[w.heap.size + 1 + 1 + 1]? = some (.cells (z4) 42 (0, 0)) := (heap_call hC3 h6)
        have h7 : w3.heap[w.heap.size + 1 + 1 + 1 + 1]? = some (.cells (numC Y) 42 (0, 0)) := (heap_call hC3 h7)
        have hB3 : Hid (Below w.heap.size w w3) := Lib.hid (below_call hB2.out hC3)
        clear hC3
        go_wp2_with (first
          | ((with_reducible refine at_store 7 ?_); refine wpList_store_row rfl 42 _ _ rfl (w.heap.size + 1 + 1 + 1 + 1) (numC Z) rfl rfl 42 (numC Y) h7 (infoNum_of (numC Z) (numC_size _)) ((numC_size _).trans (numC_size _).symm) (numC_one _) ?_))
        go_roundw
        case rel =>
          exact ⟨j, _, by omega, by go_num, Lib.hid (by rw [HZ.out, HY.out, HX.out]; exact times_step1 a b m j hbit), Lib.hid (heap_row _ (by omega) h3), Lib.hid (heap_row _ (by omega) h4), Lib.hid (heap_row _ (by omega) h5), Lib.hid (heap_row _ (by omega) h6), Lib.hid (setRow_heap _ _ _ _ _ _ h7), Lib.hid (below_setRow hB3.out (by omega) _)⟩
        case measure => simp [intOf]
      · skip
        go_wp2_with (first
          | ((with_reducible refine at_dst 14 ?_); refine wpList_load_row rfl 42 _ rfl (w.heap.size + 1 + 1 + 1 + 1) rfl 42 (numC X) (0, 0) _ h7 underNum rfl (infoNum_of (numC X) (numC_size _)) ?_)
          | ((with_reducible refine at_dst 15 ?_); refine wpList_load_row rfl 42 _ rfl (w.heap.size + 1 + 1 + 1 + 1) rfl 42 (numC X) (0, 0) _ h7 underNum rfl (infoNum_of (numC X) (numC_size _)) ?_)
          | ((with_reducible refine at_dst 16 ?_); refine wpList_load_row rfl 42 _ rfl (w.heap.size + 1 + 1) rfl 42 (numC m) (0, 0) _ h5 underNum rfl (infoNum_of (numC m) (numC_size _)) ?_))
        refine (plus_to X X m Y HY bl bl hm _).mono ?_
        rintro e w1 ⟨rfl, hC1⟩
        have hs1 : wr.heap.size ≤ w1.heap.size := by have := hC1.size; (try simp only [alloc_size, setRow_size] at this); omega
        have h3 : w1.heap[w.heap.size]? = some (.cells (numC a) 42 (0, 0)) := (heap_call hC1 h3)
        have h4 : w1.heap[w.heap.size + 1]? = some (.cells (numC b) 42 (0, 0)) := (heap_call hC1 h4)
        have h5 : w1.heap[w.heap.size + 1 + 1]? = some (.cells (numC m) 42 (0, 0)) := (heap_call hC1 h5)
        have h6 : w1.heap[w.heap.size + 1 + 1 + 1]? = some (.cells (z4) 42 (0, 0)) := (heap_call hC1 h6)
        have h7 : w1.heap[w.heap.size + 1 + 1 + 1 + 1]? = some (.cells (numC X) 42 (0, 0)) := (heap_call hC1 h7)
        have hB1 : Hid (Below w.heap.size w w1) := Lib.hid (below_call HB.out hC1)
        clear hC1
        go_wp2_with (first
          | ((with_reducible refine at_store 7 ?_); refine wpList_store_row rfl 42 _ _ rfl (w.heap.size + 1 + 1 + 1 + 1) (numC Y) rfl rfl 42 (numC X) h7 (infoNum_of (numC Y) (numC_size _)) ((numC_size _).trans (numC_size _).symm) (numC_one _) ?_)
          | ((with_reducible refine at_dst 18 ?_); refine wpList_load_row rfl 42 _ rfl (w.heap.size + 1) rfl 42 (numC b) (0, 0) _ (heap_row _ (by omega) h4) underNum rfl (infoNum_of (numC b) (numC_size _)) ?_))
        refine (bit_false b j (by omega) hbit _).mono ?_
        rintro e w2 ⟨rfl, hC2⟩
        have hs2 : w1.heap.size ≤ w2.heap.size := by have := hC2.size; (try simp only [alloc_size, setRow_size] at this); omega
        have h3 : w2.heap[w.heap.size]? = some (.cells (numC a) 42 (0, 0)) := (heap_call hC2 (heap_row _ (by omega) h3))
        have h4 : w2.heap[w.heap.size + 1]? = some (.cells (numC b) 42 (0, 0)) := (heap_call hC2 (heap_row _ (by omega) h4))
        have h5 : w2.heap[w.heap.size + 1 + 1]? = some (.cells (numC m) 42 (0, 0)) := (heap_call hC2 (heap_row _ (by omega) h5))
        have h6 : w2.heap[w.heap.size + 1 + 1 + 1]? = some (.cells (z4) 42 (0, 0)) := (heap_call hC2 (heap_row _ (by omega) h6))
        have h7 : w2.heap[w.heap.size + 1 + 1 + 1 + 1]? = some (.cells (numC Y) 42 (0, 0)) := (heap_call hC2 (setRow_heap _ _ _ _ _ _ h7))
        have hB2 : Hid (Below w.heap.size w w2) := Lib.hid (below_call (below_setRow hB1.out (by omega) _) hC2)
        clear hC2
        go_wp2
        go_roundw
        case rel =>
          exact ⟨j, _, by omega, by go_num, Lib.hid (by rw [HY.out, HX.out]; exact times_step0 a b m j hbit), Lib.hid h3, Lib.hid h4, Lib.hid h5, Lib.hid h6, Lib.hid h7, Lib.hid hB2.out⟩
        case measure => simp [intOf]
end
section
open Go.RowKit

theorem times_to (a b m r : Nat) (hr : Hid (r = a * b % m)) (ha : a < m) (hb : b < 2 ^ 256) (hm : m < 57896044618658097711785492504343953926634992332820282019728792003956564819968) (w : World) :
    Calls Tryd.prog 39 #[.agg (numC a), .agg (numC b), .agg (numC m)] w fun e w' => e = .returned (.agg (numC r)) ∧ Below w.heap.size w w' := by
  rw [hr.out]; exact times_any a b m ha hb hm w
/-- a to the power of e, modulo m -/
def pm (a e m : Nat) : Nat := a ^ e % m
theorem pm_lt (a e m : Nat) (h : 0 < m) : pm a e m < m := Nat.mod_lt _ h
theorem pm_step0 (a e m k : Nat) (h : ¬ e / 2 ^ k % 2 = 1) : pm a (e / 2 ^ (k + 1)) m * pm a (e / 2 ^ (k + 1)) m % m = pm a (e / 2 ^ k) m := by
  unfold pm
  rw [← Nat.mul_mod, ← Nat.pow_add, half_step e k, show e / 2 ^ k % 2 = 0 by omega]
  congr 2; omega
theorem pm_step1 (a e m k : Nat) (h : e / 2 ^ k % 2 = 1) : pm a (e / 2 ^ (k + 1)) m * pm a (e / 2 ^ (k + 1)) m % m * a % m = pm a (e / 2 ^ k) m := by
  unfold pm
  rw [← Nat.mul_mod, ← Nat.pow_add, Nat.mod_mul_mod, ← Nat.pow_succ, half_step e k, h]
  congr 2; omega
end
end Go.Proofs.YtemgflkecflhmaaDoor
