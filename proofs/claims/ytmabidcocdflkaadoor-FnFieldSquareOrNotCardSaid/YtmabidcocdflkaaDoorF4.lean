/- The field's bytes, written: lePutUint64, bytes, Bytes, elementOf. -/
import Derived.Test.YtmabidcocdflkaaDoorF2
import Derived.Test.YtmabidcocdflkaaDoorF3
import Derived.LoopTactic
set_option linter.unusedSimpArgs false
set_option linter.unusedVariables false
namespace Go.Proofs.YtmabidcocdflkaaDoor
open Go.RowKit

theorem alloc_size (w : World) (o : Obj) : (w.alloc o).heap.size = w.heap.size + 1 := by
  show (w.heap.push o).size = _
  simp

theorem byV_shift (X j : Nat) : byV X j = .int .u8 ((X : Int) / 2 ^ (8 * j) % 256) := by
  unfold byV byteN
  rw [show (256 : Nat) = 2 ^ 8 from rfl, ← Nat.pow_mul]
  simp

set_option maxHeartbeats 1000000 in
theorem lePut_any (b off X len cap : Nat) (vs : Nat → Value) (w : World) (h : Row w b off 8 vs) (hl : 8 ≤ len) :
    Calls Tryd.prog 48 #[.slice (some ⟨b, off, none⟩) len cap, .int .u64 (X : Int)] w fun e w' => e = .returned (.tuple #[]) ∧ Wr w w' b off 8 (byV X) := by
  have hh := Lib.hid h; clear h
  go_enter Tryd.func48, Tryd.ntmps48
  go_wp2
  go_loopw [4] (fun i wr => ∃ k : Nat, k ≤ 8 ∧ i = .int .i64 (k : Int) ∧ Hid (Wr w wr b off 8 (fun j => if j < k then byV X j else vs j))) (fun i _ => 8 - (intOf i).toNat)
  case atStart =>
    exact ⟨0, by omega, rfl, Lib.hid ((Wr.start hh.out).congr fun i _ => by simp)⟩
  case round =>
    obtain ⟨k, hk, rfl, hw⟩ := hrel
    by_cases hlt : k < 8
    · have hf := (hw.out.row hh.out).frozen (i := k) hlt
      have hc := (hw.out.row hh.out).cell (i := k) hlt
      rw [if_neg (by omega)] at hc
      go_wp2
      go_roundw
      case rel =>
        refine ⟨k + 1, by omega, by go_num, Lib.hid ?_⟩
        refine (hw.out.set k _).congr fun j hj => ?_
        by_cases hjk : j = k
        · subst hjk
          rw [if_pos (by omega), if_pos rfl]
          exact byV_shift X j
        · rw [if_neg hjk]
          by_cases h2 : j < k
          · rw [if_pos (by omega), if_pos h2]
          · rw [if_neg (by omega), if_neg h2]
      case measure => simp [intOf]; omega
    · go_wp2
      go_end0
      refine ⟨rfl, hw.out.congr fun j hj => ?_⟩
      rw [if_pos (by omega)]

theorem or_word (a b s : Nat) (hb : b < 2 ^ s) (h : a * 2 ^ s + b < 18446744073709551616) : bits .or .u64 ((a * 2 ^ s : Nat) : Int) (b : Int) = ((a * 2 ^ s + b : Nat) : Int) := by
  have h := bits_or_u64_nat (a * 2 ^ s) b (by omega) (by omega)
  have e : a * 2 ^ s ||| b = a * 2 ^ s + b := by
    have := Nat.shiftLeft_add_eq_or_of_lt (i := s) (b := b) hb a
    rw [Nat.shiftLeft_eq] at this
    exact this.symm
  rw [e] at h
  exact h

/-- the four words of 51-bit limbs -/
def wd0 (K : L5) : Nat := K.l1 % 8192 * 2251799813685248 + K.l0
def wd1 (K : L5) : Nat := K.l2 % 67108864 * 274877906944 + K.l1 / 8192
def wd2 (K : L5) : Nat := K.l3 % 549755813888 * 33554432 + K.l2 / 67108864
def wd3 (K : L5) : Nat := K.l4 * 4096 + K.l3 / 549755813888

theorem wd0_eq (K : L5) (h : Canon K) : bits .or .u64 (IntKind.u64.wrap ((K.l1 : Int) * 2251799813685248)) (K.l0 : Int) = (wd0 K : Int) := by
  unfold Canon at h
  have e : IntKind.u64.wrap ((K.l1 : Int) * 2251799813685248) = ((K.l1 % 8192 * 2 ^ 51 : Nat) : Int) := by rw [IntKind.wrap_u64]; omega
  rw [e]
  exact or_word _ _ 51 (by omega) (by omega)
theorem wd1_eq (K : L5) (h : Canon K) : bits .or .u64 (IntKind.u64.wrap ((K.l2 : Int) * 274877906944)) ((K.l1 : Int) / 8192) = (wd1 K : Int) := by
  unfold Canon at h
  have e : IntKind.u64.wrap ((K.l2 : Int) * 274877906944) = ((K.l2 % 67108864 * 2 ^ 38 : Nat) : Int) := by rw [IntKind.wrap_u64]; omega
  rw [e, show (K.l1 : Int) / 8192 = ((K.l1 / 8192 : Nat) : Int) by omega]
  exact or_word _ _ 38 (by omega) (by omega)
theorem wd2_eq (K : L5) (h : Canon K) : bits .or .u64 (IntKind.u64.wrap ((K.l3 : Int) * 33554432)) ((K.l2 : Int) / 67108864) = (wd2 K : Int) := by
  unfold Canon at h
  have e : IntKind.u64.wrap ((K.l3 : Int) * 33554432) = ((K.l3 % 549755813888 * 2 ^ 25 : Nat) : Int) := by rw [IntKind.wrap_u64]; omega
  rw [e, show (K.l2 : Int) / 67108864 = ((K.l2 / 67108864 : Nat) : Int) by omega]
  exact or_word _ _ 25 (by omega) (by omega)
theorem wd3_eq (K : L5) (h : Canon K) : bits .or .u64 ((K.l4 : Int) * 4096) ((K.l3 : Int) / 549755813888) = (wd3 K : Int) := by
  unfold Canon at h
  have e : (K.l4 : Int) * 4096 = ((K.l4 * 2 ^ 12 : Nat) : Int) := by omega
  rw [e, show (K.l3 : Int) / 549755813888 = ((K.l3 / 549755813888 : Nat) : Int) by omega]
  exact or_word _ _ 12 (by omega) (by omega)

theorem wd_val (K : L5) (h : Canon K) : val5 K = wd0 K + 18446744073709551616 * wd1 K + 340282366920938463463374607431768211456 * wd2 K + 6277101735386680763835789423207666416102355444464034512896 * wd3 K ∧
    wd0 K < 18446744073709551616 ∧ wd1 K < 18446744073709551616 ∧ wd2 K < 18446744073709551616 ∧ wd3 K < 18446744073709551616 := by
  unfold Canon at h
  unfold val5 wd0 wd1 wd2 wd3
  omega

theorem byV_word (x m U j : Nat) (hU : x / 256 ^ m % 18446744073709551616 = U) (hj : j < 8) : byV x (m + j) = byV U j := by
  unfold byV
  rw [byteN_shift, ← hU]
  have := byteN_mod (x / 256 ^ m) 8 j hj
  rw [← this]

theorem words_bytes (x U0 U1 U2 U3 : Nat) (hx : x = U0 + 18446744073709551616 * U1 + 340282366920938463463374607431768211456 * U2 + 6277101735386680763835789423207666416102355444464034512896 * U3)
    (h0 : U0 < 18446744073709551616) (h1 : U1 < 18446744073709551616) (h2 : U2 < 18446744073709551616) (h3 : U3 < 18446744073709551616) (i : Nat) (hi : i < 32) :
    byV x i = if 24 ≤ i ∧ i < 24 + 8 then byV U3 (i - 24) else if 16 ≤ i ∧ i < 16 + 8 then byV U2 (i - 16) else if 8 ≤ i ∧ i < 8 + 8 then byV U1 (i - 8) else byV U0 i := by
  by_cases c3 : 24 ≤ i
  · rw [if_pos (by omega), ← byV_word x 24 U3 (i - 24) (by omega) (by omega)]
    congr 1; omega
  · rw [if_neg (by omega)]
    by_cases c2 : 16 ≤ i
    · rw [if_pos (by omega), ← byV_word x 16 U2 (i - 16) (by omega) (by omega)]
      congr 1; omega
    · rw [if_neg (by omega)]
      by_cases c1 : 8 ≤ i
      · rw [if_pos (by omega), ← byV_word x 8 U1 (i - 8) (by omega) (by omega)]
        congr 1; omega
      · rw [if_neg (by omega), ← byV_word x 0 U0 i (by omega) (by omega)]
        congr 1; omega

set_option maxHeartbeats 1000000 in
theorem bytes_any (vb vo ob x : Nat) (w : World) (vs : Nat → Value) (hF : Fe w vb vo x) (ho : Row w ob 0 32 vs) :
    Calls Tryd.prog 38 #[.pointer (some ⟨vb, vo, none⟩), .pointer (some ⟨ob, 0, none⟩)] w fun e w' => e = .returned (.slice (some ⟨ob, 0, none⟩) 32 32) ∧ Wr w w' ob 0 32 (byV x) := by
  obtain ⟨L, hE, hB, hx⟩ := hF
  have h0 := hE.c0; have h1 := hE.c1; have h2 := hE.c2; have h3 := hE.c3; have h4 := hE.c4
  have ho' := Lib.hid ho
  have hx' := Lib.hid hx
  have hB' := Lib.hid hB
  clear hE ho hx hB
  go_enter Tryd.func38, Tryd.ntmps38
  go_wp2_with fail
  have hn : El (w.alloc (.cells #[.int .u64 (L.l0 : Int), .int .u64 (L.l1 : Int), .int .u64 (L.l2 : Int), .int .u64 (L.l3 : Int), .int .u64 (L.l4 : Int)] 36)) w.heap.size 0 L := by
    refine Row.new _ _ _ _ _ ?_
    intro i hi
    have : i = 0 ∨ i = 1 ∨ i = 2 ∨ i = 3 ∨ i = 4 := by omega
    rcases this with rfl | rfl | rfl | rfl | rfl <;> rfl
  refine (reduce_any w.heap.size 0 x _ ⟨L, hn, hB'.out, hx'.out⟩).mono ?_
  rintro e w1 ⟨rfl, K, hC, hv, hw1⟩
  have hK := hw1.row hn
  have k0 := El.c0 hK; have k1 := El.c1 hK; have k2 := El.c2 hK; have k3 := El.c3 hK; have k4 := El.c4 hK
  have hb1 : Below w.heap.size w w1 := (Below.alloc (Below.refl _ w) (Nat.le_refl _) _).trans (hw1.below (Nat.le_refl _) (by rw [alloc_size]; omega))
  have hr1 := ho'.out.below hb1 ho'.out.lt
  have e0 := wd0_eq K hC; have e1 := wd1_eq K hC; have e2 := wd2_eq K hC; have e3 := wd3_eq K hC
  obtain ⟨hval, v0, v1, v2, v3⟩ := wd_val K hC
  have hval' := Lib.hid (hv.symm.trans hval); clear hval
  have hb1' := Lib.hid hb1; clear hb1
  have hr1' := Lib.hid hr1; clear hr1
  obtain ⟨q0, q1, q2, q3, q4⟩ := hC
  clear h0 h1 h2 h3 h4 hn hK hw1 hv
  go_wp2_with fail
  clear e0 e1 e2 e3 k0 k1 k2 k3 k4 q0 q1 q2 q3 q4
  generalize wd0 K = U0 at *; generalize wd1 K = U1 at *; generalize wd2 K = U2 at *; generalize wd3 K = U3 at *
  refine (lePut_any ob 0 U0 32 32 _ w1 (hr1'.out.sub 0 8 (by omega)) (by omega)).mono ?_
  rintro e w2 ⟨rfl, hw2⟩
  have hw := Lib.hid ((Wr.part (off := 0) (m := 0) hw2 hr1'.out (by omega))); clear hw2
  go_wp2_with fail
  refine (lePut_any ob 8 U1 24 24 _ w2 ((hw.out.row hr1'.out).sub 8 8 (by omega)) (by omega)).mono ?_
  rintro e w3 ⟨rfl, hw3⟩
  have hw := Lib.hid (hw.out.trans (Wr.part (off := 0) (m := 8) hw3 (hw.out.row hr1'.out) (by omega))); clear hw3
  go_wp2_with fail
  refine (lePut_any ob 16 U2 16 16 _ w3 ((hw.out.row hr1'.out).sub 16 8 (by omega)) (by omega)).mono ?_
  rintro e w4 ⟨rfl, hw4⟩
  have hw := Lib.hid (hw.out.trans (Wr.part (off := 0) (m := 16) hw4 (hw.out.row hr1'.out) (by omega))); clear hw4
  go_wp2_with fail
  refine (lePut_any ob 24 U3 8 8 _ w4 ((hw.out.row hr1'.out).sub 24 8 (by omega)) (by omega)).mono ?_
  rintro e w5 ⟨rfl, hw5⟩
  have hw := Lib.hid (hw.out.trans (Wr.part (off := 0) (m := 24) hw5 (hw.out.row hr1'.out) (by omega))); clear hw5
  go_wp2
  go_ret
  refine ⟨rfl, (Wr.ahead hb1'.out hw.out ho'.out.lt).congr fun i hi => ?_⟩
  rw [words_bytes x U0 U1 U2 U3 hval'.out v0 v1 v2 v3 i hi]
  by_cases c3 : 24 ≤ i
  · simp [c3, hi]
  · by_cases c2 : 16 ≤ i
    · have : i < 24 := by omega
      simp [c3, c2, this]
    · by_cases c1 : 8 ≤ i
      · have : i < 16 := by omega
        simp [c3, c2, c1, this]
      · have : i < 8 := by omega
        simp [c3, c2, c1, this]

theorem Row.newAny (w : World) (cs : Array Value) (t : TypeId) : Row (w.alloc (.cells cs t)) w.heap.size 0 cs.size (fun i => cs.getD i undef) := by
  refine Row.new w cs t _ _ ?_
  intro i hi
  simp [hi]

theorem Bytes_any (vb vo x : Nat) (w : World) (hF : Fe w vb vo x) :
    Calls Tryd.prog 28 #[.pointer (some ⟨vb, vo, none⟩)] w fun e w' => ∃ b, e = .returned (.slice (some ⟨b, 0, none⟩) 32 32) ∧ w.heap.size ≤ b ∧ Below w.heap.size w w' ∧ Row w' b 0 32 (byV x) := by
  go_enter Tryd.func28, Tryd.ntmps28
  go_wp2_with fail
  refine (bytes_any vb vo w.heap.size x _ _ (hF.alloc _) (Row.newAny _ _ _)).mono ?_
  rintro e w1 ⟨rfl, hw1⟩
  go_wp2
  go_ret
  refine ⟨_, rfl, Nat.le_refl _, (Below.alloc (Below.refl _ w) (Nat.le_refl _) _).trans (hw1.below (Nat.le_refl _) (by rw [alloc_size]; omega)), hw1.row (Row.newAny _ _ _)⟩

def valN (N : Nat) : Nat := N % 57896044618658097711785492504343953926634992332820282019728792003956564819968 % pF

theorem arr_size (N : Nat) : ((List.range 32).map (byV N)).toArray.size = 32 := by simp
theorem arr_get (N i : Nat) (hi : i < 32) : ((List.range 32).map (byV N)).toArray[i]? = some (byV N i) := by simp [hi]

theorem elementOf_any (N : Nat) (w : World) :
    Calls Tryd.prog 16 #[arrV N] w fun e w' => ∃ b, e = .returned (.pointer (some ⟨b, 0, none⟩)) ∧ w.heap.size ≤ b ∧ Below w.heap.size w w' ∧ Fe w' b 0 (valN N) := by
  unfold arrV
  have hg := fun i hi => arr_get N i hi
  generalize ((List.range 32).map (byV N)).toArray = cs at *
  have hg' := Lib.hid hg; clear hg
  go_enter Tryd.func16, Tryd.ntmps16
  go_wp2_with fail
  have hz : El ((w.alloc (.cells cs 22)).alloc (.cells #[.int .u64 0, .int .u64 0, .int .u64 0, .int .u64 0, .int .u64 0] 36)) (w.heap.size + 1) 0 ⟨0, 0, 0, 0, 0⟩ := by
    have := Row.new (w.alloc (.cells cs 22)) #[.int .u64 0, .int .u64 0, .int .u64 0, .int .u64 0, .int .u64 0] 36 5 (limbV ⟨0, 0, 0, 0, 0⟩) (by
      intro i hi
      have : i = 0 ∨ i = 1 ∨ i = 2 ∨ i = 3 ∨ i = 4 := by omega
      rcases this with rfl | rfl | rfl | rfl | rfl <;> rfl)
    rw [alloc_size] at this
    exact this
  have hr : Row ((w.alloc (.cells cs 22)).alloc (.cells #[.int .u64 0, .int .u64 0, .int .u64 0, .int .u64 0, .int .u64 0] 36)) w.heap.size 0 32 (byV N) :=
    (Row.new w cs _ 32 (byV N) hg'.out).alloc _
  refine (setBytes_any (w.heap.size + 1) 0 w.heap.size 0 N 32 _ _ hz hr (by omega) (by omega)).mono ?_
  rintro e w1 ⟨rfl, hw1⟩
  go_wp2
  go_ret
  refine ⟨_, rfl, by omega, ?_, hw1.fe hz⟩
  exact ((Below.alloc (Below.refl _ w) (Nat.le_refl _) _).alloc (by rw [alloc_size]; omega) _).trans (hw1.below (by omega) (by rw [alloc_size, alloc_size]; omega))
end Go.Proofs.YtmabidcocdflkaaDoor
