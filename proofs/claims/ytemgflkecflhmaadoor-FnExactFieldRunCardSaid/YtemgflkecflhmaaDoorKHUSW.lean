/- Swap. -/
import Derived.Deep.DeepCutAuto
import Derived.Test.YtemgflkecflhmaaDoorKL1
import Derived.Test.YtemgflkecflhmaaDoorKL2
set_option maxRecDepth 4000
set_option linter.unusedSimpArgs false
set_option linter.unusedVariables false
namespace Go.Proofs.YtemgflkecflhmaaDoor
open Go.RowKit


theorem xor_self_r (a b : Nat) (ha : a < 18446744073709551616) (hb : b < 18446744073709551616) : ∃ x : Nat, x < 18446744073709551616 ∧ bits .xor .u64 (a : Int) (b : Int) = (x : Int) ∧ bits .xor .u64 (a : Int) (x : Int) = (b : Int) ∧ bits .xor .u64 (b : Int) (x : Int) = (a : Int) ∧
    bits .and .u64 18446744073709551615 (x : Int) = (x : Int) ∧ bits .and .u64 0 (x : Int) = 0 ∧ bits .xor .u64 (a : Int) 0 = (a : Int) ∧ bits .xor .u64 (b : Int) 0 = (b : Int) := by
  have key : ∀ u v : Nat, u < 18446744073709551616 → v < 18446744073709551616 → bits .xor .u64 (u : Int) (v : Int) = ((u ^^^ v : Nat) : Int) := by
    intro u v hu hv
    have h1 : (BitVec.ofInt 64 (u : Int)).toNat = u := by rw [BitVec.ofInt_natCast, BitVec.toNat_ofNat]; exact Nat.mod_eq_of_lt (by omega)
    have h2 : (BitVec.ofInt 64 (v : Int)).toNat = v := by rw [BitVec.ofInt_natCast, BitVec.toNat_ofNat]; exact Nat.mod_eq_of_lt (by omega)
    show IntKind.u64.wrap ((BitVec.ofInt 64 (u : Int) ^^^ BitVec.ofInt 64 (v : Int)).toNat : Int) = _
    rw [BitVec.toNat_xor, h1, h2, IntKind.wrap_u64]
    have := Nat.xor_lt_two_pow (n := 64) (x := u) (y := v) (by omega) (by omega)
    omega
  have hx := Nat.xor_lt_two_pow (n := 64) (x := a) (y := b) (by omega) (by omega)
  refine ⟨a ^^^ b, by omega, key a b ha hb, ?_, ?_, ?_, ?_, ?_, ?_⟩
  · rw [key a _ ha (by omega), ← Nat.xor_assoc, Nat.xor_self, Nat.zero_xor]
  · rw [key b _ hb (by omega), Nat.xor_comm a b, ← Nat.xor_assoc, Nat.xor_self, Nat.zero_xor]
  · have h := bits_and_u64_nat 18446744073709551615 (a ^^^ b) (by omega) (by omega)
    have e : 18446744073709551615 &&& (a ^^^ b) = a ^^^ b := by
      rw [Nat.and_comm]
      have := Nat.and_two_pow_sub_one_eq_mod (a ^^^ b) 64
      rw [show (18446744073709551615 : Nat) = 2 ^ 64 - 1 by decide, this]
      exact Nat.mod_eq_of_lt (by omega)
    rw [e] at h
    exact h
  · have h := bits_and_u64_nat 0 (a ^^^ b) (by omega) (by omega)
    rw [Nat.zero_and] at h
    exact h
  · have h := key a 0 ha (by omega); rw [Nat.xor_zero] at h; exact h
  · have h := key b 0 hb (by omega); rw [Nat.xor_zero] at h; exact h

theorem El.other {w : World} {b off b' o' : Nat} {L : L5} {v : Value} (h : El w b off L) (hne : b ≠ b') : El (w.setCell ⟨b', o', none⟩ v) b off L :=
  Row.keep h (Below.heap_setCell _ _ _ _ hne)
theorem El.start {w : World} {b off : Nat} {L : L5} (h : El w b off L) : Wr w w b off 5 (limbV L) := (Wr.start h).congr fun i hi => rfl
theorem row_wr {w w' : World} {b off n : Nat} {vs us : Nat → Value} (h : Row w b off n us) (hw : Wr w w' b off n vs) : Row w' b off n vs := hw.row h
theorem El.st0 {w : World} {b off : Nat} {L : L5} (h : El w b off L) (x : Nat) : El (w.setCell ⟨b, off, none⟩ (.int .u64 (x : Int))) b off { L with l0 := x } := by
  have e : Wr w w b off 5 (limbV L) := by
    obtain ⟨cs, t, fr, hb, hc⟩ := h
    refine ⟨rfl, rfl, rfl, Nat.le_refl _, fun _ _ _ => rfl, cs, t, fr, cs, hb, hb, rfl, fun o ho => ?_⟩
    split
    · rename_i h'
      have := (hc (o - off) (by omega)).1
      rw [← this]; congr 1; omega
    · rfl
  exact Row.congr ((e.set 0 (.int .u64 (x : Int))).row h) (limbs_eq _ _ rfl rfl rfl rfl rfl)
theorem El.st1 {w : World} {b off : Nat} {L : L5} (h : El w b off L) (x : Nat) : El (w.setCell ⟨b, off + 1, none⟩ (.int .u64 (x : Int))) b off { L with l1 := x } := by
  have e : Wr w w b off 5 (limbV L) := by
    obtain ⟨cs, t, fr, hb, hc⟩ := h
    refine ⟨rfl, rfl, rfl, Nat.le_refl _, fun _ _ _ => rfl, cs, t, fr, cs, hb, hb, rfl, fun o ho => ?_⟩
    split
    · rename_i h'
      have := (hc (o - off) (by omega)).1
      rw [← this]; congr 1; omega
    · rfl
  exact Row.congr ((e.set 1 (.int .u64 (x : Int))).row h) (limbs_eq _ _ rfl rfl rfl rfl rfl)
theorem El.st2 {w : World} {b off : Nat} {L : L5} (h : El w b off L) (x : Nat) : El (w.setCell ⟨b, off + 2, none⟩ (.int .u64 (x : Int))) b off { L with l2 := x } := by
  have e : Wr w w b off 5 (limbV L) := by
    obtain ⟨cs, t, fr, hb, hc⟩ := h
    refine ⟨rfl, rfl, rfl, Nat.le_refl _, fun _ _ _ => rfl, cs, t, fr, cs, hb, hb, rfl, fun o ho => ?_⟩
    split
    · rename_i h'
      have := (hc (o - off) (by omega)).1
      rw [← this]; congr 1; omega
    · rfl
  exact Row.congr ((e.set 2 (.int .u64 (x : Int))).row h) (limbs_eq _ _ rfl rfl rfl rfl rfl)
theorem El.st3 {w : World} {b off : Nat} {L : L5} (h : El w b off L) (x : Nat) : El (w.setCell ⟨b, off + 3, none⟩ (.int .u64 (x : Int))) b off { L with l3 := x } := by
  have e : Wr w w b off 5 (limbV L) := by
    obtain ⟨cs, t, fr, hb, hc⟩ := h
    refine ⟨rfl, rfl, rfl, Nat.le_refl _, fun _ _ _ => rfl, cs, t, fr, cs, hb, hb, rfl, fun o ho => ?_⟩
    split
    · rename_i h'
      have := (hc (o - off) (by omega)).1
      rw [← this]; congr 1; omega
    · rfl
  exact Row.congr ((e.set 3 (.int .u64 (x : Int))).row h) (limbs_eq _ _ rfl rfl rfl rfl rfl)
theorem El.st4 {w : World} {b off : Nat} {L : L5} (h : El w b off L) (x : Nat) : El (w.setCell ⟨b, off + 4, none⟩ (.int .u64 (x : Int))) b off { L with l4 := x } := by
  have e : Wr w w b off 5 (limbV L) := by
    obtain ⟨cs, t, fr, hb, hc⟩ := h
    refine ⟨rfl, rfl, rfl, Nat.le_refl _, fun _ _ _ => rfl, cs, t, fr, cs, hb, hb, rfl, fun o ho => ?_⟩
    split
    · rename_i h'
      have := (hc (o - off) (by omega)).1
      rw [← this]; congr 1; omega
    · rfl
  exact Row.congr ((e.set 4 (.int .u64 (x : Int))).row h) (limbs_eq _ _ rfl rfl rfl rfl rfl)

/-- two blocks alone have turned -/
structure Two (b c : Nat) (w w' : World) : Prop where
  os : w'.os = w.os
  tape : w'.tape = w.tape
  output : w'.output = w.output
  size : w.heap.size = w'.heap.size
  block : ∀ k, k ≠ b → k ≠ c → w'.heap[k]? = w.heap[k]?
theorem Two.refl (b c : Nat) (w : World) : Two b c w w := ⟨rfl, rfl, rfl, rfl, fun _ _ _ => rfl⟩
theorem Two.setL {b c : Nat} {w w' : World} (h : Two b c w w') (o : Nat) (v : Value) : Two b c w (w'.setCell ⟨b, o, none⟩ v) :=
  ⟨h.os, h.tape, h.output, by rw [h.size]; simp [World.setCell], fun k hb hc => (Below.heap_setCell _ _ _ _ hb).trans (h.block k hb hc)⟩
theorem Two.setR {b c : Nat} {w w' : World} (h : Two b c w w') (o : Nat) (v : Value) : Two b c w (w'.setCell ⟨c, o, none⟩ v) :=
  ⟨h.os, h.tape, h.output, by rw [h.size]; simp [World.setCell], fun k hb hc => (Below.heap_setCell _ _ _ _ hc).trans (h.block k hb hc)⟩
theorem Two.drew {b c : Nat} {w w' : World} (h : Two b c w w') : Two b c w w'.drew := ⟨h.os, h.tape, h.output, h.size, h.block⟩
theorem Two.below {b c B : Nat} {w w' : World} (h : Two b c w w') (hb : B ≤ b) (hc : B ≤ c) : Below B w w' :=
  ⟨h.os, h.tape, h.output, Nat.le_of_eq h.size, fun k hk => h.block k (by omega) (by omega)⟩
theorem Two.other {b c : Nat} {w w' : World} (h : Two b c w w') {k : Nat} {o : Obj} (hk : w.heap[k]? = some o) (hb : k ≠ b) (hc : k ≠ c) : w'.heap[k]? = some o := (h.block k hb hc).trans hk

set_option maxRecDepth 100000 in
set_option maxHeartbeats 4000000 in
theorem swap_raw0 (vb vo ub uo a0 a1 a2 a3 a4 b0 b1 b2 b3 b4 : Nat) (ba0 : a0 < 18446744073709551616) (ba1 : a1 < 18446744073709551616) (ba2 : a2 < 18446744073709551616) (ba3 : a3 < 18446744073709551616) (ba4 : a4 < 18446744073709551616) (bb0 : b0 < 18446744073709551616) (bb1 : b1 < 18446744073709551616) (bb2 : b2 < 18446744073709551616) (bb3 : b3 < 18446744073709551616) (bb4 : b4 < 18446744073709551616) (hne : vb ≠ ub) (w : World) (hv : El w vb vo ⟨a0, a1, a2, a3, a4⟩) (hu : El w ub uo ⟨b0, b1, b2, b3, b4⟩) :
    Calls Tryd.prog 29 #[.pointer (some ⟨vb, vo, none⟩), .pointer (some ⟨ub, uo, none⟩), .int .i64 0] w fun e w' => e = .returned (.tuple #[]) ∧ El w' vb vo ⟨a0, a1, a2, a3, a4⟩ ∧ El w' ub uo ⟨b0, b1, b2, b3, b4⟩ ∧ Two vb ub w w' := by
  obtain ⟨x0, bx0, g0, r0, s0, m0, z0, y0, u0⟩ := xor_self_r a0 b0 ba0 bb0
  clear r0 s0 m0
  have G0 := Lib.hid g0; clear g0
  have Z0 := Lib.hid z0; clear z0
  have Y0 := Lib.hid y0; clear y0
  have U0 := Lib.hid u0; clear u0
  obtain ⟨x1, bx1, g1, r1, s1, m1, z1, y1, u1⟩ := xor_self_r a1 b1 ba1 bb1
  clear r1 s1 m1
  have G1 := Lib.hid g1; clear g1
  have Z1 := Lib.hid z1; clear z1
  have Y1 := Lib.hid y1; clear y1
  have U1 := Lib.hid u1; clear u1
  obtain ⟨x2, bx2, g2, r2, s2, m2, z2, y2, u2⟩ := xor_self_r a2 b2 ba2 bb2
  clear r2 s2 m2
  have G2 := Lib.hid g2; clear g2
  have Z2 := Lib.hid z2; clear z2
  have Y2 := Lib.hid y2; clear y2
  have U2 := Lib.hid u2; clear u2
  obtain ⟨x3, bx3, g3, r3, s3, m3, z3, y3, u3⟩ := xor_self_r a3 b3 ba3 bb3
  clear r3 s3 m3
  have G3 := Lib.hid g3; clear g3
  have Z3 := Lib.hid z3; clear z3
  have Y3 := Lib.hid y3; clear y3
  have U3 := Lib.hid u3; clear u3
  obtain ⟨x4, bx4, g4, r4, s4, m4, z4, y4, u4⟩ := xor_self_r a4 b4 ba4 bb4
  clear r4 s4 m4
  have G4 := Lib.hid g4; clear g4
  have Z4 := Lib.hid z4; clear z4
  have Y4 := Lib.hid y4; clear y4
  have U4 := Lib.hid u4; clear u4
  have hT := Lib.hid (Two.refl vb ub w)
  have HV := Lib.hid hv; have HU := Lib.hid hu; clear hv hu
  go_enter Tryd.func29, Tryd.ntmps29
  go_wp2_with fail
  refine (mask_0 _).mono ?_
  rintro e w' ⟨rfl, rfl⟩
  have c0 := El.c0 HV.out; have d0 := El.c0 HU.out; have f0 := El.f0 HV.out; have h0 := El.f0 HU.out
  have g0 := G0.out
  have z0 := Z0.out
  have y0 := Y0.out
  have u0 := U0.out
  go_wp2
  go_region
  go_upto_region 4 with (fail)
  refine wp_named ?_
  intro w1 e1
  replace HV : Hid (El w1 vb vo ⟨a0, a1, a2, a3, a4⟩) := Lib.hid (by rw [e1]; exact (El.other (El.st0 HV.out a0) hne))
  replace HU : Hid (El w1 ub uo ⟨b0, b1, b2, b3, b4⟩) := Lib.hid (by rw [e1]; exact (El.st0 (El.other HU.out (Ne.symm hne)) b0))
  replace hT : Hid (Two vb ub w w1) := Lib.hid (by rw [e1]; exact ((hT.out.setL _ _).setR _ _).drew)
  clear e1 c0 d0 f0 h0 g0 z0 y0 u0
  have c1 := El.c1 HV.out; have d1 := El.c1 HU.out; have f1 := El.f1 HV.out; have h1 := El.f1 HU.out
  have g1 := G1.out
  have z1 := Z1.out
  have y1 := Y1.out
  have u1 := U1.out
  go_wp2
  go_region
  go_upto_region 7 with (fail)
  refine wp_named ?_
  intro w2 e2
  replace HV : Hid (El w2 vb vo ⟨a0, a1, a2, a3, a4⟩) := Lib.hid (by rw [e2]; exact (El.other (El.st1 HV.out a1) hne))
  replace HU : Hid (El w2 ub uo ⟨b0, b1, b2, b3, b4⟩) := Lib.hid (by rw [e2]; exact (El.st1 (El.other HU.out (Ne.symm hne)) b1))
  replace hT : Hid (Two vb ub w w2) := Lib.hid (by rw [e2]; exact ((hT.out.setL _ _).setR _ _).drew)
  clear e2 c1 d1 f1 h1 g1 z1 y1 u1
  have c2 := El.c2 HV.out; have d2 := El.c2 HU.out; have f2 := El.f2 HV.out; have h2 := El.f2 HU.out
  have g2 := G2.out
  have z2 := Z2.out
  have y2 := Y2.out
  have u2 := U2.out
  go_wp2
  go_region
  go_upto_region 10 with (fail)
  refine wp_named ?_
  intro w3 e3
  replace HV : Hid (El w3 vb vo ⟨a0, a1, a2, a3, a4⟩) := Lib.hid (by rw [e3]; exact (El.other (El.st2 HV.out a2) hne))
  replace HU : Hid (El w3 ub uo ⟨b0, b1, b2, b3, b4⟩) := Lib.hid (by rw [e3]; exact (El.st2 (El.other HU.out (Ne.symm hne)) b2))
  replace hT : Hid (Two vb ub w w3) := Lib.hid (by rw [e3]; exact ((hT.out.setL _ _).setR _ _).drew)
  clear e3 c2 d2 f2 h2 g2 z2 y2 u2
  have c3 := El.c3 HV.out; have d3 := El.c3 HU.out; have f3 := El.f3 HV.out; have h3 := El.f3 HU.out
  have g3 := G3.out
  have z3 := Z3.out
  have y3 := Y3.out
  have u3 := U3.out
  go_wp2
  go_region
  go_upto_region 13 with (fail)
  refine wp_named ?_
  intro w4 e4
  replace HV : Hid (El w4 vb vo ⟨a0, a1, a2, a3, a4⟩) := Lib.hid (by rw [e4]; exact (El.other (El.st3 HV.out a3) hne))
  replace HU : Hid (El w4 ub uo ⟨b0, b1, b2, b3, b4⟩) := Lib.hid (by rw [e4]; exact (El.st3 (El.other HU.out (Ne.symm hne)) b3))
  replace hT : Hid (Two vb ub w w4) := Lib.hid (by rw [e4]; exact ((hT.out.setL _ _).setR _ _).drew)
  clear e4 c3 d3 f3 h3 g3 z3 y3 u3
  have c4 := El.c4 HV.out; have d4 := El.c4 HU.out; have f4 := El.f4 HV.out; have h4 := El.f4 HU.out
  have g4 := G4.out
  have z4 := Z4.out
  have y4 := Y4.out
  have u4 := U4.out
  go_wp2
  go_region
  go_wp2
  go_end0
  exact ⟨rfl, (El.other (El.st4 HV.out a4) hne), (El.st4 (El.other HU.out (Ne.symm hne)) b4), ((hT.out.setL _ _).setR _ _).drew⟩

set_option maxRecDepth 100000 in
set_option maxHeartbeats 4000000 in
theorem swap_raw1 (vb vo ub uo a0 a1 a2 a3 a4 b0 b1 b2 b3 b4 : Nat) (ba0 : a0 < 18446744073709551616) (ba1 : a1 < 18446744073709551616) (ba2 : a2 < 18446744073709551616) (ba3 : a3 < 18446744073709551616) (ba4 : a4 < 18446744073709551616) (bb0 : b0 < 18446744073709551616) (bb1 : b1 < 18446744073709551616) (bb2 : b2 < 18446744073709551616) (bb3 : b3 < 18446744073709551616) (bb4 : b4 < 18446744073709551616) (hne : vb ≠ ub) (w : World) (hv : El w vb vo ⟨a0, a1, a2, a3, a4⟩) (hu : El w ub uo ⟨b0, b1, b2, b3, b4⟩) :
    Calls Tryd.prog 29 #[.pointer (some ⟨vb, vo, none⟩), .pointer (some ⟨ub, uo, none⟩), .int .i64 1] w fun e w' => e = .returned (.tuple #[]) ∧ El w' vb vo ⟨b0, b1, b2, b3, b4⟩ ∧ El w' ub uo ⟨a0, a1, a2, a3, a4⟩ ∧ Two vb ub w w' := by
  obtain ⟨x0, bx0, g0, r0, s0, m0, z0, y0, u0⟩ := xor_self_r a0 b0 ba0 bb0
  clear z0 y0 u0
  have G0 := Lib.hid g0; clear g0
  have R0 := Lib.hid r0; clear r0
  have S0 := Lib.hid s0; clear s0
  have M0 := Lib.hid m0; clear m0
  obtain ⟨x1, bx1, g1, r1, s1, m1, z1, y1, u1⟩ := xor_self_r a1 b1 ba1 bb1
  clear z1 y1 u1
  have G1 := Lib.hid g1; clear g1
  have R1 := Lib.hid r1; clear r1
  have S1 := Lib.hid s1; clear s1
  have M1 := Lib.hid m1; clear m1
  obtain ⟨x2, bx2, g2, r2, s2, m2, z2, y2, u2⟩ := xor_self_r a2 b2 ba2 bb2
  clear z2 y2 u2
  have G2 := Lib.hid g2; clear g2
  have R2 := Lib.hid r2; clear r2
  have S2 := Lib.hid s2; clear s2
  have M2 := Lib.hid m2; clear m2
  obtain ⟨x3, bx3, g3, r3, s3, m3, z3, y3, u3⟩ := xor_self_r a3 b3 ba3 bb3
  clear z3 y3 u3
  have G3 := Lib.hid g3; clear g3
  have R3 := Lib.hid r3; clear r3
  have S3 := Lib.hid s3; clear s3
  have M3 := Lib.hid m3; clear m3
  obtain ⟨x4, bx4, g4, r4, s4, m4, z4, y4, u4⟩ := xor_self_r a4 b4 ba4 bb4
  clear z4 y4 u4
  have G4 := Lib.hid g4; clear g4
  have R4 := Lib.hid r4; clear r4
  have S4 := Lib.hid s4; clear s4
  have M4 := Lib.hid m4; clear m4
  have hT := Lib.hid (Two.refl vb ub w)
  have HV := Lib.hid hv; have HU := Lib.hid hu; clear hv hu
  go_enter Tryd.func29, Tryd.ntmps29
  go_wp2_with fail
  refine (mask_1 _).mono ?_
  rintro e w' ⟨rfl, rfl⟩
  have c0 := El.c0 HV.out; have d0 := El.c0 HU.out; have f0 := El.f0 HV.out; have h0 := El.f0 HU.out
  have g0 := G0.out
  have r0 := R0.out
  have s0 := S0.out
  have m0 := M0.out
  go_wp2
  go_region
  go_upto_region 4 with (fail)
  refine wp_named ?_
  intro w1 e1
  replace HV : Hid (El w1 vb vo ⟨b0, a1, a2, a3, a4⟩) := Lib.hid (by rw [e1]; exact (El.other (El.st0 HV.out b0) hne))
  replace HU : Hid (El w1 ub uo ⟨a0, b1, b2, b3, b4⟩) := Lib.hid (by rw [e1]; exact (El.st0 (El.other HU.out (Ne.symm hne)) a0))
  replace hT : Hid (Two vb ub w w1) := Lib.hid (by rw [e1]; exact ((hT.out.setL _ _).setR _ _).drew)
  clear e1 c0 d0 f0 h0 g0 r0 s0 m0
  have c1 := El.c1 HV.out; have d1 := El.c1 HU.out; have f1 := El.f1 HV.out; have h1 := El.f1 HU.out
  have g1 := G1.out
  have r1 := R1.out
  have s1 := S1.out
  have m1 := M1.out
  go_wp2
  go_region
  go_upto_region 7 with (fail)
  refine wp_named ?_
  intro w2 e2
  replace HV : Hid (El w2 vb vo ⟨b0, b1, a2, a3, a4⟩) := Lib.hid (by rw [e2]; exact (El.other (El.st1 HV.out b1) hne))
  replace HU : Hid (El w2 ub uo ⟨a0, a1, b2, b3, b4⟩) := Lib.hid (by rw [e2]; exact (El.st1 (El.other HU.out (Ne.symm hne)) a1))
  replace hT : Hid (Two vb ub w w2) := Lib.hid (by rw [e2]; exact ((hT.out.setL _ _).setR _ _).drew)
  clear e2 c1 d1 f1 h1 g1 r1 s1 m1
  have c2 := El.c2 HV.out; have d2 := El.c2 HU.out; have f2 := El.f2 HV.out; have h2 := El.f2 HU.out
  have g2 := G2.out
  have r2 := R2.out
  have s2 := S2.out
  have m2 := M2.out
  go_wp2
  go_region
  go_upto_region 10 with (fail)
  refine wp_named ?_
  intro w3 e3
  replace HV : Hid (El w3 vb vo ⟨b0, b1, b2, a3, a4⟩) := Lib.hid (by rw [e3]; exact (El.other (El.st2 HV.out b2) hne))
  replace HU : Hid (El w3 ub uo ⟨a0, a1, a2, b3, b4⟩) := Lib.hid (by rw [e3]; exact (El.st2 (El.other HU.out (Ne.symm hne)) a2))
  replace hT : Hid (Two vb ub w w3) := Lib.hid (by rw [e3]; exact ((hT.out.setL _ _).setR _ _).drew)
  clear e3 c2 d2 f2 h2 g2 r2 s2 m2
  have c3 := El.c3 HV.out; have d3 := El.c3 HU.out; have f3 := El.f3 HV.out; have h3 := El.f3 HU.out
  have g3 := G3.out
  have r3 := R3.out
  have s3 := S3.out
  have m3 := M3.out
  go_wp2
  go_region
  go_upto_region 13 with (fail)
  refine wp_named ?_
  intro w4 e4
  replace HV : Hid (El w4 vb vo ⟨b0, b1, b2, b3, a4⟩) := Lib.hid (by rw [e4]; exact (El.other (El.st3 HV.out b3) hne))
  replace HU : Hid (El w4 ub uo ⟨a0, a1, a2, a3, b4⟩) := Lib.hid (by rw [e4]; exact (El.st3 (El.other HU.out (Ne.symm hne)) a3))
  replace hT : Hid (Two vb ub w w4) := Lib.hid (by rw [e4]; exact ((hT.out.setL _ _).setR _ _).drew)
  clear e4 c3 d3 f3 h3 g3 r3 s3 m3
  have c4 := El.c4 HV.out; have d4 := El.c4 HU.out; have f4 := El.f4 HV.out; have h4 := El.f4 HU.out
  have g4 := G4.out
  have r4 := R4.out
  have s4 := S4.out
  have m4 := M4.out
  go_wp2
  go_region
  go_wp2
  go_end0
  exact ⟨rfl, (El.other (El.st4 HV.out b4) hne), (El.st4 (El.other HU.out (Ne.symm hne)) a4), ((hT.out.setL _ _).setR _ _).drew⟩

theorem swap_fe0 (vb vo ub uo x y : Nat) (hne : vb ≠ ub) (w : World) (hv : Fe w vb vo x) (hu : Fe w ub uo y) :
    Calls Tryd.prog 29 #[.pointer (some ⟨vb, vo, none⟩), .pointer (some ⟨ub, uo, none⟩), .int .i64 0] w fun e w' => e = .returned (.tuple #[]) ∧ Fe w' vb vo x ∧ Fe w' ub uo y ∧ Two vb ub w w' := by
  obtain ⟨⟨a0, a1, a2, a3, a4⟩, hA, hp, hx⟩ := hv
  obtain ⟨⟨b0, b1, b2, b3, b4⟩, hB, hq, hy⟩ := hu
  have hp' := hp; have hq' := hq
  obtain ⟨p0, p1, p2, p3, p4⟩ := hp'
  obtain ⟨q0, q1, q2, q3, q4⟩ := hq'
  simp only at p0 p1 p2 p3 p4 q0 q1 q2 q3 q4
  refine (swap_raw0 vb vo ub uo a0 a1 a2 a3 a4 b0 b1 b2 b3 b4 (by omega) (by omega) (by omega) (by omega) (by omega) (by omega) (by omega) (by omega) (by omega) (by omega) hne w hA hB).mono ?_
  rintro e w1 ⟨rfl, h1, h2, h3⟩
  exact ⟨rfl, ⟨_, h1, hp, hx⟩, ⟨_, h2, hq, hy⟩, h3⟩
theorem swap_fe1 (vb vo ub uo x y : Nat) (hne : vb ≠ ub) (w : World) (hv : Fe w vb vo x) (hu : Fe w ub uo y) :
    Calls Tryd.prog 29 #[.pointer (some ⟨vb, vo, none⟩), .pointer (some ⟨ub, uo, none⟩), .int .i64 1] w fun e w' => e = .returned (.tuple #[]) ∧ Fe w' vb vo y ∧ Fe w' ub uo x ∧ Two vb ub w w' := by
  obtain ⟨⟨a0, a1, a2, a3, a4⟩, hA, hp, hx⟩ := hv
  obtain ⟨⟨b0, b1, b2, b3, b4⟩, hB, hq, hy⟩ := hu
  have hp' := hp; have hq' := hq
  obtain ⟨p0, p1, p2, p3, p4⟩ := hp'
  obtain ⟨q0, q1, q2, q3, q4⟩ := hq'
  simp only at p0 p1 p2 p3 p4 q0 q1 q2 q3 q4
  refine (swap_raw1 vb vo ub uo a0 a1 a2 a3 a4 b0 b1 b2 b3 b4 (by omega) (by omega) (by omega) (by omega) (by omega) (by omega) (by omega) (by omega) (by omega) (by omega) hne w hA hB).mono ?_
  rintro e w1 ⟨rfl, h1, h2, h3⟩
  exact ⟨rfl, ⟨_, h1, hq, hy⟩, ⟨_, h2, hp, hx⟩, h3⟩
end Go.Proofs.YtemgflkecflhmaaDoor
