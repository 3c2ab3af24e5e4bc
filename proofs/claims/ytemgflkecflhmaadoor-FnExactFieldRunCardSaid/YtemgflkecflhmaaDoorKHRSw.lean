/- Element.Swap of an element with itself. -/
import Derived.Test.YtemgflkecflhmaaDoorKHUSW
import Derived.Test.YtemgflkecflhmaaDoorKL2
set_option maxRecDepth 4000
set_option linter.unusedSimpArgs false
set_option linter.unusedVariables false
namespace Go.Proofs.YtemgflkecflhmaaDoor
open Go.RowKit
theorem xor_same (a : Nat) (ha : a < 18446744073709551616) : bits .xor .u64 (a : Int) (a : Int) = 0 ∧ bits .xor .u64 (a : Int) 0 = (a : Int) := by
  have key : ∀ u v : Nat, u < 18446744073709551616 → v < 18446744073709551616 → bits .xor .u64 (u : Int) (v : Int) = ((u ^^^ v : Nat) : Int) := by
    intro u v hu hv
    have h1 : (BitVec.ofInt 64 (u : Int)).toNat = u := by rw [BitVec.ofInt_natCast, BitVec.toNat_ofNat]; exact Nat.mod_eq_of_lt (by omega)
    have h2 : (BitVec.ofInt 64 (v : Int)).toNat = v := by rw [BitVec.ofInt_natCast, BitVec.toNat_ofNat]; exact Nat.mod_eq_of_lt (by omega)
    show IntKind.u64.wrap ((BitVec.ofInt 64 (u : Int) ^^^ BitVec.ofInt 64 (v : Int)).toNat : Int) = _
    rw [BitVec.toNat_xor, h1, h2, IntKind.wrap_u64]
    have := Nat.xor_lt_two_pow (n := 64) (x := u) (y := v) (by omega) (by omega)
    omega
  have h1 := key a a ha ha
  have h2 := key a 0 ha (by omega)
  rw [Nat.xor_self] at h1
  rw [Nat.xor_zero] at h2
  exact ⟨h1, h2⟩
theorem and_same (M : Nat) (hM : M < 18446744073709551616) : bits .and .u64 (M : Int) 0 = 0 := by
  have h := bits_and_u64_nat M 0 hM (by omega)
  rw [Nat.and_zero] at h
  exact h
set_option maxRecDepth 100000 in
set_option maxHeartbeats 4000000 in
theorem swap_self_raw0 (vb vo a0 a1 a2 a3 a4 : Nat) (ba0 : a0 < 18446744073709551616) (ba1 : a1 < 18446744073709551616) (ba2 : a2 < 18446744073709551616) (ba3 : a3 < 18446744073709551616) (ba4 : a4 < 18446744073709551616) (w : World) (hv : El w vb vo ⟨a0, a1, a2, a3, a4⟩) :
    Calls Tryd.prog 29 #[.pointer (some ⟨vb, vo, none⟩), .pointer (some ⟨vb, vo, none⟩), .int .i64 0] w fun e w' => e = .returned (.tuple #[]) ∧ El w' vb vo ⟨a0, a1, a2, a3, a4⟩ ∧ Two vb vb w w' := by
  obtain ⟨g0, u0⟩ := xor_same a0 ba0
  have G0 := Lib.hid g0; have U0 := Lib.hid u0; clear g0 u0
  obtain ⟨g1, u1⟩ := xor_same a1 ba1
  have G1 := Lib.hid g1; have U1 := Lib.hid u1; clear g1 u1
  obtain ⟨g2, u2⟩ := xor_same a2 ba2
  have G2 := Lib.hid g2; have U2 := Lib.hid u2; clear g2 u2
  obtain ⟨g3, u3⟩ := xor_same a3 ba3
  have G3 := Lib.hid g3; have U3 := Lib.hid u3; clear g3 u3
  obtain ⟨g4, u4⟩ := xor_same a4 ba4
  have G4 := Lib.hid g4; have U4 := Lib.hid u4; clear g4 u4
  have Z : Hid (bits .and .u64 0 0 = 0) := Lib.hid (and_same 0 (by omega))
  have hT := Lib.hid (Two.refl vb vb w)
  have HV := Lib.hid hv; clear hv
  go_enter Tryd.func29, Tryd.ntmps29
  go_wp2_with fail
  refine (mask_0 _).mono ?_
  rintro e w' ⟨rfl, rfl⟩
  have c0 := El.c0 HV.out; have f0 := El.f0 HV.out
  have g0 := G0.out; have z0 := Z.out; have u0 := U0.out
  go_wp2
  go_region
  go_upto_region 4 with (fail)
  refine wp_named ?_
  intro w1 e1
  replace HV : Hid (El w1 vb vo ⟨a0, a1, a2, a3, a4⟩) := Lib.hid (by rw [e1]; exact (El.st0 (El.st0 HV.out a0) a0))
  replace hT : Hid (Two vb vb w w1) := Lib.hid (by rw [e1]; exact ((hT.out.setL _ _).setL _ _).drew)
  clear e1 c0 f0 g0 z0 u0
  have c1 := El.c1 HV.out; have f1 := El.f1 HV.out
  have g1 := G1.out; have z1 := Z.out; have u1 := U1.out
  go_wp2
  go_region
  go_upto_region 7 with (fail)
  refine wp_named ?_
  intro w2 e2
  replace HV : Hid (El w2 vb vo ⟨a0, a1, a2, a3, a4⟩) := Lib.hid (by rw [e2]; exact (El.st1 (El.st1 HV.out a1) a1))
  replace hT : Hid (Two vb vb w w2) := Lib.hid (by rw [e2]; exact ((hT.out.setL _ _).setL _ _).drew)
  clear e2 c1 f1 g1 z1 u1
  have c2 := El.c2 HV.out; have f2 := El.f2 HV.out
  have g2 := G2.out; have z2 := Z.out; have u2 := U2.out
  go_wp2
  go_region
  go_upto_region 10 with (fail)
  refine wp_named ?_
  intro w3 e3
  replace HV : Hid (El w3 vb vo ⟨a0, a1, a2, a3, a4⟩) := Lib.hid (by rw [e3]; exact (El.st2 (El.st2 HV.out a2) a2))
  replace hT : Hid (Two vb vb w w3) := Lib.hid (by rw [e3]; exact ((hT.out.setL _ _).setL _ _).drew)
  clear e3 c2 f2 g2 z2 u2
  have c3 := El.c3 HV.out; have f3 := El.f3 HV.out
  have g3 := G3.out; have z3 := Z.out; have u3 := U3.out
  go_wp2
  go_region
  go_upto_region 13 with (fail)
  refine wp_named ?_
  intro w4 e4
  replace HV : Hid (El w4 vb vo ⟨a0, a1, a2, a3, a4⟩) := Lib.hid (by rw [e4]; exact (El.st3 (El.st3 HV.out a3) a3))
  replace hT : Hid (Two vb vb w w4) := Lib.hid (by rw [e4]; exact ((hT.out.setL _ _).setL _ _).drew)
  clear e4 c3 f3 g3 z3 u3
  have c4 := El.c4 HV.out; have f4 := El.f4 HV.out
  have g4 := G4.out; have z4 := Z.out; have u4 := U4.out
  go_wp2
  go_region
  go_wp2
  go_end0
  exact ⟨rfl, (El.st4 (El.st4 HV.out a4) a4), ((hT.out.setL _ _).setL _ _).drew⟩
theorem swap_self0 (vb vo x : Nat) (w : World) (hv : Fe w vb vo x) :
    Calls Tryd.prog 29 #[.pointer (some ⟨vb, vo, none⟩), .pointer (some ⟨vb, vo, none⟩), .int .i64 0] w fun e w' => e = .returned (.tuple #[]) ∧ Fe w' vb vo x ∧ Two vb vb w w' := by
  obtain ⟨⟨a0, a1, a2, a3, a4⟩, hA, hp, hx⟩ := hv
  have hp' := hp
  obtain ⟨p0, p1, p2, p3, p4⟩ := hp'
  simp only at p0 p1 p2 p3 p4
  refine (swap_self_raw0 vb vo a0 a1 a2 a3 a4 (by omega) (by omega) (by omega) (by omega) (by omega) w hA).mono ?_
  rintro e w1 ⟨rfl, h1, h3⟩
  exact ⟨rfl, ⟨_, h1, hp, hx⟩, h3⟩
set_option maxRecDepth 100000 in
set_option maxHeartbeats 4000000 in
theorem swap_self_raw1 (vb vo a0 a1 a2 a3 a4 : Nat) (ba0 : a0 < 18446744073709551616) (ba1 : a1 < 18446744073709551616) (ba2 : a2 < 18446744073709551616) (ba3 : a3 < 18446744073709551616) (ba4 : a4 < 18446744073709551616) (w : World) (hv : El w vb vo ⟨a0, a1, a2, a3, a4⟩) :
    Calls Tryd.prog 29 #[.pointer (some ⟨vb, vo, none⟩), .pointer (some ⟨vb, vo, none⟩), .int .i64 1] w fun e w' => e = .returned (.tuple #[]) ∧ El w' vb vo ⟨a0, a1, a2, a3, a4⟩ ∧ Two vb vb w w' := by
  obtain ⟨g0, u0⟩ := xor_same a0 ba0
  have G0 := Lib.hid g0; have U0 := Lib.hid u0; clear g0 u0
  obtain ⟨g1, u1⟩ := xor_same a1 ba1
  have G1 := Lib.hid g1; have U1 := Lib.hid u1; clear g1 u1
  obtain ⟨g2, u2⟩ := xor_same a2 ba2
  have G2 := Lib.hid g2; have U2 := Lib.hid u2; clear g2 u2
  obtain ⟨g3, u3⟩ := xor_same a3 ba3
  have G3 := Lib.hid g3; have U3 := Lib.hid u3; clear g3 u3
  obtain ⟨g4, u4⟩ := xor_same a4 ba4
  have G4 := Lib.hid g4; have U4 := Lib.hid u4; clear g4 u4
  have Z : Hid (bits .and .u64 18446744073709551615 0 = 0) := Lib.hid (and_same 18446744073709551615 (by omega))
  have hT := Lib.hid (Two.refl vb vb w)
  have HV := Lib.hid hv; clear hv
  go_enter Tryd.func29, Tryd.ntmps29
  go_wp2_with fail
  refine (mask_1 _).mono ?_
  rintro e w' ⟨rfl, rfl⟩
  have c0 := El.c0 HV.out; have f0 := El.f0 HV.out
  have g0 := G0.out; have z0 := Z.out; have u0 := U0.out
  go_wp2
  go_region
  go_upto_region 4 with (fail)
  refine wp_named ?_
  intro w1 e1
  replace HV : Hid (El w1 vb vo ⟨a0, a1, a2, a3, a4⟩) := Lib.hid (by rw [e1]; exact (El.st0 (El.st0 HV.out a0) a0))
  replace hT : Hid (Two vb vb w w1) := Lib.hid (by rw [e1]; exact ((hT.out.setL _ _).setL _ _).drew)
  clear e1 c0 f0 g0 z0 u0
  have c1 := El.c1 HV.out; have f1 := El.f1 HV.out
  have g1 := G1.out; have z1 := Z.out; have u1 := U1.out
  go_wp2
  go_region
  go_upto_region 7 with (fail)
  refine wp_named ?_
  intro w2 e2
  replace HV : Hid (El w2 vb vo ⟨a0, a1, a2, a3, a4⟩) := Lib.hid (by rw [e2]; exact (El.st1 (El.st1 HV.out a1) a1))
  replace hT : Hid (Two vb vb w w2) := Lib.hid (by rw [e2]; exact ((hT.out.setL _ _).setL _ _).drew)
  clear e2 c1 f1 g1 z1 u1
  have c2 := El.c2 HV.out; have f2 := El.f2 HV.out
  have g2 := G2.out; have z2 := Z.out; have u2 := U2.out
  go_wp2
  go_region
  go_upto_region 10 with (fail)
  refine wp_named ?_
  intro w3 e3
  replace HV : Hid (El w3 vb vo ⟨a0, a1, a2, a3, a4⟩) := Lib.hid (by rw [e3]; exact (El.st2 (El.st2 HV.out a2) a2))
  replace hT : Hid (Two vb vb w w3) := Lib.hid (by rw [e3]; exact ((hT.out.setL _ _).setL _ _).drew)
  clear e3 c2 f2 g2 z2 u2
  have c3 := El.c3 HV.out; have f3 := El.f3 HV.out
  have g3 := G3.out; have z3 := Z.out; have u3 := U3.out
  go_wp2
  go_region
  go_upto_region 13 with (fail)
  refine wp_named ?_
  intro w4 e4
  replace HV : Hid (El w4 vb vo ⟨a0, a1, a2, a3, a4⟩) := Lib.hid (by rw [e4]; exact (El.st3 (El.st3 HV.out a3) a3))
  replace hT : Hid (Two vb vb w w4) := Lib.hid (by rw [e4]; exact ((hT.out.setL _ _).setL _ _).drew)
  clear e4 c3 f3 g3 z3 u3
  have c4 := El.c4 HV.out; have f4 := El.f4 HV.out
  have g4 := G4.out; have z4 := Z.out; have u4 := U4.out
  go_wp2
  go_region
  go_wp2
  go_end0
  exact ⟨rfl, (El.st4 (El.st4 HV.out a4) a4), ((hT.out.setL _ _).setL _ _).drew⟩
theorem swap_self1 (vb vo x : Nat) (w : World) (hv : Fe w vb vo x) :
    Calls Tryd.prog 29 #[.pointer (some ⟨vb, vo, none⟩), .pointer (some ⟨vb, vo, none⟩), .int .i64 1] w fun e w' => e = .returned (.tuple #[]) ∧ Fe w' vb vo x ∧ Two vb vb w w' := by
  obtain ⟨⟨a0, a1, a2, a3, a4⟩, hA, hp, hx⟩ := hv
  have hp' := hp
  obtain ⟨p0, p1, p2, p3, p4⟩ := hp'
  simp only at p0 p1 p2 p3 p4
  refine (swap_self_raw1 vb vo a0 a1 a2 a3 a4 (by omega) (by omega) (by omega) (by omega) (by omega) w hA).mono ?_
  rintro e w1 ⟨rfl, h1, h3⟩
  exact ⟨rfl, ⟨_, h1, hp, hx⟩, h3⟩
end Go.Proofs.YtemgflkecflhmaaDoor
