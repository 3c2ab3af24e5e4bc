/- Select. -/
import Derived.Deep.DeepCutAuto
import Derived.Test.YtemgflkecflhmaaDoorKL1
import Derived.Test.YtemgflkecflhmaaDoorKL2
set_option maxRecDepth 4000
set_option linter.unusedSimpArgs false
set_option linter.unusedVariables false
namespace Go.Proofs.YtemgflkecflhmaaDoor
open Go.RowKit


theorem and_all (a : Nat) (ha : a < 18446744073709551616) : bits .and .u64 18446744073709551615 (a : Int) = (a : Int) := by
  have h := bits_and_u64_nat 18446744073709551615 a (by omega) ha
  have e : 18446744073709551615 &&& a = a := by
    rw [Nat.and_comm]
    have := Nat.and_two_pow_sub_one_eq_mod a 64
    rw [show (18446744073709551615 : Nat) = 2 ^ 64 - 1 by decide, this]
    exact Nat.mod_eq_of_lt (by omega)
  rw [e] at h
  exact h
theorem and_none (a : Nat) (ha : a < 18446744073709551616) : bits .and .u64 0 (a : Int) = 0 := by
  have h := bits_and_u64_nat 0 a (by omega) ha
  rw [Nat.zero_and] at h
  exact h
theorem or_zero (a : Nat) (ha : a < 18446744073709551616) : bits .or .u64 (a : Int) 0 = (a : Int) := by
  have h := bits_or_u64_nat a 0 ha (by omega)
  rw [Nat.or_zero] at h
  exact h
theorem zero_or (a : Nat) (ha : a < 18446744073709551616) : bits .or .u64 0 (a : Int) = (a : Int) := by
  have h := bits_or_u64_nat 0 a (by omega) ha
  rw [Nat.zero_or] at h
  exact h

set_option maxRecDepth 100000 in
set_option maxHeartbeats 4000000 in
theorem select_raw0 (vb vo ab ao bb bo a0 a1 a2 a3 a4 b0 b1 b2 b3 b4 : Nat) (vs : Nat → Value) (ba0 : a0 < 18446744073709551616) (ba1 : a1 < 18446744073709551616) (ba2 : a2 < 18446744073709551616) (ba3 : a3 < 18446744073709551616) (ba4 : a4 < 18446744073709551616) (bb0 : b0 < 18446744073709551616) (bb1 : b1 < 18446744073709551616) (bb2 : b2 < 18446744073709551616) (bb3 : b3 < 18446744073709551616) (bb4 : b4 < 18446744073709551616) (dA : Apart vb vo ab ao) (dB : Apart vb vo bb bo) (w : World) (hv : Row w vb vo 5 vs) (ha0 : w.cell? ⟨ab, ao, none⟩ = some (.int .u64 (a0 : Int))) (ha1 : w.cell? ⟨ab, ao + 1, none⟩ = some (.int .u64 (a1 : Int))) (ha2 : w.cell? ⟨ab, ao + 2, none⟩ = some (.int .u64 (a2 : Int))) (ha3 : w.cell? ⟨ab, ao + 3, none⟩ = some (.int .u64 (a3 : Int))) (ha4 : w.cell? ⟨ab, ao + 4, none⟩ = some (.int .u64 (a4 : Int))) (hb0 : w.cell? ⟨bb, bo, none⟩ = some (.int .u64 (b0 : Int))) (hb1 : w.cell? ⟨bb, bo + 1, none⟩ = some (.int .u64 (b1 : Int))) (hb2 : w.cell? ⟨bb, bo + 2, none⟩ = some (.int .u64 (b2 : Int))) (hb3 : w.cell? ⟨bb, bo + 3, none⟩ = some (.int .u64 (b3 : Int))) (hb4 : w.cell? ⟨bb, bo + 4, none⟩ = some (.int .u64 (b4 : Int))) :
    Calls Tryd.prog 28 #[.pointer (some ⟨vb, vo, none⟩), .pointer (some ⟨ab, ao, none⟩), .pointer (some ⟨bb, bo, none⟩), .int .i64 0] w fun e w' => e = .returned (.pointer (some ⟨vb, vo, none⟩)) ∧ Wr w w' vb vo 5 (limbV ⟨b0, b1, b2, b3, b4⟩) := by
  have hW := Lib.hid (Wr.start hv)
  have HV := Lib.hid hv; clear hv
  have HA0 := Lib.hid ha0; have HB0 := Lib.hid hb0; clear ha0 hb0
  have HA1 := Lib.hid ha1; have HB1 := Lib.hid hb1; clear ha1 hb1
  have HA2 := Lib.hid ha2; have HB2 := Lib.hid hb2; clear ha2 hb2
  have HA3 := Lib.hid ha3; have HB3 := Lib.hid hb3; clear ha3 hb3
  have HA4 := Lib.hid ha4; have HB4 := Lib.hid hb4; clear ha4 hb4
  have hnot : bits .xor .u64 (if IntKind.u64.signed = true then -1 else IntKind.u64.max) 0 = 18446744073709551615 := by kernel_rfl
  go_enter Tryd.func28, Tryd.ntmps28
  go_wp2_with fail
  refine (mask_0 _).mono ?_
  rintro e w' ⟨rfl, rfl⟩
  have c0 := HA0.out; have d0 := HB0.out; have f0 := (hW.out.row HV.out).frozen (i := 0) (by omega); have g0 := (hW.out.row HV.out).cell (i := 0) (by omega)
  rw [Nat.add_zero] at f0 g0
  have m0 := and_none a0 ba0; have n0 := and_all b0 bb0; have o0 := zero_or b0 bb0
  go_wp2
  go_region
  go_upto_region 3 with (fail)
  refine wp_named ?_
  intro w1 e1
  replace HA1 : Hid (w1.cell? ⟨ab, ao + 1, none⟩ = some (.int .u64 (a1 : Int))) := Lib.hid (by rw [e1]; exact (World.cell?_setCell_other w ⟨vb, vo, none⟩ ⟨ab, ao + 1, none⟩ (.int .u64 (b0 : Int)) (apart_ne dA 0 1 (by decide) (by decide) (by decide))).trans HA1.out)
  replace HB1 : Hid (w1.cell? ⟨bb, bo + 1, none⟩ = some (.int .u64 (b1 : Int))) := Lib.hid (by rw [e1]; exact (World.cell?_setCell_other w ⟨vb, vo, none⟩ ⟨bb, bo + 1, none⟩ (.int .u64 (b0 : Int)) (apart_ne dB 0 1 (by decide) (by decide) (by decide))).trans HB1.out)
  replace HA2 : Hid (w1.cell? ⟨ab, ao + 2, none⟩ = some (.int .u64 (a2 : Int))) := Lib.hid (by rw [e1]; exact (World.cell?_setCell_other w ⟨vb, vo, none⟩ ⟨ab, ao + 2, none⟩ (.int .u64 (b0 : Int)) (apart_ne dA 0 2 (by decide) (by decide) (by decide))).trans HA2.out)
  replace HB2 : Hid (w1.cell? ⟨bb, bo + 2, none⟩ = some (.int .u64 (b2 : Int))) := Lib.hid (by rw [e1]; exact (World.cell?_setCell_other w ⟨vb, vo, none⟩ ⟨bb, bo + 2, none⟩ (.int .u64 (b0 : Int)) (apart_ne dB 0 2 (by decide) (by decide) (by decide))).trans HB2.out)
  replace HA3 : Hid (w1.cell? ⟨ab, ao + 3, none⟩ = some (.int .u64 (a3 : Int))) := Lib.hid (by rw [e1]; exact (World.cell?_setCell_other w ⟨vb, vo, none⟩ ⟨ab, ao + 3, none⟩ (.int .u64 (b0 : Int)) (apart_ne dA 0 3 (by decide) (by decide) (by decide))).trans HA3.out)
  replace HB3 : Hid (w1.cell? ⟨bb, bo + 3, none⟩ = some (.int .u64 (b3 : Int))) := Lib.hid (by rw [e1]; exact (World.cell?_setCell_other w ⟨vb, vo, none⟩ ⟨bb, bo + 3, none⟩ (.int .u64 (b0 : Int)) (apart_ne dB 0 3 (by decide) (by decide) (by decide))).trans HB3.out)
  replace HA4 : Hid (w1.cell? ⟨ab, ao + 4, none⟩ = some (.int .u64 (a4 : Int))) := Lib.hid (by rw [e1]; exact (World.cell?_setCell_other w ⟨vb, vo, none⟩ ⟨ab, ao + 4, none⟩ (.int .u64 (b0 : Int)) (apart_ne dA 0 4 (by decide) (by decide) (by decide))).trans HA4.out)
  replace HB4 : Hid (w1.cell? ⟨bb, bo + 4, none⟩ = some (.int .u64 (b4 : Int))) := Lib.hid (by rw [e1]; exact (World.cell?_setCell_other w ⟨vb, vo, none⟩ ⟨bb, bo + 4, none⟩ (.int .u64 (b0 : Int)) (apart_ne dB 0 4 (by decide) (by decide) (by decide))).trans HB4.out)
  replace hW : Hid (Wr w w1 vb vo 5 _) := Lib.hid (by rw [e1]; exact (hW.out.set 0 (.int .u64 (b0 : Int))).drew)
  clear e1 c0 d0 f0 g0 m0 n0 o0
  have c1 := HA1.out; have d1 := HB1.out; have f1 := (hW.out.row HV.out).frozen (i := 1) (by omega); have g1 := (hW.out.row HV.out).cell (i := 1) (by omega)
  have m1 := and_none a1 ba1; have n1 := and_all b1 bb1; have o1 := zero_or b1 bb1
  go_wp2
  go_region
  go_upto_region 4 with (fail)
  refine wp_named ?_
  intro w2 e2
  replace HA2 : Hid (w2.cell? ⟨ab, ao + 2, none⟩ = some (.int .u64 (a2 : Int))) := Lib.hid (by rw [e2]; exact (World.cell?_setCell_other w1 ⟨vb, vo + 1, none⟩ ⟨ab, ao + 2, none⟩ (.int .u64 (b1 : Int)) (apart_ne dA 1 2 (by decide) (by decide) (by decide))).trans HA2.out)
  replace HB2 : Hid (w2.cell? ⟨bb, bo + 2, none⟩ = some (.int .u64 (b2 : Int))) := Lib.hid (by rw [e2]; exact (World.cell?_setCell_other w1 ⟨vb, vo + 1, none⟩ ⟨bb, bo + 2, none⟩ (.int .u64 (b1 : Int)) (apart_ne dB 1 2 (by decide) (by decide) (by decide))).trans HB2.out)
  replace HA3 : Hid (w2.cell? ⟨ab, ao + 3, none⟩ = some (.int .u64 (a3 : Int))) := Lib.hid (by rw [e2]; exact (World.cell?_setCell_other w1 ⟨vb, vo + 1, none⟩ ⟨ab, ao + 3, none⟩ (.int .u64 (b1 : Int)) (apart_ne dA 1 3 (by decide) (by decide) (by decide))).trans HA3.out)
  replace HB3 : Hid (w2.cell? ⟨bb, bo + 3, none⟩ = some (.int .u64 (b3 : Int))) := Lib.hid (by rw [e2]; exact (World.cell?_setCell_other w1 ⟨vb, vo + 1, none⟩ ⟨bb, bo + 3, none⟩ (.int .u64 (b1 : Int)) (apart_ne dB 1 3 (by decide) (by decide) (by decide))).trans HB3.out)
  replace HA4 : Hid (w2.cell? ⟨ab, ao + 4, none⟩ = some (.int .u64 (a4 : Int))) := Lib.hid (by rw [e2]; exact (World.cell?_setCell_other w1 ⟨vb, vo + 1, none⟩ ⟨ab, ao + 4, none⟩ (.int .u64 (b1 : Int)) (apart_ne dA 1 4 (by decide) (by decide) (by decide))).trans HA4.out)
  replace HB4 : Hid (w2.cell? ⟨bb, bo + 4, none⟩ = some (.int .u64 (b4 : Int))) := Lib.hid (by rw [e2]; exact (World.cell?_setCell_other w1 ⟨vb, vo + 1, none⟩ ⟨bb, bo + 4, none⟩ (.int .u64 (b1 : Int)) (apart_ne dB 1 4 (by decide) (by decide) (by decide))).trans HB4.out)
  replace hW : Hid (Wr w w2 vb vo 5 _) := Lib.hid (by rw [e2]; exact (hW.out.set 1 (.int .u64 (b1 : Int))).drew)
  clear e2 c1 d1 f1 g1 m1 n1 o1
  have c2 := HA2.out; have d2 := HB2.out; have f2 := (hW.out.row HV.out).frozen (i := 2) (by omega); have g2 := (hW.out.row HV.out).cell (i := 2) (by omega)
  have m2 := and_none a2 ba2; have n2 := and_all b2 bb2; have o2 := zero_or b2 bb2
  go_wp2
  go_region
  go_upto_region 5 with (fail)
  refine wp_named ?_
  intro w3 e3
  replace HA3 : Hid (w3.cell? ⟨ab, ao + 3, none⟩ = some (.int .u64 (a3 : Int))) := Lib.hid (by rw [e3]; exact (World.cell?_setCell_other w2 ⟨vb, vo + 2, none⟩ ⟨ab, ao + 3, none⟩ (.int .u64 (b2 : Int)) (apart_ne dA 2 3 (by decide) (by decide) (by decide))).trans HA3.out)
  replace HB3 : Hid (w3.cell? ⟨bb, bo + 3, none⟩ = some (.int .u64 (b3 : Int))) := Lib.hid (by rw [e3]; exact (World.cell?_setCell_other w2 ⟨vb, vo + 2, none⟩ ⟨bb, bo + 3, none⟩ (.int .u64 (b2 : Int)) (apart_ne dB 2 3 (by decide) (by decide) (by decide))).trans HB3.out)
  replace HA4 : Hid (w3.cell? ⟨ab, ao + 4, none⟩ = some (.int .u64 (a4 : Int))) := Lib.hid (by rw [e3]; exact (World.cell?_setCell_other w2 ⟨vb, vo + 2, none⟩ ⟨ab, ao + 4, none⟩ (.int .u64 (b2 : Int)) (apart_ne dA 2 4 (by decide) (by decide) (by decide))).trans HA4.out)
  replace HB4 : Hid (w3.cell? ⟨bb, bo + 4, none⟩ = some (.int .u64 (b4 : Int))) := Lib.hid (by rw [e3]; exact (World.cell?_setCell_other w2 ⟨vb, vo + 2, none⟩ ⟨bb, bo + 4, none⟩ (.int .u64 (b2 : Int)) (apart_ne dB 2 4 (by decide) (by decide) (by decide))).trans HB4.out)
  replace hW : Hid (Wr w w3 vb vo 5 _) := Lib.hid (by rw [e3]; exact (hW.out.set 2 (.int .u64 (b2 : Int))).drew)
  clear e3 c2 d2 f2 g2 m2 n2 o2
  have c3 := HA3.out; have d3 := HB3.out; have f3 := (hW.out.row HV.out).frozen (i := 3) (by omega); have g3 := (hW.out.row HV.out).cell (i := 3) (by omega)
  have m3 := and_none a3 ba3; have n3 := and_all b3 bb3; have o3 := zero_or b3 bb3
  go_wp2
  go_region
  go_upto_region 6 with (fail)
  refine wp_named ?_
  intro w4 e4
  replace HA4 : Hid (w4.cell? ⟨ab, ao + 4, none⟩ = some (.int .u64 (a4 : Int))) := Lib.hid (by rw [e4]; exact (World.cell?_setCell_other w3 ⟨vb, vo + 3, none⟩ ⟨ab, ao + 4, none⟩ (.int .u64 (b3 : Int)) (apart_ne dA 3 4 (by decide) (by decide) (by decide))).trans HA4.out)
  replace HB4 : Hid (w4.cell? ⟨bb, bo + 4, none⟩ = some (.int .u64 (b4 : Int))) := Lib.hid (by rw [e4]; exact (World.cell?_setCell_other w3 ⟨vb, vo + 3, none⟩ ⟨bb, bo + 4, none⟩ (.int .u64 (b3 : Int)) (apart_ne dB 3 4 (by decide) (by decide) (by decide))).trans HB4.out)
  replace hW : Hid (Wr w w4 vb vo 5 _) := Lib.hid (by rw [e4]; exact (hW.out.set 3 (.int .u64 (b3 : Int))).drew)
  clear e4 c3 d3 f3 g3 m3 n3 o3
  have c4 := HA4.out; have d4 := HB4.out; have f4 := (hW.out.row HV.out).frozen (i := 4) (by omega); have g4 := (hW.out.row HV.out).cell (i := 4) (by omega)
  have m4 := and_none a4 ba4; have n4 := and_all b4 bb4; have o4 := zero_or b4 bb4
  go_wp2
  go_region
  go_wp2
  go_ret
  exact ⟨rfl, Wr.five (hW.out.set 4 (.int .u64 (b4 : Int))).drew rfl rfl rfl rfl rfl⟩

set_option maxRecDepth 100000 in
set_option maxHeartbeats 4000000 in
theorem select_raw1 (vb vo ab ao bb bo a0 a1 a2 a3 a4 b0 b1 b2 b3 b4 : Nat) (vs : Nat → Value) (ba0 : a0 < 18446744073709551616) (ba1 : a1 < 18446744073709551616) (ba2 : a2 < 18446744073709551616) (ba3 : a3 < 18446744073709551616) (ba4 : a4 < 18446744073709551616) (bb0 : b0 < 18446744073709551616) (bb1 : b1 < 18446744073709551616) (bb2 : b2 < 18446744073709551616) (bb3 : b3 < 18446744073709551616) (bb4 : b4 < 18446744073709551616) (dA : Apart vb vo ab ao) (dB : Apart vb vo bb bo) (w : World) (hv : Row w vb vo 5 vs) (ha0 : w.cell? ⟨ab, ao, none⟩ = some (.int .u64 (a0 : Int))) (ha1 : w.cell? ⟨ab, ao + 1, none⟩ = some (.int .u64 (a1 : Int))) (ha2 : w.cell? ⟨ab, ao + 2, none⟩ = some (.int .u64 (a2 : Int))) (ha3 : w.cell? ⟨ab, ao + 3, none⟩ = some (.int .u64 (a3 : Int))) (ha4 : w.cell? ⟨ab, ao + 4, none⟩ = some (.int .u64 (a4 : Int))) (hb0 : w.cell? ⟨bb, bo, none⟩ = some (.int .u64 (b0 : Int))) (hb1 : w.cell? ⟨bb, bo + 1, none⟩ = some (.int .u64 (b1 : Int))) (hb2 : w.cell? ⟨bb, bo + 2, none⟩ = some (.int .u64 (b2 : Int))) (hb3 : w.cell? ⟨bb, bo + 3, none⟩ = some (.int .u64 (b3 : Int))) (hb4 : w.cell? ⟨bb, bo + 4, none⟩ = some (.int .u64 (b4 : Int))) :
    Calls Tryd.prog 28 #[.pointer (some ⟨vb, vo, none⟩), .pointer (some ⟨ab, ao, none⟩), .pointer (some ⟨bb, bo, none⟩), .int .i64 1] w fun e w' => e = .returned (.pointer (some ⟨vb, vo, none⟩)) ∧ Wr w w' vb vo 5 (limbV ⟨a0, a1, a2, a3, a4⟩) := by
  have hW := Lib.hid (Wr.start hv)
  have HV := Lib.hid hv; clear hv
  have HA0 := Lib.hid ha0; have HB0 := Lib.hid hb0; clear ha0 hb0
  have HA1 := Lib.hid ha1; have HB1 := Lib.hid hb1; clear ha1 hb1
  have HA2 := Lib.hid ha2; have HB2 := Lib.hid hb2; clear ha2 hb2
  have HA3 := Lib.hid ha3; have HB3 := Lib.hid hb3; clear ha3 hb3
  have HA4 := Lib.hid ha4; have HB4 := Lib.hid hb4; clear ha4 hb4
  have hnot : bits .xor .u64 (if IntKind.u64.signed = true then -1 else IntKind.u64.max) 18446744073709551615 = 0 := by kernel_rfl
  go_enter Tryd.func28, Tryd.ntmps28
  go_wp2_with fail
  refine (mask_1 _).mono ?_
  rintro e w' ⟨rfl, rfl⟩
  have c0 := HA0.out; have d0 := HB0.out; have f0 := (hW.out.row HV.out).frozen (i := 0) (by omega); have g0 := (hW.out.row HV.out).cell (i := 0) (by omega)
  rw [Nat.add_zero] at f0 g0
  have m0 := and_all a0 ba0; have n0 := and_none b0 bb0; have o0 := or_zero a0 ba0
  go_wp2
  go_region
  go_upto_region 3 with (fail)
  refine wp_named ?_
  intro w1 e1
  replace HA1 : Hid (w1.cell? ⟨ab, ao + 1, none⟩ = some (.int .u64 (a1 : Int))) := Lib.hid (by rw [e1]; exact (World.cell?_setCell_other w ⟨vb, vo, none⟩ ⟨ab, ao + 1, none⟩ (.int .u64 (a0 : Int)) (apart_ne dA 0 1 (by decide) (by decide) (by decide))).trans HA1.out)
  replace HB1 : Hid (w1.cell? ⟨bb, bo + 1, none⟩ = some (.int .u64 (b1 : Int))) := Lib.hid (by rw [e1]; exact (World.cell?_setCell_other w ⟨vb, vo, none⟩ ⟨bb, bo + 1, none⟩ (.int .u64 (a0 : Int)) (apart_ne dB 0 1 (by decide) (by decide) (by decide))).trans HB1.out)
  replace HA2 : Hid (w1.cell? ⟨ab, ao + 2, none⟩ = some (.int .u64 (a2 : Int))) := Lib.hid (by rw [e1]; exact (World.cell?_setCell_other w ⟨vb, vo, none⟩ ⟨ab, ao + 2, none⟩ (.int .u64 (a0 : Int)) (apart_ne dA 0 2 (by decide) (by decide) (by decide))).trans HA2.out)
  replace HB2 : Hid (w1.cell? ⟨bb, bo + 2, none⟩ = some (.int .u64 (b2 : Int))) := Lib.hid (by rw [e1]; exact (World.cell?_setCell_other w ⟨vb, vo, none⟩ ⟨bb, bo + 2, none⟩ (.int .u64 (a0 : Int)) (apart_ne dB 0 2 (by decide) (by decide) (by decide))).trans HB2.out)
  replace HA3 : Hid (w1.cell? ⟨ab, ao + 3, none⟩ = some (.int .u64 (a3 : Int))) := Lib.hid (by rw [e1]; exact (World.cell?_setCell_other w ⟨vb, vo, none⟩ ⟨ab, ao + 3, none⟩ (.int .u64 (a0 : Int)) (apart_ne dA 0 3 (by decide) (by decide) (by decide))).trans HA3.out)
  replace HB3 : Hid (w1.cell? ⟨bb, bo + 3, none⟩ = some (.int .u64 (b3 : Int))) := Lib.hid (by rw [e1]; exact (World.cell?_setCell_other w ⟨vb, vo, none⟩ ⟨bb, bo + 3, none⟩ (.int .u64 (a0 : Int)) (apart_ne dB 0 3 (by decide) (by decide) (by decide))).trans HB3.out)
  replace HA4 : Hid (w1.cell? ⟨ab, ao + 4, none⟩ = some (.int .u64 (a4 : Int))) := Lib.hid (by rw [e1]; exact (World.cell?_setCell_other w ⟨vb, vo, none⟩ ⟨ab, ao + 4, none⟩ (.int .u64 (a0 : Int)) (apart_ne dA 0 4 (by decide) (by decide) (by decide))).trans HA4.out)
  replace HB4 : Hid (w1.cell? ⟨bb, bo + 4, none⟩ = some (.int .u64 (b4 : Int))) := Lib.hid (by rw [e1]; exact (World.cell?_setCell_other w ⟨vb, vo, none⟩ ⟨bb, bo + 4, none⟩ (.int .u64 (a0 : Int)) (apart_ne dB 0 4 (by decide) (by decide) (by decide))).trans HB4.out)
  replace hW : Hid (Wr w w1 vb vo 5 _) := Lib.hid (by rw [e1]; exact (hW.out.set 0 (.int .u64 (a0 : Int))).drew)
  clear e1 c0 d0 f0 g0 m0 n0 o0
  have c1 := HA1.out; have d1 := HB1.out; have f1 := (hW.out.row HV.out).frozen (i := 1) (by omega); have g1 := (hW.out.row HV.out).cell (i := 1) (by omega)
  have m1 := and_all a1 ba1; have n1 := and_none b1 bb1; have o1 := or_zero a1 ba1
  go_wp2
  go_region
  go_upto_region 4 with (fail)
  refine wp_named ?_
  intro w2 e2
  replace HA2 : Hid (w2.cell? ⟨ab, ao + 2, none⟩ = some (.int .u64 (a2 : Int))) := Lib.hid (by rw [e2]; exact (World.cell?_setCell_other w1 ⟨vb, vo + 1, none⟩ ⟨ab, ao + 2, none⟩ (.int .u64 (a1 : Int)) (apart_ne dA 1 2 (by decide) (by decide) (by decide))).trans HA2.out)
  replace HB2 : Hid (w2.cell? ⟨bb, bo + 2, none⟩ = some (.int .u64 (b2 : Int))) := Lib.hid (by rw [e2]; exact (World.cell?_setCell_other w1 ⟨vb, vo + 1, none⟩ ⟨bb, bo + 2, none⟩ (.int .u64 (a1 : Int)) (apart_ne dB 1 2 (by decide) (by decide) (by decide))).trans HB2.out)
  replace HA3 : Hid (w2.cell? ⟨ab, ao + 3, none⟩ = some (.int .u64 (a3 : Int))) := Lib.hid (by rw [e2]; exact (World.cell?_setCell_other w1 ⟨vb, vo + 1, none⟩ ⟨ab, ao + 3, none⟩ (.int .u64 (a1 : Int)) (apart_ne dA 1 3 (by decide) (by decide) (by decide))).trans HA3.out)
  replace HB3 : Hid (w2.cell? ⟨bb, bo + 3, none⟩ = some (.int .u64 (b3 : Int))) := Lib.hid (by rw [e2]; exact (World.cell?_setCell_other w1 ⟨vb, vo + 1, none⟩ ⟨bb, bo + 3, none⟩ (.int .u64 (a1 : Int)) (apart_ne dB 1 3 (by decide) (by decide) (by decide))).trans HB3.out)
  replace HA4 : Hid (w2.cell? ⟨ab, ao + 4, none⟩ = some (.int .u64 (a4 : Int))) := Lib.hid (by rw [e2]; exact (World.cell?_setCell_other w1 ⟨vb, vo + 1, none⟩ ⟨ab, ao + 4, none⟩ (.int .u64 (a1 : Int)) (apart_ne dA 1 4 (by decide) (by decide) (by decide))).trans HA4.out)
  replace HB4 : Hid (w2.cell? ⟨bb, bo + 4, none⟩ = some (.int .u64 (b4 : Int))) := Lib.hid (by rw [e2]; exact (World.cell?_setCell_other w1 ⟨vb, vo + 1, none⟩ ⟨bb, bo + 4, none⟩ (.int .u64 (a1 : Int)) (apart_ne dB 1 4 (by decide) (by decide) (by decide))).trans HB4.out)
  replace hW : Hid (Wr w w2 vb vo 5 _) := Lib.hid (by rw [e2]; exact (hW.out.set 1 (.int .u64 (a1 : Int))).drew)
  clear e2 c1 d1 f1 g1 m1 n1 o1
  have c2 := HA2.out; have d2 := HB2.out; have f2 := (hW.out.row HV.out).frozen (i := 2) (by omega); have g2 := (hW.out.row HV.out).cell (i := 2) (by omega)
  have m2 := and_all a2 ba2; have n2 := and_none b2 bb2; have o2 := or_zero a2 ba2
  go_wp2
  go_region
  go_upto_region 5 with (fail)
  refine wp_named ?_
  intro w3 e3
  replace HA3 : Hid (w3.cell? ⟨ab, ao + 3, none⟩ = some (.int .u64 (a3 : Int))) := Lib.hid (by rw [e3]; exact (World.cell?_setCell_other w2 ⟨vb, vo + 2, none⟩ ⟨ab, ao + 3, none⟩ (.int .u64 (a2 : Int)) (apart_ne dA 2 3 (by decide) (by decide) (by decide))).trans HA3.out)
  replace HB3 : Hid (w3.cell? ⟨bb, bo + 3, none⟩ = some (.int .u64 (b3 : Int))) := Lib.hid (by rw [e3]; exact (World.cell?_setCell_other w2 ⟨vb, vo + 2, none⟩ ⟨bb, bo + 3, none⟩ (.int .u64 (a2 : Int)) (apart_ne dB 2 3 (by decide) (by decide) (by decide))).trans HB3.out)
  replace HA4 : Hid (w3.cell? ⟨ab, ao + 4, none⟩ = some (.int .u64 (a4 : Int))) := Lib.hid (by rw [e3]; exact (World.cell?_setCell_other w2 ⟨vb, vo + 2, none⟩ ⟨ab, ao + 4, none⟩ (.int .u64 (a2 : Int)) (apart_ne dA 2 4 (by decide) (by decide) (by decide))).trans HA4.out)
  replace HB4 : Hid (w3.cell? ⟨bb, bo + 4, none⟩ = some (.int .u64 (b4 : Int))) := Lib.hid (by rw [e3]; exact (World.cell?_setCell_other w2 ⟨vb, vo + 2, none⟩ ⟨bb, bo + 4, none⟩ (.int .u64 (a2 : Int)) (apart_ne dB 2 4 (by decide) (by decide) (by decide))).trans HB4.out)
  replace hW : Hid (Wr w w3 vb vo 5 _) := Lib.hid (by rw [e3]; exact (hW.out.set 2 (.int .u64 (a2 : Int))).drew)
  clear e3 c2 d2 f2 g2 m2 n2 o2
  have c3 := HA3.out; have d3 := HB3.out; have f3 := (hW.out.row HV.out).frozen (i := 3) (by omega); have g3 := (hW.out.row HV.out).cell (i := 3) (by omega)
  have m3 := and_all a3 ba3; have n3 := and_none b3 bb3; have o3 := or_zero a3 ba3
  go_wp2
  go_region
  go_upto_region 6 with (fail)
  refine wp_named ?_
  intro w4 e4
  replace HA4 : Hid (w4.cell? ⟨ab, ao + 4, none⟩ = some (.int .u64 (a4 : Int))) := Lib.hid (by rw [e4]; exact (World.cell?_setCell_other w3 ⟨vb, vo + 3, none⟩ ⟨ab, ao + 4, none⟩ (.int .u64 (a3 : Int)) (apart_ne dA 3 4 (by decide) (by decide) (by decide))).trans HA4.out)
  replace HB4 : Hid (w4.cell? ⟨bb, bo + 4, none⟩ = some (.int .u64 (b4 : Int))) := Lib.hid (by rw [e4]; exact (World.cell?_setCell_other w3 ⟨vb, vo + 3, none⟩ ⟨bb, bo + 4, none⟩ (.int .u64 (a3 : Int)) (apart_ne dB 3 4 (by decide) (by decide) (by decide))).trans HB4.out)
  replace hW : Hid (Wr w w4 vb vo 5 _) := Lib.hid (by rw [e4]; exact (hW.out.set 3 (.int .u64 (a3 : Int))).drew)
  clear e4 c3 d3 f3 g3 m3 n3 o3
  have c4 := HA4.out; have d4 := HB4.out; have f4 := (hW.out.row HV.out).frozen (i := 4) (by omega); have g4 := (hW.out.row HV.out).cell (i := 4) (by omega)
  have m4 := and_all a4 ba4; have n4 := and_none b4 bb4; have o4 := or_zero a4 ba4
  go_wp2
  go_region
  go_wp2
  go_ret
  exact ⟨rfl, Wr.five (hW.out.set 4 (.int .u64 (a4 : Int))).drew rfl rfl rfl rfl rfl⟩

theorem select_fe0 (vb vo ab ao bb bo x y v0 : Nat) (dA : Apart vb vo ab ao) (dB : Apart vb vo bb bo) (w : World) (hv : Fe w vb vo v0) (ha : Fe w ab ao x) (hb : Fe w bb bo y) :
    Calls Tryd.prog 28 #[.pointer (some ⟨vb, vo, none⟩), .pointer (some ⟨ab, ao, none⟩), .pointer (some ⟨bb, bo, none⟩), .int .i64 0] w fun e w' => e = .returned (.pointer (some ⟨vb, vo, none⟩)) ∧ Sets w w' vb vo y := by
  obtain ⟨Lv, hL, _⟩ := hv
  obtain ⟨⟨a0, a1, a2, a3, a4⟩, hA, hp, hx⟩ := ha
  obtain ⟨⟨b0, b1, b2, b3, b4⟩, hB, hq, hy⟩ := hb
  have hp' := hp; have hq' := hq
  obtain ⟨p0, p1, p2, p3, p4⟩ := hp'
  obtain ⟨q0, q1, q2, q3, q4⟩ := hq'
  simp only at p0 p1 p2 p3 p4 q0 q1 q2 q3 q4
  refine (select_raw0 vb vo ab ao bb bo a0 a1 a2 a3 a4 b0 b1 b2 b3 b4 (limbV Lv) (by omega) (by omega) (by omega) (by omega) (by omega) (by omega) (by omega) (by omega) (by omega) (by omega) dA dB w hL (El.c0 hA) (El.c1 hA) (El.c2 hA) (El.c3 hA) (El.c4 hA) (El.c0 hB) (El.c1 hB) (El.c2 hB) (El.c3 hB) (El.c4 hB)).mono ?_
  rintro e w1 ⟨rfl, h1⟩
  exact ⟨rfl, _, hq, hy, h1⟩
theorem select_fe1 (vb vo ab ao bb bo x y v0 : Nat) (dA : Apart vb vo ab ao) (dB : Apart vb vo bb bo) (w : World) (hv : Fe w vb vo v0) (ha : Fe w ab ao x) (hb : Fe w bb bo y) :
    Calls Tryd.prog 28 #[.pointer (some ⟨vb, vo, none⟩), .pointer (some ⟨ab, ao, none⟩), .pointer (some ⟨bb, bo, none⟩), .int .i64 1] w fun e w' => e = .returned (.pointer (some ⟨vb, vo, none⟩)) ∧ Sets w w' vb vo x := by
  obtain ⟨Lv, hL, _⟩ := hv
  obtain ⟨⟨a0, a1, a2, a3, a4⟩, hA, hp, hx⟩ := ha
  obtain ⟨⟨b0, b1, b2, b3, b4⟩, hB, hq, hy⟩ := hb
  have hp' := hp; have hq' := hq
  obtain ⟨p0, p1, p2, p3, p4⟩ := hp'
  obtain ⟨q0, q1, q2, q3, q4⟩ := hq'
  simp only at p0 p1 p2 p3 p4 q0 q1 q2 q3 q4
  refine (select_raw1 vb vo ab ao bb bo a0 a1 a2 a3 a4 b0 b1 b2 b3 b4 (limbV Lv) (by omega) (by omega) (by omega) (by omega) (by omega) (by omega) (by omega) (by omega) (by omega) (by omega) dA dB w hL (El.c0 hA) (El.c1 hA) (El.c2 hA) (El.c3 hA) (El.c4 hA) (El.c0 hB) (El.c1 hB) (El.c2 hB) (El.c3 hB) (El.c4 hB)).mono ?_
  rintro e w1 ⟨rfl, h1⟩
  exact ⟨rfl, _, hp, hx, h1⟩
end Go.Proofs.YtemgflkecflhmaaDoor
