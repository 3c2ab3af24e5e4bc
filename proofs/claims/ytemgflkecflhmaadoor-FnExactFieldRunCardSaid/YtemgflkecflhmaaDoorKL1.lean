/- Parts of the proof: The field's bytes, read: leUint64, SetBytes, elementOf. mask64Bits. -/
import Derived.Test.YtemgflkecflhmaaDoorKHF1
set_option maxRecDepth 4000
set_option linter.unusedSimpArgs false
set_option linter.unusedVariables false
namespace Go.Proofs.YtemgflkecflhmaaDoor
section
open Go.RowKit

theorem Row.byte {w : World} {b off n N i : Nat} (h : Row w b off n (byV N)) (hi : i < n) : w.cell? ⟨b, off + i, none⟩ = some (.int .u8 ((byteN N i : Nat) : Int)) := h.cell hi

theorem Row.shift {w : World} {b off n N : Nat} (h : Row w b off n (byV N)) (m k : Nat) (hk : m + k ≤ n) : Row w b (off + m) k (byV (N / 256 ^ m)) :=
  (h.sub m k hk).congr fun i _ => by unfold byV; rw [byteN_shift]

set_option maxHeartbeats 1000000 in
theorem leU_any (b off N cap : Nat) (w : World) (h : Row w b off 8 (byV N)) (R : Int) (hR : Hid (R = ((N % 18446744073709551616 : Nat) : Int))) :
    Calls Tryd.prog 48 #[.slice (some ⟨b, off, none⟩) 8 cap] w fun e w' => e = .returned (.int .u64 R) ∧ w' = w := by
  have hh := Lib.hid h; clear h
  go_enter Tryd.func48, Tryd.ntmps48
  go_wp2
  go_loop [3, 4] (fun x i => ∃ k X : Nat, k ≤ 8 ∧ Hid (X = N % 18446744073709551616 / 256 ^ k) ∧ X < 18446744073709551616 ∧ x = .int .u64 (X : Int) ∧ i = .int .i64 ((k : Int) - 1)) (fun _ i => ((intOf i) + 1).toNat)
  case atStart =>
    refine ⟨8, 0, by omega, ?_, by omega, rfl, rfl⟩
    exact Lib.hid (by omega)
  case round =>
    obtain ⟨k, X, hk, hX, hXb, rfl, rfl⟩ := hrel
    rcases Nat.eq_zero_or_pos k with rfl | hpos
    · go_wp2
      go_ret
      refine ⟨?_, rfl⟩
      rw [hR.out, hX.out]
      simp
    · obtain ⟨j, rfl⟩ : ∃ j, k = j + 1 := ⟨k - 1, by omega⟩
      have hc := hh.out.byte (i := j) (by omega)
      have hb := byteN_lt N j
      have hs := Lib.hid (le_step N j (by omega))
      have hsm := le_small N (j + 1) (by omega)
      rw [← hX.out] at hsm
      generalize byteN N j = B at *
      go_wp2
      go_round
      case rel =>
        refine ⟨j, X * 256 + B, by omega, ?_, by omega, ?_, by go_num⟩
        · refine Lib.hid ?_
          rw [← hs.out, ← hX.out]
        · have h9 := or256 X B hsm hb
          rw [show ((X * 256 : Nat) : Int) = (X : Int) * 256 by omega] at h9
          go_num
      case measure => simp [intOf]

def ofN (N : Nat) : L5 :=
  ⟨N % 18446744073709551616 % 2251799813685248, N / 256 ^ 6 % 18446744073709551616 / 8 % 2251799813685248, N / 256 ^ 12 % 18446744073709551616 / 64 % 2251799813685248,
    N / 256 ^ 19 % 18446744073709551616 / 2 % 2251799813685248, N / 256 ^ 24 % 18446744073709551616 / 4096 % 2251799813685248⟩
theorem ofN_bd (N : Nat) : Bd (ofN N) := by unfold Bd ofN; simp only; omega
theorem ofN_val (N : Nat) : val5 (ofN N) = N % 57896044618658097711785492504343953926634992332820282019728792003956564819968 := by
  unfold val5 ofN
  simp only
  omega

set_option maxHeartbeats 1000000 in
theorem setBytes_raw (vb vo b off N cap : Nat) (Lv : L5) (w0 : World) (hv : El w0 vb vo Lv) (hx : Row w0 b off 32 (byV N)) (hcap : 32 ≤ cap) (hne : b ≠ vb) (L : L5) (hL : Hid (L = ofN N)) :
    Calls Tryd.prog 17 #[.pointer (some ⟨vb, vo, none⟩), .slice (some ⟨b, off, none⟩) 32 cap] w0 fun e w' => e = .returned (.tuple #[.pointer (some ⟨vb, vo, none⟩), .nilIface]) ∧ Wr w0 w' vb vo 5 (limbV L) := by
  obtain ⟨R0, hR0⟩ : ∃ R : Nat, R = N % 18446744073709551616 := ⟨_, rfl⟩
  have b0 : R0 < 18446744073709551616 := by omega
  have e0 := Lib.hid hR0; clear hR0
  obtain ⟨R1, hR1⟩ : ∃ R : Nat, R = N / 256 ^ 6 % 18446744073709551616 := ⟨_, rfl⟩
  have b1 : R1 < 18446744073709551616 := by omega
  have e1 := Lib.hid hR1; clear hR1
  obtain ⟨R2, hR2⟩ : ∃ R : Nat, R = N / 256 ^ 12 % 18446744073709551616 := ⟨_, rfl⟩
  have b2 : R2 < 18446744073709551616 := by omega
  have e2 := Lib.hid hR2; clear hR2
  obtain ⟨R3, hR3⟩ : ∃ R : Nat, R = N / 256 ^ 19 % 18446744073709551616 := ⟨_, rfl⟩
  have b3 : R3 < 18446744073709551616 := by omega
  have e3 := Lib.hid hR3; clear hR3
  obtain ⟨R4, hR4⟩ : ∃ R : Nat, R = N / 256 ^ 24 % 18446744073709551616 := ⟨_, rfl⟩
  have b4 : R4 < 18446744073709551616 := by omega
  have e4 := Lib.hid hR4; clear hR4
  have hw := Wr.start hv
  have hq := Lib.hid hv
  have k0 := hv.c0
  have f0 := hv.f0
  have k1 := hv.c1
  have f1 := hv.f1
  have k2 := hv.c2
  have f2 := hv.f2
  have k3 := hv.c3
  have f3 := hv.f3
  have k4 := hv.c4
  have f4 := hv.f4
  clear hv
  go_enter Tryd.func17, Tryd.ntmps17
  go_wp2_with fail
  refine (leU_any b off N _ _ (Row.sub hx 0 8 (by omega) |>.congr fun i _ => by rw [Nat.zero_add]) (R0 : Int) (Lib.hid (by rw [e0.out]))).mono ?_
  rintro e w1 ⟨rfl, hw1⟩
  subst w1
  skip
  go_wp2_with fail
  have hw := (hw.set 0 (.int .u64 (R0 : Int))).set 0 (.int .u64 (bits .and .u64 (R0 : Int) 2251799813685247))
  change Wr w0 ((w0.setCell ⟨vb, vo, none⟩ (.int .u64 (R0 : Int))).setCell ⟨vb, vo, none⟩ (.int .u64 (bits .and .u64 (R0 : Int) 2251799813685247))) _ _ _ _ at hw
  have k1 : World.cell? (((w0.setCell ⟨vb, vo, none⟩ (.int .u64 (R0 : Int))).setCell ⟨vb, vo, none⟩ (.int .u64 (bits .and .u64 (R0 : Int) 2251799813685247)))) ⟨vb, vo + 1, none⟩ = _ := (World.cell?_setCell_other _ _ _ _ (apart_ne (Or.inl ⟨rfl, rfl⟩) 0 1 (by decide) (by decide) (by decide))).trans ((World.cell?_setCell_other _ _ _ _ (apart_ne (Or.inl ⟨rfl, rfl⟩) 0 1 (by decide) (by decide) (by decide))).trans k1)
  have f1 : World.frozen? (((w0.setCell ⟨vb, vo, none⟩ (.int .u64 (R0 : Int))).setCell ⟨vb, vo, none⟩ (.int .u64 (bits .and .u64 (R0 : Int) 2251799813685247)))) ⟨vb, vo + 1, none⟩ = _ := (World.frozen?_setCell _ _ _ _).trans ((World.frozen?_setCell _ _ _ _).trans f1)
  have k2 : World.cell? (((w0.setCell ⟨vb, vo, none⟩ (.int .u64 (R0 : Int))).setCell ⟨vb, vo, none⟩ (.int .u64 (bits .and .u64 (R0 : Int) 2251799813685247)))) ⟨vb, vo + 2, none⟩ = _ := (World.cell?_setCell_other _ _ _ _ (apart_ne (Or.inl ⟨rfl, rfl⟩) 0 2 (by decide) (by decide) (by decide))).trans ((World.cell?_setCell_other _ _ _ _ (apart_ne (Or.inl ⟨rfl, rfl⟩) 0 2 (by decide) (by decide) (by decide))).trans k2)
  have f2 : World.frozen? (((w0.setCell ⟨vb, vo, none⟩ (.int .u64 (R0 : Int))).setCell ⟨vb, vo, none⟩ (.int .u64 (bits .and .u64 (R0 : Int) 2251799813685247)))) ⟨vb, vo + 2, none⟩ = _ := (World.frozen?_setCell _ _ _ _).trans ((World.frozen?_setCell _ _ _ _).trans f2)
  have k3 : World.cell? (((w0.setCell ⟨vb, vo, none⟩ (.int .u64 (R0 : Int))).setCell ⟨vb, vo, none⟩ (.int .u64 (bits .and .u64 (R0 : Int) 2251799813685247)))) ⟨vb, vo + 3, none⟩ = _ := (World.cell?_setCell_other _ _ _ _ (apart_ne (Or.inl ⟨rfl, rfl⟩) 0 3 (by decide) (by decide) (by decide))).trans ((World.cell?_setCell_other _ _ _ _ (apart_ne (Or.inl ⟨rfl, rfl⟩) 0 3 (by decide) (by decide) (by decide))).trans k3)
  have f3 : World.frozen? (((w0.setCell ⟨vb, vo, none⟩ (.int .u64 (R0 : Int))).setCell ⟨vb, vo, none⟩ (.int .u64 (bits .and .u64 (R0 : Int) 2251799813685247)))) ⟨vb, vo + 3, none⟩ = _ := (World.frozen?_setCell _ _ _ _).trans ((World.frozen?_setCell _ _ _ _).trans f3)
  have k4 : World.cell? (((w0.setCell ⟨vb, vo, none⟩ (.int .u64 (R0 : Int))).setCell ⟨vb, vo, none⟩ (.int .u64 (bits .and .u64 (R0 : Int) 2251799813685247)))) ⟨vb, vo + 4, none⟩ = _ := (World.cell?_setCell_other _ _ _ _ (apart_ne (Or.inl ⟨rfl, rfl⟩) 0 4 (by decide) (by decide) (by decide))).trans ((World.cell?_setCell_other _ _ _ _ (apart_ne (Or.inl ⟨rfl, rfl⟩) 0 4 (by decide) (by decide) (by decide))).trans k4)
  have f4 : World.frozen? (((w0.setCell ⟨vb, vo, none⟩ (.int .u64 (R0 : Int))).setCell ⟨vb, vo, none⟩ (.int .u64 (bits .and .u64 (R0 : Int) 2251799813685247)))) ⟨vb, vo + 4, none⟩ = _ := (World.frozen?_setCell _ _ _ _).trans ((World.frozen?_setCell _ _ _ _).trans f4)
  have hx : Row ((w0.setCell ⟨vb, vo, none⟩ (.int .u64 (R0 : Int))).setCell ⟨vb, vo, none⟩ (.int .u64 (bits .and .u64 (R0 : Int) 2251799813685247))) b off 32 (byV N) := hx.keep ((Below.heap_setCell _ _ _ _ hne).trans (Below.heap_setCell _ _ _ _ hne))
  generalize ((w0.setCell ⟨vb, vo, none⟩ (.int .u64 (R0 : Int))).setCell ⟨vb, vo, none⟩ (.int .u64 (bits .and .u64 (R0 : Int) 2251799813685247))) = u1 at *
  refine (leU_any b (off + 6) (N / 256 ^ 6) _ _ (hx.shift 6 8 (by omega)) (R1 : Int) (Lib.hid (by rw [e1.out]))).mono ?_
  rintro e w2 ⟨rfl, rfl⟩
  go_wp2_with fail
  have hw := (hw.set 1 (.int .u64 ((R1 : Int) / 8))).set 1 (.int .u64 (bits .and .u64 ((R1 : Int) / 8) 2251799813685247))
  change Wr w0 ((w2.setCell ⟨vb, vo + 1, none⟩ (.int .u64 ((R1 : Int) / 8))).setCell ⟨vb, vo + 1, none⟩ (.int .u64 (bits .and .u64 ((R1 : Int) / 8) 2251799813685247))) _ _ _ _ at hw
  have k2 : World.cell? (((w2.setCell ⟨vb, vo + 1, none⟩ (.int .u64 ((R1 : Int) / 8))).setCell ⟨vb, vo + 1, none⟩ (.int .u64 (bits .and .u64 ((R1 : Int) / 8) 2251799813685247)))) ⟨vb, vo + 2, none⟩ = _ := (World.cell?_setCell_other _ _ _ _ (apart_ne (Or.inl ⟨rfl, rfl⟩) 1 2 (by decide) (by decide) (by decide))).trans ((World.cell?_setCell_other _ _ _ _ (apart_ne (Or.inl ⟨rfl, rfl⟩) 1 2 (by decide) (by decide) (by decide))).trans k2)
  have f2 : World.frozen? (((w2.setCell ⟨vb, vo + 1, none⟩ (.int .u64 ((R1 : Int) / 8))).setCell ⟨vb, vo + 1, none⟩ (.int .u64 (bits .and .u64 ((R1 : Int) / 8) 2251799813685247)))) ⟨vb, vo + 2, none⟩ = _ := (World.frozen?_setCell _ _ _ _).trans ((World.frozen?_setCell _ _ _ _).trans f2)
  have k3 : World.cell? (((w2.setCell ⟨vb, vo + 1, none⟩ (.int .u64 ((R1 : Int) / 8))).setCell ⟨vb, vo + 1, none⟩ (.int .u64 (bits .and .u64 ((R1 : Int) / 8) 2251799813685247)))) ⟨vb, vo + 3, none⟩ = _ := (World.cell?_setCell_other _ _ _ _ (apart_ne (Or.inl ⟨rfl, rfl⟩) 1 3 (by decide) (by decide) (by decide))).trans ((World.cell?_setCell_other _ _ _ _ (apart_ne (Or.inl ⟨rfl, rfl⟩) 1 3 (by decide) (by decide) (by decide))).trans k3)
  have f3 : World.frozen? (((w2.setCell ⟨vb, vo + 1, none⟩ (.int .u64 ((R1 : Int) / 8))).setCell ⟨vb, vo + 1, none⟩ (.int .u64 (bits .and .u64 ((R1 : Int) / 8) 2251799813685247)))) ⟨vb, vo + 3, none⟩ = _ := (World.frozen?_setCell _ _ _ _).trans ((World.frozen?_setCell _ _ _ _).trans f3)
  have k4 : World.cell? (((w2.setCell ⟨vb, vo + 1, none⟩ (.int .u64 ((R1 : Int) / 8))).setCell ⟨vb, vo + 1, none⟩ (.int .u64 (bits .and .u64 ((R1 : Int) / 8) 2251799813685247)))) ⟨vb, vo + 4, none⟩ = _ := (World.cell?_setCell_other _ _ _ _ (apart_ne (Or.inl ⟨rfl, rfl⟩) 1 4 (by decide) (by decide) (by decide))).trans ((World.cell?_setCell_other _ _ _ _ (apart_ne (Or.inl ⟨rfl, rfl⟩) 1 4 (by decide) (by decide) (by decide))).trans k4)
  have f4 : World.frozen? (((w2.setCell ⟨vb, vo + 1, none⟩ (.int .u64 ((R1 : Int) / 8))).setCell ⟨vb, vo + 1, none⟩ (.int .u64 (bits .and .u64 ((R1 : Int) / 8) 2251799813685247)))) ⟨vb, vo + 4, none⟩ = _ := (World.frozen?_setCell _ _ _ _).trans ((World.frozen?_setCell _ _ _ _).trans f4)
  have hx : Row ((w2.setCell ⟨vb, vo + 1, none⟩ (.int .u64 ((R1 : Int) / 8))).setCell ⟨vb, vo + 1, none⟩ (.int .u64 (bits .and .u64 ((R1 : Int) / 8) 2251799813685247))) b off 32 (byV N) := hx.keep ((Below.heap_setCell _ _ _ _ hne).trans (Below.heap_setCell _ _ _ _ hne))
  generalize ((w2.setCell ⟨vb, vo + 1, none⟩ (.int .u64 ((R1 : Int) / 8))).setCell ⟨vb, vo + 1, none⟩ (.int .u64 (bits .and .u64 ((R1 : Int) / 8) 2251799813685247))) = u2 at *
  refine (leU_any b (off + 12) (N / 256 ^ 12) _ _ (hx.shift 12 8 (by omega)) (R2 : Int) (Lib.hid (by rw [e2.out]))).mono ?_
  rintro e w3 ⟨rfl, rfl⟩
  go_wp2_with fail
  have hw := (hw.set 2 (.int .u64 ((R2 : Int) / 64))).set 2 (.int .u64 (bits .and .u64 ((R2 : Int) / 64) 2251799813685247))
  change Wr w0 ((w3.setCell ⟨vb, vo + 2, none⟩ (.int .u64 ((R2 : Int) / 64))).setCell ⟨vb, vo + 2, none⟩ (.int .u64 (bits .and .u64 ((R2 : Int) / 64) 2251799813685247))) _ _ _ _ at hw
  have k3 : World.cell? (((w3.setCell ⟨vb, vo + 2, none⟩ (.int .u64 ((R2 : Int) / 64))).setCell ⟨vb, vo + 2, none⟩ (.int .u64 (bits .and .u64 ((R2 : Int) / 64) 2251799813685247)))) ⟨vb, vo + 3, none⟩ = _ := (World.cell?_setCell_other _ _ _ _ (apart_ne (Or.inl ⟨rfl, rfl⟩) 2 3 (by decide) (by decide) (by decide))).trans ((World.cell?_setCell_other _ _ _ _ (apart_ne (Or.inl ⟨rfl, rfl⟩) 2 3 (by decide) (by decide) (by decide))).trans k3)
  have f3 : World.frozen? (((w3.setCell ⟨vb, vo + 2, none⟩ (.int .u64 ((R2 : Int) / 64))).setCell ⟨vb, vo + 2, none⟩ (.int .u64 (bits .and .u64 ((R2 : Int) / 64) 2251799813685247)))) ⟨vb, vo + 3, none⟩ = _ := (World.frozen?_setCell _ _ _ _).trans ((World.frozen?_setCell _ _ _ _).trans f3)
  have k4 : World.cell? (((w3.setCell ⟨vb, vo + 2, none⟩ (.int .u64 ((R2 : Int) / 64))).setCell ⟨vb, vo + 2, none⟩ (.int .u64 (bits .and .u64 ((R2 : Int) / 64) 2251799813685247)))) ⟨vb, vo + 4, none⟩ = _ := (World.cell?_setCell_other _ _ _ _ (apart_ne (Or.inl ⟨rfl, rfl⟩) 2 4 (by decide) (by decide) (by decide))).trans ((World.cell?_setCell_other _ _ _ _ (apart_ne (Or.inl ⟨rfl, rfl⟩) 2 4 (by decide) (by decide) (by decide))).trans k4)
  have f4 : World.frozen? (((w3.setCell ⟨vb, vo + 2, none⟩ (.int .u64 ((R2 : Int) / 64))).setCell ⟨vb, vo + 2, none⟩ (.int .u64 (bits .and .u64 ((R2 : Int) / 64) 2251799813685247)))) ⟨vb, vo + 4, none⟩ = _ := (World.frozen?_setCell _ _ _ _).trans ((World.frozen?_setCell _ _ _ _).trans f4)
  have hx : Row ((w3.setCell ⟨vb, vo + 2, none⟩ (.int .u64 ((R2 : Int) / 64))).setCell ⟨vb, vo + 2, none⟩ (.int .u64 (bits .and .u64 ((R2 : Int) / 64) 2251799813685247))) b off 32 (byV N) := hx.keep ((Below.heap_setCell _ _ _ _ hne).trans (Below.heap_setCell _ _ _ _ hne))
  generalize ((w3.setCell ⟨vb, vo + 2, none⟩ (.int .u64 ((R2 : Int) / 64))).setCell ⟨vb, vo + 2, none⟩ (.int .u64 (bits .and .u64 ((R2 : Int) / 64) 2251799813685247))) = u3 at *
  refine (leU_any b (off + 19) (N / 256 ^ 19) _ _ (hx.shift 19 8 (by omega)) (R3 : Int) (Lib.hid (by rw [e3.out]))).mono ?_
  rintro e w4 ⟨rfl, rfl⟩
  go_wp2_with fail
  have hw := (hw.set 3 (.int .u64 ((R3 : Int) / 2))).set 3 (.int .u64 (bits .and .u64 ((R3 : Int) / 2) 2251799813685247))
  change Wr w0 ((w4.setCell ⟨vb, vo + 3, none⟩ (.int .u64 ((R3 : Int) / 2))).setCell ⟨vb, vo + 3, none⟩ (.int .u64 (bits .and .u64 ((R3 : Int) / 2) 2251799813685247))) _ _ _ _ at hw
  have k4 : World.cell? (((w4.setCell ⟨vb, vo + 3, none⟩ (.int .u64 ((R3 : Int) / 2))).setCell ⟨vb, vo + 3, none⟩ (.int .u64 (bits .and .u64 ((R3 : Int) / 2) 2251799813685247)))) ⟨vb, vo + 4, none⟩ = _ := (World.cell?_setCell_other _ _ _ _ (apart_ne (Or.inl ⟨rfl, rfl⟩) 3 4 (by decide) (by decide) (by decide))).trans ((World.cell?_setCell_other _ _ _ _ (apart_ne (Or.inl ⟨rfl, rfl⟩) 3 4 (by decide) (by decide) (by decide))).trans k4)
  have f4 : World.frozen? (((w4.setCell ⟨vb, vo + 3, none⟩ (.int .u64 ((R3 : Int) / 2))).setCell ⟨vb, vo + 3, none⟩ (.int .u64 (bits .and .u64 ((R3 : Int) / 2) 2251799813685247)))) ⟨vb, vo + 4, none⟩ = _ := (World.frozen?_setCell _ _ _ _).trans ((World.frozen?_setCell _ _ _ _).trans f4)
  have hx : Row ((w4.setCell ⟨vb, vo + 3, none⟩ (.int .u64 ((R3 : Int) / 2))).setCell ⟨vb, vo + 3, none⟩ (.int .u64 (bits .and .u64 ((R3 : Int) / 2) 2251799813685247))) b off 32 (byV N) := hx.keep ((Below.heap_setCell _ _ _ _ hne).trans (Below.heap_setCell _ _ _ _ hne))
  generalize ((w4.setCell ⟨vb, vo + 3, none⟩ (.int .u64 ((R3 : Int) / 2))).setCell ⟨vb, vo + 3, none⟩ (.int .u64 (bits .and .u64 ((R3 : Int) / 2) 2251799813685247))) = u4 at *
  refine (leU_any b (off + 24) (N / 256 ^ 24) _ _ (hx.shift 24 8 (by omega)) (R4 : Int) (Lib.hid (by rw [e4.out]))).mono ?_
  rintro e w5 ⟨rfl, rfl⟩
  go_wp2
  go_ret2
  have hw := (hw.set 4 (.int .u64 ((R4 : Int) / 4096))).set 4 (.int .u64 (bits .and .u64 ((R4 : Int) / 4096) 2251799813685247))
  refine ⟨rfl, Wr.five hw ?_ ?_ ?_ ?_ ?_⟩
  · refine u64_eq ?_
    have := mask51 (R0) (by omega)
    rw [hL.out]
    refine this.trans ?_
    rw [e0.out]; rfl
  · refine u64_eq ?_
    have := mask51 (R1 / 8) (by omega)
    rw [show ((R1 / 8 : Nat) : Int) = (R1 : Int) / 8 by omega] at this
    rw [hL.out]
    refine this.trans ?_
    rw [e1.out]; rfl
  · refine u64_eq ?_
    have := mask51 (R2 / 64) (by omega)
    rw [show ((R2 / 64 : Nat) : Int) = (R2 : Int) / 64 by omega] at this
    rw [hL.out]
    refine this.trans ?_
    rw [e2.out]; rfl
  · refine u64_eq ?_
    have := mask51 (R3 / 2) (by omega)
    rw [show ((R3 / 2 : Nat) : Int) = (R3 : Int) / 2 by omega] at this
    rw [hL.out]
    refine this.trans ?_
    rw [e3.out]; rfl
  · refine u64_eq ?_
    have := mask51 (R4 / 4096) (by omega)
    rw [show ((R4 / 4096 : Nat) : Int) = (R4 : Int) / 4096 by omega] at this
    rw [hL.out]
    refine this.trans ?_
    rw [e4.out]; rfl


theorem setBytes_any (vb vo b off N cap : Nat) (Lv : L5) (w0 : World) (hv : El w0 vb vo Lv) (hx : Row w0 b off 32 (byV N)) (hcap : 32 ≤ cap) (hne : b ≠ vb) :
    Calls Tryd.prog 17 #[.pointer (some ⟨vb, vo, none⟩), .slice (some ⟨b, off, none⟩) 32 cap] w0 fun e w' => e = .returned (.tuple #[.pointer (some ⟨vb, vo, none⟩), .nilIface]) ∧ Sets w0 w' vb vo (N % 57896044618658097711785492504343953926634992332820282019728792003956564819968 % pF) := by
  refine (setBytes_raw vb vo b off N cap Lv w0 hv hx hcap hne _ rfl).mono ?_
  rintro e w' ⟨rfl, h⟩
  exact ⟨rfl, _, ofN_bd N, by rw [ofN_val], h⟩
end
section
open Go.RowKit

theorem apart_off (b o o' : Nat) (h : o = o' ∨ o + 5 ≤ o' ∨ o' + 5 ≤ o) : Apart b o b o' := by unfold Apart; omega
theorem apart_blk (b b' o o' : Nat) (h : b ≠ b') : Apart b o b' o' := Or.inr (Or.inl h)
theorem mask_0 (w : World) : Calls Tryd.prog 55 #[.int .i64 0] w fun e w' => e = .returned (.int .u64 0) ∧ w = w' := by
  go_enter Tryd.func55, Tryd.ntmps55
  go_wp2
  go_ret
  exact ⟨rfl, rfl⟩
theorem mask_1 (w : World) : Calls Tryd.prog 55 #[.int .i64 1] w fun e w' => e = .returned (.int .u64 18446744073709551615) ∧ w = w' := by
  go_enter Tryd.func55, Tryd.ntmps55
  go_wp2
  go_ret
  exact ⟨rfl, rfl⟩
end
end Go.Proofs.YtemgflkecflhmaaDoor
