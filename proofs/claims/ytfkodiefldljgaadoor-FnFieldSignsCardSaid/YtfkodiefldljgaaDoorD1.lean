/- Negate, Zero, One: over the package's variables. -/
import Derived.Test.YtfkodiefldljgaaDoorD0
namespace Go.Proofs.YtfkodiefldljgaaDoor
open Go.RowKit

theorem fe_zero {w : World} {b o : Nat} (h : El w b o z5) : Fe w b o 0 := ⟨z5, h, by unfold Bd z5; simp only; omega, by unfold val5 z5; simp⟩
def o5 : L5 := ⟨1, 0, 0, 0, 0⟩
theorem bd_o5 : Bd o5 := by unfold Bd o5; simp only; omega
theorem val_o5 : val5 o5 % pF = 1 := by unfold val5 o5 pF; simp
theorem bd_z5 : Bd z5 := by unfold Bd z5; simp only; omega
theorem val_z5 : val5 z5 % pF = 0 := by unfold val5 z5; simp

set_option maxHeartbeats 1000000 in
theorem neg_fe (vb vo ab ao x v0 B : Nat) (w : World) (hD : Var 0 z5 B w) (hvB : B ≤ vb) (hv : Fe w vb vo v0) (ha : Fe w ab ao x) (dA : Apart vb vo ab ao) (R : Nat) (hR : Hid (R = (pF - x) % pF)) :
    Calls Tryd.prog 28 #[.pointer (some ⟨vb, vo, none⟩), .pointer (some ⟨ab, ao, none⟩)] w fun e w' => e = .returned (.pointer (some ⟨vb, vo, none⟩)) ∧ Sets w w' vb vo R := by
  obtain ⟨hs, hg, zb, zo, hc, hzb, hE⟩ := hD
  obtain ⟨Lv, hL, _⟩ := hv
  have HE := Lib.hid (fe_zero hE); have HL := Lib.hid hL; have Ha := Lib.hid ha; clear hE hL ha
  go_enter Tryd.func28, Tryd.ntmps28
  go_wp2_with fail
  refine (sub_any vb vo zb zo ab ao 0 x Lv _ HL.out HE.out Ha.out (Or.inr (Or.inl (by omega))) dA).mono ?_
  rintro e w1 ⟨rfl, hs1⟩
  go_wp2
  go_ret
  refine ⟨rfl, ?_⟩
  rw [hR.out, show (pF - x) % pF = (0 + (pF - x)) % pF by rw [Nat.zero_add]]
  exact hs1

set_option maxHeartbeats 1000000 in
theorem zero_fe (vb vo v0 B : Nat) (w : World) (hD : Var 0 z5 B w) (hvB : B ≤ vb) (hv : Fe w vb vo v0) :
    Calls Tryd.prog 23 #[.pointer (some ⟨vb, vo, none⟩)] w fun e w' => e = .returned (.pointer (some ⟨vb, vo, none⟩)) ∧ Sets w w' vb vo 0 := by
  obtain ⟨hs, hg, zb, zo, hc, hzb, hE⟩ := hD
  obtain ⟨Lv, hL, _⟩ := hv
  have h0 := hE.c0; have h1 := hE.c1; have h2 := hE.c2; have h3 := hE.c3; have h4 := hE.c4
  have f0 := hL.f0; have f1 := hL.f1; have f2 := hL.f2; have f3 := hL.f3; have f4 := hL.f4
  have k0 := hL.c0; have k1 := hL.c1; have k2 := hL.c2; have k3 := hL.c3; have k4 := hL.c4
  have HL := Lib.hid hL; clear hL hE
  go_enter Tryd.func23, Tryd.ntmps23
  go_wp2
  go_ret
  exact ⟨rfl, z5, bd_z5, val_z5, Wr.five ((((((Wr.start HL.out).set 0 _).set 1 _).set 2 _).set 3 _).set 4 _) rfl rfl rfl rfl rfl⟩

set_option maxHeartbeats 1000000 in
theorem one_fe (vb vo v0 B : Nat) (w : World) (hD : Var 1 o5 B w) (hvB : B ≤ vb) (hv : Fe w vb vo v0) :
    Calls Tryd.prog 24 #[.pointer (some ⟨vb, vo, none⟩)] w fun e w' => e = .returned (.pointer (some ⟨vb, vo, none⟩)) ∧ Sets w w' vb vo 1 := by
  obtain ⟨hs, hg, zb, zo, hc, hzb, hE⟩ := hD
  obtain ⟨Lv, hL, _⟩ := hv
  have h0 := hE.c0; have h1 := hE.c1; have h2 := hE.c2; have h3 := hE.c3; have h4 := hE.c4
  have f0 := hL.f0; have f1 := hL.f1; have f2 := hL.f2; have f3 := hL.f3; have f4 := hL.f4
  have k0 := hL.c0; have k1 := hL.c1; have k2 := hL.c2; have k3 := hL.c3; have k4 := hL.c4
  have HL := Lib.hid hL; clear hL hE
  go_enter Tryd.func24, Tryd.ntmps24
  go_wp2
  go_ret
  exact ⟨rfl, o5, bd_o5, val_o5, Wr.five ((((((Wr.start HL.out).set 0 _).set 1 _).set 2 _).set 3 _).set 4 _) rfl rfl rfl rfl rfl⟩

end Go.Proofs.YtfkodiefldljgaaDoor
