/- Negate, Zero, One: over the package's variables. -/
import Derived.Test.YtmabidcocdflkaaDoorD0
set_option linter.unusedSimpArgs false
set_option linter.unusedVariables false
namespace Go.Proofs.YtmabidcocdflkaaDoor
open Go.RowKit

theorem fe_zero {w : World} {b o : Nat} (h : El w b o z5) : Fe w b o 0 := ⟨z5, h, by unfold Bd z5; simp only; omega, by unfold val5 z5; simp⟩
def o5 : L5 := ⟨1, 0, 0, 0, 0⟩
theorem bd_o5 : Bd o5 := by unfold Bd o5; simp only; omega
theorem val_o5 : val5 o5 % pF = 1 := by unfold val5 o5 pF; simp
theorem bd_z5 : Bd z5 := by unfold Bd z5; simp only; omega
theorem val_z5 : val5 z5 % pF = 0 := by unfold val5 z5; simp

set_option maxHeartbeats 1000000 in
theorem neg_fe (vb vo ab ao x v0 B : Nat) (w : World) (hD : Var 1 z5 B w) (hvB : B ≤ vb) (hv : Fe w vb vo v0) (ha : Fe w ab ao x) (dA : Apart vb vo ab ao) (R : Nat) (hR : Hid (R = (pF - x) % pF)) :
    Calls Tryd.prog 19 #[.pointer (some ⟨vb, vo, none⟩), .pointer (some ⟨ab, ao, none⟩)] w fun e w' => e = .returned (.pointer (some ⟨vb, vo, none⟩)) ∧ Sets w w' vb vo R := by
  obtain ⟨hs, hg, zb, zo, hc, hzb, hE⟩ := hD
  obtain ⟨Lv, hL, _⟩ := hv
  have HE := Lib.hid (fe_zero hE); have HL := Lib.hid hL; have Ha := Lib.hid ha; clear hE hL ha
  go_enter Tryd.func19, Tryd.ntmps19
  go_wp2_with fail
  refine (sub_any vb vo zb zo ab ao 0 x Lv _ HL.out HE.out Ha.out (Or.inr (Or.inl (by omega))) dA).mono ?_
  rintro e w1 ⟨rfl, hs1⟩
  go_wp2
  go_ret
  refine ⟨rfl, ?_⟩
  rw [hR.out, show (pF - x) % pF = (0 + (pF - x)) % pF by rw [Nat.zero_add]]
  exact hs1



end Go.Proofs.YtmabidcocdflkaaDoor
