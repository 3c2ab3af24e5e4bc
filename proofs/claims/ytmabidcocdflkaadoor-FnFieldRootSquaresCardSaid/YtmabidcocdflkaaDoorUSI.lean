/- Squares of five limbs: plain arithmetic. -/
import Derived.Test.YtmabidcocdflkaaDoorArith
set_option linter.unusedSimpArgs false
set_option linter.unusedVariables false
namespace Go.Proofs.YtmabidcocdflkaaDoor
open Go.RowKit

theorem sq_id (a0 a1 a2 a3 a4 : Nat) : (a0 * a0 + 38 * (a1 * a4) + 38 * (a2 * a3)) + 2251799813685248 * ((a0 * 2) * a1 + 38 * (a2 * a4) + 19 * (a3 * a3)) + 5070602400912917605986812821504 * ((a0 * 2) * a2 + a1 * a1 + 38 * (a3 * a4)) + 11417981541647679048466287755595961091061972992 * ((a0 * 2) * a3 + (a1 * 2) * a2 + 19 * (a4 * a4)) + 25711008708143844408671393477458601640355247900524685364822016 * ((a0 * 2) * a4 + (a1 * 2) * a3 + a2 * a2) + 57896044618658097711785492504343953926634992332820282019728792003956564819949 * ((a1 * a4+a2 * a3+a3 * a2+a4 * a1) + 2251799813685248 * (a2 * a4+a3 * a3+a4 * a2) + 5070602400912917605986812821504 * (a3 * a4+a4 * a3) + 11417981541647679048466287755595961091061972992 * (a4 * a4)) = ((a0) + 2251799813685248 * (a1) + 5070602400912917605986812821504 * (a2) + 11417981541647679048466287755595961091061972992 * (a3) + 25711008708143844408671393477458601640355247900524685364822016 * (a4)) * ((a0) + 2251799813685248 * (a1) + 5070602400912917605986812821504 * (a2) + 11417981541647679048466287755595961091061972992 * (a3) + 25711008708143844408671393477458601640355247900524685364822016 * (a4)) := by
  grind
theorem sq_val (a0 a1 a2 a3 a4 : Nat) : val5 ⟨a0 * a0 + 38 * (a1 * a4) + 38 * (a2 * a3), (a0 * 2) * a1 + 38 * (a2 * a4) + 19 * (a3 * a3), (a0 * 2) * a2 + a1 * a1 + 38 * (a3 * a4), (a0 * 2) * a3 + (a1 * 2) * a2 + 19 * (a4 * a4), (a0 * 2) * a4 + (a1 * 2) * a3 + a2 * a2⟩ % pF = val5 ⟨a0, a1, a2, a3, a4⟩ * val5 ⟨a0, a1, a2, a3, a4⟩ % pF := by
  have h := sq_id a0 a1 a2 a3 a4
  unfold val5
  simp only
  rw [← h]
  unfold pF
  rw [Nat.add_mul_mod_self_left]

theorem sq_cp_bd (V0 V1 V2 V3 V4 : Nat) (h0 : V0 ≤ 390531712071274790018052217897037) (h1 : V1 ≤ 390531712071274790018052217897037) (h2 : V2 ≤ 390531712071274790018052217897037) (h3 : V3 ≤ 390531712071274790018052217897037) (h4 : V4 ≤ 390531712071274790018052217897037) : Bd (cpL (cpL ⟨V0, V1, V2, V3, V4⟩)) := by
  refine cpL_bd _ ?_
  unfold W64 cpL
  simp only
  omega
theorem sq_bd (a0 a1 a2 a3 a4 : Nat) (ba0 : a0 ≤ 2252074691592191) (ba1 : a1 ≤ 2252074691592191) (ba2 : a2 ≤ 2252074691592191) (ba3 : a3 ≤ 2252074691592191) (ba4 : a4 ≤ 2252074691592191) : Bd (cpL (cpL ⟨a0 * a0 + 38 * (a1 * a4) + 38 * (a2 * a3), (a0 * 2) * a1 + 38 * (a2 * a4) + 19 * (a3 * a3), (a0 * 2) * a2 + a1 * a1 + 38 * (a3 * a4), (a0 * 2) * a3 + (a1 * 2) * a2 + 19 * (a4 * a4), (a0 * 2) * a4 + (a1 * 2) * a3 + a2 * a2⟩)) := by
  have p00 := Nat.mul_le_mul ba0 ba0
  have p01 := Nat.mul_le_mul ba0 ba1
  have p02 := Nat.mul_le_mul ba0 ba2
  have p03 := Nat.mul_le_mul ba0 ba3
  have p04 := Nat.mul_le_mul ba0 ba4
  have p11 := Nat.mul_le_mul ba1 ba1
  have p12 := Nat.mul_le_mul ba1 ba2
  have p13 := Nat.mul_le_mul ba1 ba3
  have p14 := Nat.mul_le_mul ba1 ba4
  have p22 := Nat.mul_le_mul ba2 ba2
  have p23 := Nat.mul_le_mul ba2 ba3
  have p24 := Nat.mul_le_mul ba2 ba4
  have p33 := Nat.mul_le_mul ba3 ba3
  have p34 := Nat.mul_le_mul ba3 ba4
  have p44 := Nat.mul_le_mul ba4 ba4
  have e01 : a0 * 2 * a1 = 2 * (a0 * a1) := by grind
  have e02 : a0 * 2 * a2 = 2 * (a0 * a2) := by grind
  have e03 : a0 * 2 * a3 = 2 * (a0 * a3) := by grind
  have e04 : a0 * 2 * a4 = 2 * (a0 * a4) := by grind
  have e12 : a1 * 2 * a2 = 2 * (a1 * a2) := by grind
  have e13 : a1 * 2 * a3 = 2 * (a1 * a3) := by grind
  have e14 : a1 * 2 * a4 = 2 * (a1 * a4) := by grind
  simp only [e01, e02, e03, e04, e12, e13]
  generalize a0 * a0 = q00 at *
  generalize a0 * a1 = q01 at *
  generalize a0 * a2 = q02 at *
  generalize a0 * a3 = q03 at *
  generalize a0 * a4 = q04 at *
  generalize a1 * a1 = q11 at *
  generalize a1 * a2 = q12 at *
  generalize a1 * a3 = q13 at *
  generalize a1 * a4 = q14 at *
  generalize a2 * a2 = q22 at *
  generalize a2 * a3 = q23 at *
  generalize a2 * a4 = q24 at *
  generalize a3 * a3 = q33 at *
  generalize a3 * a4 = q34 at *
  generalize a4 * a4 = q44 at *
  refine sq_cp_bd _ _ _ _ _ ?_ ?_ ?_ ?_ ?_ <;> omega

end Go.Proofs.YtmabidcocdflkaaDoor
