/- Arguments of other types opened: uint32, int. -/
import Derived.Test.YtmabidcocdflkaaDoorP0
set_option linter.unusedSimpArgs false
set_option linter.unusedVariables false
namespace Go.Proofs.YtmabidcocdflkaaDoor
open Go.ChangeShapes Go.WideShapes Go.ChangeAt Go.RowKit

theorem underU32 : Tryd.prog.underlying 82 = some (.int .u32) := by kernel_rfl
theorem openU32 {H : Type} {enc : TypeId × Value → H} {W : World} {base : Nat} {v : Value} {d : DataW H} {ps : List MemPlace}
    (hok : Value.okWide Tryd.prog W .any base 82 v) (h : DataW.Trod enc Tryd.prog W 0 (fun _ => true) true 82 v d ps) :
    ∃ n : Nat, n < 4294967296 ∧ v = .int .u32 (n : Int) ∧ ps = [] ∧ ∀ (W' : World) (sp : Nat → Bool), DataW.Trod enc Tryd.prog W' 0 sp true 82 (.int .u32 (n : Int)) d [] := by
  obtain ⟨n, rfl, rfl, rfl, wf⟩ := ChangeShapes.open_int underU32 hok h
  have hb := bounds_u32 wf
  obtain ⟨m, rfl⟩ : ∃ m : Nat, n = (m : Int) := ⟨n.toNat, by omega⟩
  exact ⟨m, by omega, rfl, rfl, fun W' sp => ChangeShapes.shut_int underU32 wf⟩
theorem underI : Tryd.prog.underlying 3 = some (.int .i64) := by kernel_rfl
theorem openInt {H : Type} {enc : TypeId × Value → H} {W : World} {base : Nat} {v : Value} {d : DataW H} {ps : List MemPlace}
    (hok : Value.okWide Tryd.prog W .any base 3 v) (h : DataW.Trod enc Tryd.prog W 0 (fun _ => true) true 3 v d ps) :
    ∃ n : Int, (-9223372036854775808 ≤ n ∧ n ≤ 9223372036854775807) ∧ v = .int .i64 n ∧ ps = [] ∧ ∀ (W' : World) (sp : Nat → Bool), DataW.Trod enc Tryd.prog W' 0 sp true 3 (.int .i64 n) d [] := by
  obtain ⟨n, rfl, rfl, rfl, wf⟩ := ChangeShapes.open_int underI hok h
  exact ⟨n, bounds_i64 wf, rfl, rfl, fun W' sp => ChangeShapes.shut_int underI wf⟩
end Go.Proofs.YtmabidcocdflkaaDoor
