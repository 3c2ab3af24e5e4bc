/- The laid variables, opened. -/
import Derived.Test.YtmabidcocdflkaaDoorD1
import Derived.ChangeVars
import Derived.ChangeBears2
set_option linter.unusedSimpArgs false
set_option linter.unusedVariables false
namespace Go.Proofs.YtmabidcocdflkaaDoor
open Go.ChangeShapes Go.WideShapes Go.ChangeAt Go.RowKit Go.Deep

theorem list_len1 {α : Type} {l : List α} (h : l.length = 1) : ∃ a, l = [a] := by
  match l, h with
  | [a], _ => exact ⟨a, rfl⟩
theorem list_len2 {α : Type} {l : List α} (h : l.length = 2) : ∃ a b, l = [a, b] := by
  match l, h with
  | [a, b], _ => exact ⟨a, b, rfl⟩
theorem list_len3 {α : Type} {l : List α} (h : l.length = 3) : ∃ a b c, l = [a, b, c] := by
  match l, h with
  | [a, b, c], _ => exact ⟨a, b, c, rfl⟩
theorem list_len4 {α : Type} {l : List α} (h : l.length = 4) : ∃ a b c d, l = [a, b, c, d] := by
  match l, h with
  | [a, b, c, d], _ => exact ⟨a, b, c, d, rfl⟩
theorem trodVars_len {H : Type} {enc : TypeId × Value → H} {W : World} {sp : Nat → Bool} : ∀ {ns : List String} {gs : List (DataW H)} {q : List MemPlace}, DataW.TrodVars enc Tryd.prog W sp ns gs q → gs.length = ns.length
  | [], [], _, _ => rfl
  | [], _ :: _, _, h => absurd h (by intro h; cases h)
  | _ :: _, [], _, h => absurd h (by intro h; cases h)
  | n :: ns, d :: ds, _, h => by
    obtain ⟨g, t, cs, fuel, p, q, hg, ht, hv, hd, hr, rfl⟩ := h
    simp [trodVars_len hr]
theorem laid_el {H : Type} {enc : TypeId × Value → H} {W : World} {sp : Nat → Bool} {held : Bool} {fuel g : Nat} {n : String} {cs : Array Value} {p : List MemPlace} (a0 a1 a2 a3 a4 : Nat) (hg : Tryd.prog.globalNamed n = some g) (hv : W.var? Tryd.prog n = some cs)
    (hd : DataW.trod enc Tryd.prog W 0 sp held fuel 32 cs.toList = some (.ptr (.agg [.lit (.int .u64 (a0 : Int)), .lit (.int .u64 (a1 : Int)), .lit (.int .u64 (a2 : Int)), .lit (.int .u64 (a3 : Int)), .lit (.int .u64 (a4 : Int))]), p))
    (hf : ∀ b off, MemPlace.cell b off ∈ p → ∃ c t, W.heap[b]? = some (.cells c t (0, 0))) : Var g ⟨a0, a1, a2, a3, a4⟩ W.heap.size W := by
  obtain ⟨b, o, e, hE⟩ := var_of a0 a1 a2 a3 a4 hd hf
  have hc : W.cell? ⟨g, 0, none⟩ = some (.pointer (some ⟨b, o, none⟩)) := by
    have := World.var?_cell hg hv 0
    rw [Array.eq_one_of_toList e] at this
    simpa using this
  exact ⟨Nat.le_refl _, World.block_lt_of_cell? W ⟨g, 0, none⟩ hc, b, o, hc, hE.lt, hE⟩

end Go.Proofs.YtmabidcocdflkaaDoor
