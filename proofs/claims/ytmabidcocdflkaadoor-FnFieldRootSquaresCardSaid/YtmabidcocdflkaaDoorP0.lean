/- An argument of type [32]byte opened: it is the 32 bytes of a number. -/
import Derived.Test.YtmabidcocdflkaaDoorL0
import Derived.ProofKit
import Derived.OpenShut
set_option linter.unusedSimpArgs false
set_option linter.unusedVariables false
namespace Go.Proofs.YtmabidcocdflkaaDoor
open Go.ChangeShapes Go.WideShapes Go.ChangeAt Go.RowKit

theorem Tryd.own : ownKnob Tryd.prog.godebug = none := by kernel_rfl
theorem Tryd.laidOut : laidOutB Tryd.prog = true := by kernel_rfl

def numOf (f : Nat → Nat) : Nat → Nat
  | 0 => 0
  | n + 1 => numOf f n + 256 ^ n * f n
theorem numOf_lt (f : Nat → Nat) (hf : ∀ i, f i < 256) : ∀ n, numOf f n < 256 ^ n
  | 0 => by simp [numOf]
  | n + 1 => by
    have h1 := numOf_lt f hf n
    have h2 : 256 ^ n * f n ≤ 256 ^ n * 255 := Nat.mul_le_mul_left _ (by have := hf n; omega)
    rw [numOf, Nat.pow_succ]
    omega
theorem numOf_byte (f : Nat → Nat) (hf : ∀ i, f i < 256) : ∀ n i, i < n → byteN (numOf f n) i = f i
  | 0, i, h => by omega
  | n + 1, i, h => by
    rw [numOf]
    by_cases hi : i < n
    · rw [← byteN_mod _ n i hi, Nat.add_mul_mod_self_left, byteN_mod _ n i hi]
      exact numOf_byte f hf n i hi
    · have e : i = n := by omega
      subst e
      unfold byteN
      rw [Nat.add_mul_div_left _ _ (Nat.pow_pos (by omega)), Nat.div_eq_of_lt (numOf_lt f hf i), Nat.zero_add, Nat.mod_eq_of_lt (hf i)]

theorem cells32 : Tryd.prog.cellsOf 22 = 32 := by kernel_rfl
theorem flat_nil {α β : Type} (xs : List (α × List β)) (h : ∀ i, i < xs.length → ∃ a, xs[i]? = some (a, [])) : xs.flatMap (·.2) = [] := by
  rw [List.flatMap_eq_nil_iff]
  intro x hx
  obtain ⟨i, hi, rfl⟩ := List.getElem_of_mem hx
  obtain ⟨a, ha⟩ := h i hi
  rw [List.getElem?_eq_getElem hi] at ha
  injection ha with ha
  rw [ha]

theorem open32 {H : Type} {enc : TypeId × Value → H} {W : World} {base : Nat} {v : Value} {d : DataW H} {ps : List MemPlace}
    (hok : Value.okWide Tryd.prog W .any base 22 v) (h : DataW.Trod enc Tryd.prog W 0 (fun _ => true) true 22 v d ps) :
    ∃ N, N < 256 ^ 32 ∧ v = arrV N ∧ ps = [] ∧ ∀ (W' : World) (sp : Nat → Bool), DataW.Trod enc Tryd.prog W' 0 sp true 22 (arrV N) d [] := by
  obtain ⟨cs, rfl, hsz, _⟩ : ∃ cs, v = .agg cs ∧ cs.size = Tryd.prog.cellsOf 22 ∧ Row.okWide Tryd.prog W .any base 22 cs := by
    simpa [Value.okWide, under32] using hok
  have hh := h
  obtain ⟨fuel, hf⟩ := h
  obtain ⟨xs, m, rfl, hx, hlen, hxl, hel⟩ := DataW.trod_array under32 hf
  rw [cells32] at hsz
  have each : ∀ i, i < 32 → ∃ n : Nat, n < 256 ∧ cs[i]? = some (.int .u8 (n : Int)) ∧ ∃ a, xs[i]? = some (a, []) := by
    intro i hi
    have h1 := hel i hi
    rw [cells8, List.getElem?_eq_getElem (by omega)] at h1
    obtain ⟨n, e1, e2, wf⟩ := DataW.trod_int under8 h1
    have hb := bounds_u8 wf
    refine ⟨n.toNat, by omega, ?_, ?_⟩
    · have : ((Value.agg cs).cells.toList.drop (i * 1)).take 1 = [cs[i]'(by omega)] := by
        rw [Nat.mul_one]
        simp only [Value.cells]
        rw [List.drop_eq_getElem_cons (by simp; omega)]
        simp
      rw [this] at e1
      injection e1 with e1
      rw [Array.getElem?_eq_getElem (by omega), e1]
      congr 2; omega
    · exact ⟨_, by rw [List.getElem?_eq_getElem (by omega), e2]⟩
  let f : Nat → Nat := fun i => if h : i < 32 then (each i h).choose else 0
  have hf256 : ∀ i, f i < 256 := by
    intro i
    by_cases h : i < 32
    · have := (each i h).choose_spec.1
      simp only [f, dif_pos h]; exact this
    · simp only [f, dif_neg h]; omega
  have hN : cs = arrC (numOf f 32) := by
    refine arr_ext _ _ hsz fun i hi => ?_
    have := (each i hi).choose_spec.2.1
    rw [this]
    unfold byV
    rw [numOf_byte f hf256 32 i hi]
    simp only [f, dif_pos hi]
  have hps : ps = [] := by
    have := congrArg Prod.snd hx
    simp only at this
    rw [this]
    exact flat_nil xs fun i hi => (each i (by omega)).choose_spec.2.2
  subst hps
  rw [hN] at hh
  refine ⟨numOf f 32, numOf_lt f hf256 32, by rw [hN]; rfl, rfl, fun W' sp => ?_⟩
  exact WideElems.Trod_stays Tryd.laidOut (by kernel_rfl) (of_decide_eq_true (by kernel_rfl)) hh (fun _ h => by cases h) (fun _ h => by cases h)
end Go.Proofs.YtmabidcocdflkaaDoor
