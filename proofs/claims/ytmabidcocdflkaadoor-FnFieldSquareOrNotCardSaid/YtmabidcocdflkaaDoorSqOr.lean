/- laws.FnFieldSquareOrNot returns true for all u and v, feZero and sqrtM1 being laid by the program's text. -/
import Derived.Test.YtmabidcocdflkaaDoorRows
import Derived.Test.YtmabidcocdflkaaDoorTie
import Derived.Test.YtmabidcocdflkaaDoorCards
import Derived.Test.YtmabidcocdflkaaDoorD3
import Derived.Test.YtmabidcocdflkaaDoorP1
import Derived.Test.YtmabidcocdflkaaDoorDLSO
import Derived.ChangeVars
set_option linter.unusedSimpArgs false
set_option linter.unusedVariables false
namespace Go.Proofs.YtmabidcocdflkaaDoor
open Go.ChangeShapes Go.WideShapes Go.ChangeAt Go.RowKit

set_option maxRecDepth 100000 in
theorem fnFieldSquareOrNot_laid {W : World} (h : laidMetH Tryd.prog Rows.fnFieldSquareOrNotRow.laid W) : Var 1 z5 W.heap.size W ∧ Var 0 i5 W.heap.size W := by
  rw [MakeChecks.laidMetH_plain _ _ _ (by kernel_rfl)] at h
  obtain ⟨ps, ⟨g0, t0, cs0, f0, q0, r0, hg0, ht0, hv0, hd0, ⟨g1, t1, cs1, f1, q1, r1, hg1, ht1, hv1, hd1, hlast, hp1⟩, hp0⟩, _, hfr⟩ := h
  obtain rfl := Option.some.inj ((show Tryd.prog.globalNamed "loop.example/pub-g03328/pub/field.feZero" = some 1 by kernel_rfl).symm.trans hg0)
  obtain rfl := Option.some.inj ((show (Tryd.prog.globals[1]?).map (·.type) = some 32 by kernel_rfl).symm.trans ht0)
  obtain rfl := Option.some.inj ((show Tryd.prog.globalNamed "loop.example/pub-g03328/pub/field.sqrtM1" = some 0 by kernel_rfl).symm.trans hg1)
  obtain rfl := Option.some.inj ((show (Tryd.prog.globals[0]?).map (·.type) = some 32 by kernel_rfl).symm.trans ht1)
  have hin0 : ∀ x, x ∈ q0 → x ∈ ps := by
    intro x hx
    rw [hp0]
    simp [hx]
  have hD0 := laid_el 0 0 0 0 0 hg0 hv0 hd0 (fun b off hm => (hfr b off (hin0 _ hm)).1)
  have hin1 : ∀ x, x ∈ q1 → x ∈ ps := by
    intro x hx
    rw [hp0, hp1]
    simp [hx]
  have hD1 := laid_el 1718705420411056 234908883556509 2233514472574048 2117202627021982 765476049583133 hg1 hv1 hd1 (fun b off hm => (hfr b off (hin1 _ hm)).1)
  exact ⟨hD0, hD1⟩

theorem fnFieldSquareOrNot_met (os : Os) (args : Array Value) : laidMetH Tryd.prog Rows.fnFieldSquareOrNotRow.laid ((World.doorLaid Tryd.prog 400 os).forCall (fun _ _ => 0) ⟨#[], args, []⟩).memory :=
  laidMetH_of_parts3 (fuel := 8) (laidMet_of_run' 8 (by kernel_rfl) (by kernel_rfl)) (by kernel_rfl) (by kernel_rfl)

set_option maxRecDepth 100000 in
theorem fnFieldSquareOrNot_lifted (os : Os) (started : os.Started) (H : Type) (enc : TypeId × Value → H) :
    ReturnsInHanded {} Tryd.checked os 3 .any (fun w args => (Rows.fnFieldSquareOrNotSpec.pre enc Tryd.prog Tryd.f3 [] false w args ∧ laidMetH Tryd.prog Rows.fnFieldSquareOrNotRow.laid w) ∧ sizedMet enc Tryd.prog Tryd.f3 (OpenSpec.ofChange Rows.fnFieldSquareOrNotSpec) false w args)
      (Rows.fnFieldSquareOrNotSpec.post enc Tryd.prog Tryd.f3 false true false false) := by
  refine returnsInHanded_of_change_and (C := Tryd.checked) (X := fun w _ => laidMetH Tryd.prog Rows.fnFieldSquareOrNotRow.laid w) (fun _ _ _ hh h => h.of_heap hh) Tryd.own started (by kernel_rfl) Tryd.func3
    (ChangeSpec.witness_shaped (enc := enc) (C := Tryd.checked) (os := os) (X := fun w _ => laidMetH Tryd.prog Rows.fnFieldSquareOrNotRow.laid w) false (World.doorLaid Tryd.prog 400 os) #[.agg #[.int .u8 0, .int .u8 0, .int .u8 0, .int .u8 0, .int .u8 0, .int .u8 0, .int .u8 0, .int .u8 0, .int .u8 0, .int .u8 0, .int .u8 0, .int .u8 0, .int .u8 0, .int .u8 0, .int .u8 0, .int .u8 0, .int .u8 0, .int .u8 0, .int .u8 0, .int .u8 0, .int .u8 0, .int .u8 0, .int .u8 0, .int .u8 0, .int .u8 0, .int .u8 0, .int .u8 0, .int .u8 0, .int .u8 0, .int .u8 0, .int .u8 0, .int .u8 0], .agg #[.int .u8 0, .int .u8 0, .int .u8 0, .int .u8 0, .int .u8 0, .int .u8 0, .int .u8 0, .int .u8 0, .int .u8 0, .int .u8 0, .int .u8 0, .int .u8 0, .int .u8 0, .int .u8 0, .int .u8 0, .int .u8 0, .int .u8 0, .int .u8 0, .int .u8 0, .int .u8 0, .int .u8 0, .int .u8 0, .int .u8 0, .int .u8 0, .int .u8 0, .int .u8 0, .int .u8 0, .int .u8 0, .int .u8 0, .int .u8 0, .int .u8 0, .int .u8 0]] 8 rfl (World.shaped_of_RefB (by kernel_rfl) (by kernel_rfl)) (by kernel_rfl) (by kernel_rfl) (by kernel_rfl) (fnFieldSquareOrNot_met os _)) ?_
  intro W base args ds gs before hval0 hW _ _ hL _
  have hval : ∀ (j : Nat) t v, Tryd.f3.params[j]? = some t → args[j]? = some v → Value.okWide Tryd.prog W .any base t v := hval0
  have hW' := hW
  obtain ⟨p, q, hA0, hV, rfl, hfz, hnd⟩ := hW
  have hA : DataW.TrodAll enc Tryd.prog W 0 (fun _ => true) true Tryd.f3.params.toList args.toList ds p := hA0
  rw [Tryd.params3] at hA hval
  obtain ⟨v0, v1, d0, d1, p0, p1, rfl, rfl, rfl, h0, h1⟩ := trodAll_two hA
  obtain ⟨X, bX, rfl, rfl, sX⟩ := open32 (hval 0 22 v0 rfl rfl) h0
  obtain ⟨Y, bY, rfl, rfl, sY⟩ := open32 (hval 1 22 v1 rfl rfl) h1
  clear hA0 hval0 hA
  have hVV : DataW.TrodVars enc Tryd.prog W (fun _ => true) ["loop.example/pub-g03328/pub/field.sqrtM1", "loop.example/pub-g03328/pub/field.feZero"] gs q := hV
  have hVs := fun W' (hB : Below W.heap.size W W') => vars_stay hB (ns := ["loop.example/pub-g03328/pub/field.sqrtM1", "loop.example/pub-g03328/pub/field.feZero"]) (gs := gs) (q := q) (by
    intro n hn g t hg ht
    simp only [List.mem_cons, List.not_mem_nil, or_false] at hn
    rcases hn with rfl | rfl
    · obtain rfl := Option.some.inj ((show Tryd.prog.globalNamed "loop.example/pub-g03328/pub/field.sqrtM1" = some 0 by kernel_rfl).symm.trans hg)
      obtain rfl := Option.some.inj ((show (Tryd.prog.globals[0]?).map (·.type) = some 32 by kernel_rfl).symm.trans ht)
      exact ⟨by kernel_rfl, of_decide_eq_true (by kernel_rfl)⟩
    · obtain rfl := Option.some.inj ((show Tryd.prog.globalNamed "loop.example/pub-g03328/pub/field.feZero" = some 1 by kernel_rfl).symm.trans hg)
      obtain rfl := Option.some.inj ((show (Tryd.prog.globals[1]?).map (·.type) = some 32 by kernel_rfl).symm.trans ht)
      exact ⟨by kernel_rfl, of_decide_eq_true (by kernel_rfl)⟩) hVV
  obtain ⟨y0, y1, hgs⟩ := list_len2 (trodVars_len hVV)
  subst hgs
  obtain ⟨hD0, hD1⟩ := fnFieldSquareOrNot_laid hL
  refine (SqOr_walk X bX Y bY W.heap.size W hD0 hD1).mono fun e W' ⟨he, hB⟩ => ?_
  subst he
  exact ⟨_, rfl, _, _, _, [], [], q, hW', trodAll_mk1 (shut_bool (by kernel_rfl) true), trodAll_mk2 (sX W' _) (sY W' _), hVs W' hB, hB.frame _, fun h => by cases h⟩

theorem fnFieldSquareOrNot_holds : Rows.FnFieldSquareOrNotSaid :=
  OpenClaim.holds_of_wide 3 Tryd.f3 rfl rfl rfl rfl rfl rfl rfl ⟨rfl, rfl, rfl, rfl, rfl⟩ rfl rfl rfl rfl rfl (by kernel_rfl) Tryd.func3 (by kernel_rfl)
    (of_decide_eq_true (by kernel_rfl)) (by unfold Func.isWrapper; first | (rw [if_pos (by decide +kernel)]; kernel_rfl) | (rw [if_neg (by decide +kernel)]; exact ⟨rfl, rfl⟩))
    (fun os started H enc _ => fnFieldSquareOrNot_lifted os started H enc)

theorem fnFieldSquareOrNot_card : Rows.FnFieldSquareOrNotCardSaid :=
  Claim7.holds_tied_plain_at .later [] [.widerDeep, .widerDeep] true Rows.fnFieldSquareOrNotCard.stood.harness false
    fnFieldSquareOrNot_holds (fun _ h => by cases h) (by kernel_rfl) (fun _ h => by cases h) fnFieldSquareOrNot_row_tie rfl ⟨rfl, rfl⟩ (by kernel_rfl) rfl
    (fun f fn hf hfn => by
      obtain rfl : f = 3 := Option.some.inj ((show Tryd.prog.funcNamed "loop.example/pub-g03328/laws.FnFieldSquareOrNot" = some 3 by kernel_rfl).symm.trans hf) |>.symm
      obtain rfl : fn = Tryd.f3 := (Option.some.inj (Tryd.func3.symm.trans hfn)).symm
      exact ⟨by kernel_rfl, fun j t ht => by
        rw [Tryd.params3] at ht
        have h3 : t = 22 := by
          rcases j with _ | _ | j
          · simp at ht; subst ht; simp
          · simp at ht; subst ht; simp
          · simp at ht
        subst h3
        exact (show Tryd.prog.wantsStandIn 22 = false by kernel_rfl)⟩)
    (by kernel_rfl)
end Go.Proofs.YtmabidcocdflkaaDoor
