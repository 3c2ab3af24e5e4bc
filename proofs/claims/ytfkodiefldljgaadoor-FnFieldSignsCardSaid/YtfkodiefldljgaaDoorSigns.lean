/- laws.FnFieldSigns returns true for all a, feZero being laid by the program's text. -/
import Derived.Test.YtfkodiefldljgaaDoorRows
import Derived.Test.YtfkodiefldljgaaDoorTie
import Derived.Test.YtfkodiefldljgaaDoorCards
import Derived.Test.YtfkodiefldljgaaDoorD3
import Derived.Test.YtfkodiefldljgaaDoorP1
import Derived.Test.YtfkodiefldljgaaDoorDLSg
import Derived.ChangeVars
namespace Go.Proofs.YtfkodiefldljgaaDoor
open Go.ChangeShapes Go.WideShapes Go.ChangeAt Go.RowKit

set_option maxRecDepth 100000 in
theorem fnFieldSigns_laid {W : World} (h : laidMetH Tryd.prog Rows.fnFieldSignsRow.laid W) : Var 0 z5 W.heap.size W := by
  rw [MakeChecks.laidMetH_plain _ _ _ (by kernel_rfl)] at h
  obtain ⟨ps, ⟨g0, t0, cs0, f0, q0, r0, hg0, ht0, hv0, hd0, hlast, hp0⟩, _, hfr⟩ := h
  obtain rfl := Option.some.inj ((show Tryd.prog.globalNamed "loop.example/pub-g03328/pub/field.feZero" = some 0 by kernel_rfl).symm.trans hg0)
  obtain rfl := Option.some.inj ((show (Tryd.prog.globals[0]?).map (·.type) = some 31 by kernel_rfl).symm.trans ht0)
  have hin0 : ∀ x, x ∈ q0 → x ∈ ps := by
    intro x hx
    rw [hp0]
    simp [hx]
  have hD0 := laid_el 0 0 0 0 0 hg0 hv0 hd0 (fun b off hm => (hfr b off (hin0 _ hm)).1)
  exact hD0

theorem fnFieldSigns_met (os : Os) (args : Array Value) : laidMetH Tryd.prog Rows.fnFieldSignsRow.laid ((World.doorLaid Tryd.prog 400 os).forCall (fun _ _ => 0) ⟨#[], args, []⟩).memory :=
  laidMetH_of_parts3 (fuel := 8) (laidMet_of_run' 8 (by kernel_rfl) (by kernel_rfl)) (by kernel_rfl) (by kernel_rfl)

set_option maxRecDepth 100000 in
theorem fnFieldSigns_lifted (os : Os) (started : os.Started) (H : Type) (enc : TypeId × Value → H) :
    ReturnsInHanded {} Tryd.checked os 6 .any (fun w args => (Rows.fnFieldSignsSpec.pre enc Tryd.prog Tryd.f6 [] false w args ∧ laidMetH Tryd.prog Rows.fnFieldSignsRow.laid w) ∧ sizedMet enc Tryd.prog Tryd.f6 (OpenSpec.ofChange Rows.fnFieldSignsSpec) false w args)
      (Rows.fnFieldSignsSpec.post enc Tryd.prog Tryd.f6 false true false false) := by
  refine returnsInHanded_of_change_and (C := Tryd.checked) (X := fun w _ => laidMetH Tryd.prog Rows.fnFieldSignsRow.laid w) (fun _ _ _ hh h => h.of_heap hh) Tryd.own started (by kernel_rfl) Tryd.func6
    (ChangeSpec.witness_shaped (enc := enc) (C := Tryd.checked) (os := os) (X := fun w _ => laidMetH Tryd.prog Rows.fnFieldSignsRow.laid w) false (World.doorLaid Tryd.prog 400 os) #[.agg #[.int .u8 0, .int .u8 0, .int .u8 0, .int .u8 0, .int .u8 0, .int .u8 0, .int .u8 0, .int .u8 0, .int .u8 0, .int .u8 0, .int .u8 0, .int .u8 0, .int .u8 0, .int .u8 0, .int .u8 0, .int .u8 0, .int .u8 0, .int .u8 0, .int .u8 0, .int .u8 0, .int .u8 0, .int .u8 0, .int .u8 0, .int .u8 0, .int .u8 0, .int .u8 0, .int .u8 0, .int .u8 0, .int .u8 0, .int .u8 0, .int .u8 0, .int .u8 0]] 8 rfl (World.shaped_of_RefB (by kernel_rfl) (by kernel_rfl)) (by kernel_rfl) (by kernel_rfl) (by kernel_rfl) (fnFieldSigns_met os _)) ?_
  intro W base args ds gs before hval0 hW _ _ hL _
  have hval : ∀ (j : Nat) t v, Tryd.f6.params[j]? = some t → args[j]? = some v → Value.okWide Tryd.prog W .any base t v := hval0
  have hW' := hW
  obtain ⟨p, q, hA0, hV, rfl, hfz, hnd⟩ := hW
  have hA : DataW.TrodAll enc Tryd.prog W 0 (fun _ => true) true Tryd.f6.params.toList args.toList ds p := hA0
  rw [Tryd.params6] at hA hval
  obtain ⟨v0, d0, rfl, rfl, h0⟩ := trodAll_one hA
  obtain ⟨X, bX, rfl, rfl, sX⟩ := open32 (hval 0 22 v0 rfl rfl) h0
  clear hA0 hval0 hA
  have hVV : DataW.TrodVars enc Tryd.prog W (fun _ => true) ["loop.example/pub-g03328/pub/field.feZero"] gs q := hV
  have hVs := fun W' (hB : Below W.heap.size W W') => vars_stay hB (ns := ["loop.example/pub-g03328/pub/field.feZero"]) (gs := gs) (q := q) (by
    intro n hn g t hg ht
    simp only [List.mem_cons, List.not_mem_nil, or_false] at hn
    subst hn
    obtain rfl := Option.some.inj ((show Tryd.prog.globalNamed "loop.example/pub-g03328/pub/field.feZero" = some 0 by kernel_rfl).symm.trans hg)
    obtain rfl := Option.some.inj ((show (Tryd.prog.globals[0]?).map (·.type) = some 31 by kernel_rfl).symm.trans ht)
    exact ⟨by kernel_rfl, of_decide_eq_true (by kernel_rfl)⟩) hVV
  obtain ⟨y0, hgs⟩ := list_len1 (trodVars_len hVV)
  subst hgs
  have hD0 := fnFieldSigns_laid hL
  refine (Signs_walk X bX W.heap.size W hD0).mono fun e W' ⟨he, hB⟩ => ?_
  subst he
  exact ⟨_, rfl, _, _, _, [], [], q, hW', trodAll_mk1 (shut_bool (by kernel_rfl) true), trodAll_mk1 (sX W' _), hVs W' hB, hB.frame _, fun h => by cases h⟩

theorem fnFieldSigns_holds : Rows.FnFieldSignsSaid :=
  OpenClaim.holds_of_wide 6 Tryd.f6 rfl rfl rfl rfl rfl rfl rfl ⟨rfl, rfl, rfl, rfl, rfl⟩ rfl rfl rfl rfl rfl (by kernel_rfl) Tryd.func6 (by kernel_rfl)
    (of_decide_eq_true (by kernel_rfl)) (by unfold Func.isWrapper; first | (rw [if_pos (by decide +kernel)]; kernel_rfl) | (rw [if_neg (by decide +kernel)]; exact ⟨rfl, rfl⟩))
    (fun os started H enc _ => fnFieldSigns_lifted os started H enc)

theorem fnFieldSigns_card : Rows.FnFieldSignsCardSaid :=
  Claim7.holds_tied_plain_at .later [] [.widerDeep] true Rows.fnFieldSignsCard.stood.harness false
    fnFieldSigns_holds (fun _ h => by cases h) (by kernel_rfl) (fun _ h => by cases h) fnFieldSigns_row_tie rfl ⟨rfl, rfl⟩ (by kernel_rfl) rfl
    (fun f fn hf hfn => by
      obtain rfl : f = 6 := Option.some.inj ((show Tryd.prog.funcNamed "loop.example/pub-g03328/laws.FnFieldSigns" = some 6 by kernel_rfl).symm.trans hf) |>.symm
      obtain rfl : fn = Tryd.f6 := (Option.some.inj (Tryd.func6.symm.trans hfn)).symm
      exact ⟨by kernel_rfl, fun j t ht => by
        rw [Tryd.params6] at ht
        have h3 : t = 22 := by
          rcases j with _ | j
          · simp at ht; subst ht; simp
          · simp at ht
        subst h3
        exact (show Tryd.prog.wantsStandIn 22 = false by kernel_rfl)⟩)
    (by kernel_rfl)
end Go.Proofs.YtfkodiefldljgaaDoor
