/- laws.FnExactFieldRun returns true for all start and ops, feZero, sqrtM1 and feOne being laid by the program's text. -/
import Derived.ChangeVars
import Derived.Test.YtemgflkecflhmaaDoorCards
import Derived.Test.YtemgflkecflhmaaDoorRows
import Derived.Test.YtemgflkecflhmaaDoorTie
import Derived.Test.YtemgflkecflhmaaDoorKL2
import Derived.Test.YtemgflkecflhmaaDoorKL5
import Derived.Test.YtemgflkecflhmaaDoorKL8
set_option maxRecDepth 4000
set_option linter.unusedSimpArgs false
set_option linter.unusedVariables false
namespace Go.Proofs.YtemgflkecflhmaaDoor
open Go.ChangeShapes Go.WideShapes Go.ChangeAt Go.RowKit

theorem weight_first {P : Program} {t e : TypeId} {ts : List TypeId} {H : Type} {l r : List (DataW H)} {ds : List (DataW H)} (ht : P.underlying t = some (.slice e)) (h : (DataW.weightsEach P (t :: ts) (.slice l r :: ds)).all (· ≤ reachBytes) = true) : l.length * P.bytesOf e ≤ reachBytes := by
  simp only [DataW.weightsEach, DataW.weights, ht, List.cons_append, List.all_cons, Bool.and_eq_true, decide_eq_true_eq] at h
  have h1 := h.1
  have := Nat.mul_le_mul_right (P.bytesOf e) (Nat.le_add_right l.length r.length)
  omega
set_option maxRecDepth 100000 in
theorem fnExactFieldRun_laid {W : World} (h : laidMetH Tryd.prog Rows.fnExactFieldRunRow.laid W) : Var 0 z5 W.heap.size W ∧ Var 2 o5 W.heap.size W ∧ Var 1 i5 W.heap.size W := by
  rw [MakeChecks.laidMetH_plain _ _ _ (by kernel_rfl)] at h
  obtain ⟨ps, ⟨g0, t0, cs0, f0, q0, r0, hg0, ht0, hv0, hd0, ⟨g1, t1, cs1, f1, q1, r1, hg1, ht1, hv1, hd1, ⟨g2, t2, cs2, f2, q2, r2, hg2, ht2, hv2, hd2, hlast, hp2⟩, hp1⟩, hp0⟩, _, hfr⟩ := h
  obtain rfl := Option.some.inj ((show Tryd.prog.globalNamed "loop.example/pub-g03328/pub/field.feZero" = some 0 by kernel_rfl).symm.trans hg0)
  obtain rfl := Option.some.inj ((show (Tryd.prog.globals[0]?).map (·.type) = some 29 by kernel_rfl).symm.trans ht0)
  obtain rfl := Option.some.inj ((show Tryd.prog.globalNamed "loop.example/pub-g03328/pub/field.feOne" = some 2 by kernel_rfl).symm.trans hg1)
  obtain rfl := Option.some.inj ((show (Tryd.prog.globals[2]?).map (·.type) = some 29 by kernel_rfl).symm.trans ht1)
  obtain rfl := Option.some.inj ((show Tryd.prog.globalNamed "loop.example/pub-g03328/pub/field.sqrtM1" = some 1 by kernel_rfl).symm.trans hg2)
  obtain rfl := Option.some.inj ((show (Tryd.prog.globals[1]?).map (·.type) = some 29 by kernel_rfl).symm.trans ht2)
  have hin0 : ∀ x, x ∈ q0 → x ∈ ps := by
    intro x hx
    rw [hp0]
    simp [hx]
  have hD0 := laid_el 0 0 0 0 0 hg0 hv0 hd0 (fun b off hm => (hfr b off (hin0 _ hm)).1)
  have hin1 : ∀ x, x ∈ q1 → x ∈ ps := by
    intro x hx
    rw [hp0, hp1]
    simp [hx]
  have hD1 := laid_el 1 0 0 0 0 hg1 hv1 hd1 (fun b off hm => (hfr b off (hin1 _ hm)).1)
  have hin2 : ∀ x, x ∈ q2 → x ∈ ps := by
    intro x hx
    rw [hp0, hp1, hp2]
    simp [hx]
  have hD2 := laid_el 1718705420411056 234908883556509 2233514472574048 2117202627021982 765476049583133 hg2 hv2 hd2 (fun b off hm => (hfr b off (hin2 _ hm)).1)
  exact ⟨hD0, hD1, hD2⟩

theorem fnExactFieldRun_met (os : Os) (args : Array Value) : laidMetH Tryd.prog Rows.fnExactFieldRunRow.laid ((World.doorLaid Tryd.prog 400 os).forCall (fun _ _ => 0) ⟨#[], args, []⟩).memory :=
  laidMetH_of_parts3 (fuel := 8) (laidMet_of_run' 8 (by kernel_rfl) (by kernel_rfl)) (by kernel_rfl) (by kernel_rfl)

set_option maxRecDepth 100000 in
theorem fnExactFieldRun_lifted (os : Os) (started : os.Started) (H : Type) (enc : TypeId × Value → H) :
    ReturnsInHanded {} Tryd.checked os 3 .any (fun w args => (Rows.fnExactFieldRunSpec.pre enc Tryd.prog Tryd.f3 [] false w args ∧ laidMetH Tryd.prog Rows.fnExactFieldRunRow.laid w) ∧ sizedMet enc Tryd.prog Tryd.f3 (OpenSpec.ofChange Rows.fnExactFieldRunSpec) false w args)
      (Rows.fnExactFieldRunSpec.post enc Tryd.prog Tryd.f3 false true false false) := by
  refine returnsInHanded_of_change_and (C := Tryd.checked) (X := fun w _ => laidMetH Tryd.prog Rows.fnExactFieldRunRow.laid w) (fun _ _ _ hh h => h.of_heap hh) Tryd.own started (by kernel_rfl) Tryd.func3
    (ChangeSpec.witness_shaped (enc := enc) (C := Tryd.checked) (os := os) (X := fun w _ => laidMetH Tryd.prog Rows.fnExactFieldRunRow.laid w) false (World.doorLaid Tryd.prog 400 os) #[.slice none 0 0, .slice none 0 0] 8 rfl (World.shaped_of_RefB (by kernel_rfl) (by kernel_rfl)) (by kernel_rfl) (by kernel_rfl) (by kernel_rfl) (fnExactFieldRun_met os _)) ?_
  intro W base args ds gs before hval0 hW _ hwt hL _
  have hval : ∀ (j : Nat) t v, Tryd.f3.params[j]? = some t → args[j]? = some v → Value.okWide Tryd.prog W .any base t v := hval0
  have hW' := hW
  obtain ⟨p, q, hA0, hV, rfl, hfz, hnd⟩ := hW
  have hA : DataW.TrodAll enc Tryd.prog W 0 (fun _ => true) true Tryd.f3.params.toList args.toList ds p := hA0
  rw [Tryd.params3] at hA hval
  obtain ⟨v0, v1, d0, d1, p0, p1, rfl, rfl, rfl, h0, h1⟩ := trodAll_two hA
  obtain ⟨sl, n, cap, S, rfl, hnm, hS, _, hd⟩ := open_rows (s := 32) (α := Nat) arrC (by omega) arrC_size (Ok := fun _ => True) underAs cells32 (fun h => (open_arr h).imp fun _ h => ⟨trivial, h⟩) (hval 0 22 v0 rfl rfl) h0
  obtain ⟨so, m, cp, O, rfl, hmm, hO, hON, _⟩ := open_rows (s := 5) opO (by omega) opO_size (Ok := fun o => o.n < 4294967296) underOps cells5 open_op (hval 1 23 v1 rfl rfl) h1
  have hn : n * 32 ≤ 140737488351232 := by
    rcases Nat.eq_zero_or_pos n with rfl | hp
    · omega
    · obtain ⟨l, r, rfl, hl⟩ := hd hp
      rw [Tryd.params3] at hwt
      have h := weight_first (l := l) (r := r) underAs hwt
      rw [show Tryd.prog.bytesOf 27 = 32 by kernel_rfl] at h
      have := Nat.mul_le_mul_right 32 hl
      unfold reachBytes at h
      omega
  obtain ⟨os, qos⟩ : ∃ os : List FOp, os = (List.range m).map O := ⟨_, rfl⟩
  have hos : os.length = m := by rw [qos]; simp
  have hget : ∀ i, i < m → os.getD i default = O i := by
    intro i hi
    rw [qos]
    simp [List.getD, hi]
  have hO' : RowsAt W so os.length 5 (fun i => opO (os.getD i default)) := by
    rw [hos]
    intro i hi
    obtain ⟨b, o, h1, h2, h3⟩ := hO i hi
    exact ⟨b, o, h1, h2, by simp only [hget i hi]; exact h3⟩
  have hN' : ∀ i, i < os.length → (os.getD i default).n < 4294967296 := by
    intro i hi
    rw [hos] at hi
    rw [hget i hi]
    exact hON i hi
  clear hA0 hval0 hA
  have hVV : DataW.TrodVars enc Tryd.prog W (fun _ => true) ["loop.example/pub-g03328/pub/field.feZero", "loop.example/pub-g03328/pub/field.sqrtM1", "loop.example/pub-g03328/pub/field.feOne"] gs q := hV
  have hVs := fun W' (hB : Below W.heap.size W W') => vars_stay hB (ns := ["loop.example/pub-g03328/pub/field.feZero", "loop.example/pub-g03328/pub/field.sqrtM1", "loop.example/pub-g03328/pub/field.feOne"]) (gs := gs) (q := q) (by
    intro n hn g t hg ht
    simp only [List.mem_cons, List.not_mem_nil, or_false] at hn
    rcases hn with rfl | rfl | rfl
    · obtain rfl := Option.some.inj ((show Tryd.prog.globalNamed "loop.example/pub-g03328/pub/field.feZero" = some 0 by kernel_rfl).symm.trans hg)
      obtain rfl := Option.some.inj ((show (Tryd.prog.globals[0]?).map (·.type) = some 29 by kernel_rfl).symm.trans ht)
      exact ⟨by kernel_rfl, of_decide_eq_true (by kernel_rfl)⟩
    · obtain rfl := Option.some.inj ((show Tryd.prog.globalNamed "loop.example/pub-g03328/pub/field.sqrtM1" = some 1 by kernel_rfl).symm.trans hg)
      obtain rfl := Option.some.inj ((show (Tryd.prog.globals[1]?).map (·.type) = some 29 by kernel_rfl).symm.trans ht)
      exact ⟨by kernel_rfl, of_decide_eq_true (by kernel_rfl)⟩
    · obtain rfl := Option.some.inj ((show Tryd.prog.globalNamed "loop.example/pub-g03328/pub/field.feOne" = some 2 by kernel_rfl).symm.trans hg)
      obtain rfl := Option.some.inj ((show (Tryd.prog.globals[2]?).map (·.type) = some 29 by kernel_rfl).symm.trans ht)
      exact ⟨by kernel_rfl, of_decide_eq_true (by kernel_rfl)⟩) hVV
  obtain ⟨y0, y1, y2, hgs⟩ := list_len3 (trodVars_len hVV)
  subst hgs
  obtain ⟨hD0, hD1, hD2⟩ := fnExactFieldRun_laid hL
  have hml : os.length ≤ 9223372036854775807 := by rw [hos]; unfold maxLen at hmm; omega
  have hcall := fr_walk sl so n cap cp S os W hn hml (Lib.hid hS) (Lib.hid hO') (Lib.hid hN') W.heap.size (Nat.le_refl _) (Lib.hid hD0) (Lib.hid hD2) (Lib.hid hD1)
  rw [hos] at hcall
  refine hcall.mono fun e W' ⟨he, hB⟩ => ?_
  subst he
  exact ⟨_, rfl, _, _, _, [], _, q, hW', trodAll_mk1 (shut_bool (by kernel_rfl) true), trodAll_mk2 (arg_stay (by kernel_rfl) (of_decide_eq_true (by kernel_rfl)) h0 hB) (arg_stay (by kernel_rfl) (of_decide_eq_true (by kernel_rfl)) h1 hB), hVs W' hB, hB.frame _, fun h => by cases h⟩

theorem fnExactFieldRun_holds : Rows.FnExactFieldRunSaid :=
  OpenClaim.holds_of_wide 3 Tryd.f3 rfl rfl rfl rfl rfl rfl rfl ⟨rfl, rfl, rfl, rfl, rfl⟩ rfl rfl rfl rfl rfl (by kernel_rfl) Tryd.func3 (by kernel_rfl)
    (of_decide_eq_true (by kernel_rfl)) (by unfold Func.isWrapper; first | (rw [if_pos (by decide +kernel)]; kernel_rfl) | (rw [if_neg (by decide +kernel)]; exact ⟨rfl, rfl⟩))
    (fun os started H enc _ => fnExactFieldRun_lifted os started H enc)

theorem fnExactFieldRun_card : Rows.FnExactFieldRunCardSaid :=
  Claim7.holds_tied_plain_at .later [] [.widerDeep, .widerDeep, .widerDeep] true Rows.fnExactFieldRunCard.stood.harness false
    fnExactFieldRun_holds (fun _ h => by cases h) (by kernel_rfl) (fun _ h => by cases h) fnExactFieldRun_row_tie rfl ⟨rfl, rfl⟩ (by kernel_rfl) rfl
    (fun f fn hf hfn => by
      obtain rfl : f = 3 := Option.some.inj ((show Tryd.prog.funcNamed "loop.example/pub-g03328/laws.FnExactFieldRun" = some 3 by kernel_rfl).symm.trans hf) |>.symm
      obtain rfl : fn = Tryd.f3 := (Option.some.inj (Tryd.func3.symm.trans hfn)).symm
      exact ⟨by kernel_rfl, fun j t ht => by
        rw [Tryd.params3] at ht
        have h3 : t = 22 ∨ t = 23 := by
          rcases j with _ | _ | j
          · simp at ht; subst ht; simp
          · simp at ht; subst ht; simp
          · simp at ht
        rcases h3 with rfl | rfl
        · exact (show Tryd.prog.wantsStandIn 22 = false by kernel_rfl)
        · exact (show Tryd.prog.wantsStandIn 23 = false by kernel_rfl)⟩)
    (by kernel_rfl)
end Go.Proofs.YtemgflkecflhmaaDoor
