/- Parts of texts for several laws: laws. -/
import Derived.BigRegion
import Derived.ChangeKeysEq
import Derived.Deep.Draws
import Derived.Deep.Quiet
import Derived.Deep.RegionHeld3
import Derived.Deep.WholeRow
import Derived.Laws.AppendOwn
import Derived.Laws.Bits64b
import Derived.Laws.CopyOwn
import Derived.Laws.Tables
import Derived.Lib.Hide
import Derived.LoopTactic
import Derived.StillTailTactics
import Derived.Test.YtcenlinpbpbpoaaDoorProg
import Derived.WalkKit
import Derived.WalkLawsBesides
import Derived.WalkSpells
import Derived.Test.YtcenlinpbpbpoaaDoorKC0
import Derived.Test.YtcenlinpbpbpoaaDoorKC2
import Derived.Test.YtcenlinpbpbpoaaDoorKC6
import Derived.Test.YtcenlinpbpbpoaaDoorKC7
import Derived.Test.YtcenlinpbpbpoaaDoorKC8
import Derived.Test.YtcenlinpbpbpoaaDoorKHF1
import Derived.Test.YtcenlinpbpbpoaaDoorKHF3
import Derived.Test.YtcenlinpbpbpoaaDoorKHGr
import Derived.Test.YtcenlinpbpbpoaaDoorKHPI
import Derived.Test.YtcenlinpbpbpoaaDoorKHPO
import Derived.Test.YtcenlinpbpbpoaaDoorKHPP
import Derived.Test.YtcenlinpbpbpoaaDoorKHPS
import Derived.Test.YtcenlinpbpbpoaaDoorKHS8
import Derived.Test.YtcenlinpbpbpoaaDoorKHSQ
import Derived.Test.YtcenlinpbpbpoaaDoorKHSQB
import Derived.Test.YtcenlinpbpbpoaaDoorKHSQN
import Derived.Test.YtcenlinpbpbpoaaDoorKHSRD
import Derived.Test.YtcenlinpbpbpoaaDoorKHU1
import Derived.Test.YtcenlinpbpbpoaaDoorKHUM
import Derived.Test.YtcenlinpbpbpoaaDoorKHUN
import Derived.Test.YtcenlinpbpbpoaaDoorKHUS
import Derived.Test.YtcenlinpbpbpoaaDoorKHUSR
import Derived.Test.YtcenlinpbpbpoaaDoorKHUSe
import Derived.Test.YtcenlinpbpbpoaaDoorKL0
import Derived.Test.YtcenlinpbpbpoaaDoorKL1
import Derived.Test.YtcenlinpbpbpoaaDoorKL2
import Derived.Test.YtcenlinpbpbpoaaDoorKL3
import Derived.Test.YtcenlinpbpbpoaaDoorKL4
namespace Go.Proofs.YtcenlinpbpbpoaaDoor
set_option maxRecDepth 4000
set_option linter.unusedSimpArgs false
set_option linter.unusedVariables false
section
open Go.RowKit
theorem infoU8 : (Tryd.prog.info? 5).map (fun i => (i.zero, i.size, i.bytes)) = some (some (.int .u8 0), 1, 1) := by kernel_rfl
theorem owned_row {w : World} {base N : Nat} {v : Value} (h : w.ownsRow base 5 1 v 32 ((List.range 32).map (byV N))) :
    ∃ b cap, v = .slice (some ⟨b, 0, none⟩) 32 cap ∧ 32 ≤ cap ∧ base ≤ b ∧ Row w b 0 32 (byV N) := by
  rcases h.2 with ⟨_, h0⟩ | ⟨g, cap, cur, rfl, hb, hg, hn, _, hs, ht⟩
  · omega
  · refine ⟨g, cap, rfl, hn, hb, cur, _, (0, 0), hg, fun i hi => ⟨?_, by simp⟩⟩
    rw [Nat.zero_add]
    have := congrArg (fun l => l[i]?) ht
    simp only [Nat.mul_one, List.getElem?_take, hi, if_true] at this
    rw [← Array.getElem?_toList, this]
    simp [hi]
theorem one_cell (w : World) (v : Value) (t : TypeId) : (w.alloc (.cells #[v] t)).cell? ((⟨w.heap.size, 0, none⟩ : Addr).add 0) = some v := by
  have h : Row (w.alloc (.cells #[v] t)) w.heap.size 0 1 (fun _ => v) := Row.new w #[v] t 1 (fun _ => v) (fun i hi => by
    have : i = 0 := by omega
    subst this
    rfl)
  have e : (⟨w.heap.size, 0, none⟩ : Addr).add 0 = ⟨w.heap.size, 0 + 0, none⟩ := by unfold Addr.add; split <;> simp_all
  rw [e]
  exact h.cell (i := 0) (by omega)
set_option maxHeartbeats 1000000 in
theorem slice_any (N : Nat) (w : World) :
    Calls Tryd.prog 16 #[.agg (arrC N)] w fun e w' => ∃ b cap, e = .returned (.slice (some ⟨b, 0, none⟩) 32 cap) ∧ 32 ≤ cap ∧ w.heap.size ≤ b ∧ Below w.heap.size w w' ∧ Row w' b 0 32 (byV N) := by
  obtain ⟨i0, hi, hz0, hz1, hz2⟩ := info_parts infoU8
  have Hi := Lib.hid (And.intro hi (And.intro hz0 (And.intro hz1 hz2))); clear hi hz0 hz1 hz2
  go_enter Tryd.func16, Tryd.ntmps16
  go_wp2
  go_loopw [3, 4] (fun v i wr => ∃ k : Nat, k ≤ 32 ∧ i = .int .i64 (k : Int) ∧ Hid (wr.ownsRow (w.heap.size + 1) 5 1 v k ((List.range k).map (byV N))) ∧ Hid (Below (w.heap.size + 1) (w.alloc (.cells (arrC N) 22)) wr)) (fun _ i _ => 32 - (intOf i).toNat)
  case atStart =>
    refine ⟨0, by omega, rfl, Lib.hid ⟨by simp, Or.inr ⟨w.heap.size + 1, 0, #[], rfl, by omega, heap_new_at _ _ _ (by simp only [alloc_size]), by omega, by unfold maxLen; omega, by simp, by simp⟩⟩, Lib.hid ?_⟩
    exact Below.alloc (Below.refl _ _) (by rw [alloc_size]; omega) _
  case round =>
    obtain ⟨k, hk, rfl, hown, hB⟩ := hrel
    have hs1 : w.heap.size + 1 ≤ wr.heap.size := by have := hB.out.size; rw [alloc_size] at this; omega
    by_cases hlt : k < 32
    · have hr : Row wr w.heap.size 0 32 (byV N) := (Row.ofArr (heap_new w (.cells (arrC N) 22))).below hB.out (by omega)
      have hc := hr.byte (i := k) hlt
      rw [Nat.zero_add] at hc
      obtain ⟨A, qA⟩ : ∃ u, u = byteN N k := ⟨_, rfl⟩
      rw [← qA] at hc
      have HA := Lib.hid qA
      clear qA hr
      go_wp2_with (at_builtin; refine wpList_append_own _ rfl _ _ 26 rfl (w.heap.size + 1) 5 i0 (.int .u8 0) 1 1 underBs Hi.out.1 Hi.out.2.1 Hi.out.2.2.1 Hi.out.2.2.2 rfl (by decide) _ k _ rfl (hown.out.alloc _) ⟨wr.heap.size, 0, none⟩ 1 1 [.int .u8 (A : Int)] rfl rfl ?c1 ?c2 ?c3 ?c4 ?c5 ?_)
      case c1 =>
        intro j u hu
        cases j with
        | zero => simp only [List.getElem?_cons_zero, Option.some.injEq] at hu; subst hu; exact one_cell wr (.int .u8 (A : Int)) 5
        | succ j => simp at hu
      case c2 => simp [Value.oneCell']
      case c3 => unfold maxLen; omega
      case c4 => omega
      case c5 => simp; omega
      intro v' w1 hown' hgrow _
      have hown2 := Lib.hid hown'
      have hB2 : Hid (Below (w.heap.size + 1) (w.alloc (.cells (arrC N) 22)) w1) := Lib.hid ((hB.out.alloc hs1 _).grown hgrow (by rw [alloc_size]; omega) (fun g hg => (hown.out.lt g hg).1))
      clear hown' hgrow hc
      go_wp2
      go_roundw
      case rel =>
        refine ⟨k + 1, by omega, by go_num, Lib.hid ?_, hB2⟩
        have := hown2.out
        rw [List.range_succ, List.map_append]
        have e : [Value.int .u8 (A : Int)] = List.map (byV N) [k] := by unfold byV; rw [HA.out]; rfl
        rw [e] at this
        exact this
      case measure => simp [intOf]; omega
    · obtain rfl : k = 32 := by omega
      obtain ⟨b, cap, rfl, hcap, hb, hR⟩ := owned_row hown.out
      go_wp2
      go_ret
      refine ⟨b, cap, rfl, hcap, by omega, ?_, hR⟩
      exact (below_alloc (Below.refl _ w) _).trans (hB.out.mono (by omega))
end

end Go.Proofs.YtcenlinpbpbpoaaDoor
