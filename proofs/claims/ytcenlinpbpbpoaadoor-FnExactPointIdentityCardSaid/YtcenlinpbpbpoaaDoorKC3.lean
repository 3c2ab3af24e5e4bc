/- Parts of texts for several laws: Results of several values: rows and slots. checkInitialized: one point, two points. -/
import Derived.BigRegion
import Derived.ChangeKeysEq
import Derived.Deep.Draws
import Derived.Deep.MidRow
import Derived.Deep.Quiet
import Derived.Deep.RegionHeld3
import Derived.Deep.WholeRow
import Derived.Great.BuildSlice
import Derived.Laws.Bits64b
import Derived.Laws.CopyOwn
import Derived.Laws.Externs
import Derived.Laws.StructEq
import Derived.Laws.Tables
import Derived.Lib.Hide
import Derived.LoopTactic
import Derived.StillTailTactics
import Derived.Test.YtcenlinpbpbpoaaDoorProg
import Derived.WalkKit
import Derived.WalkLawsBesides
import Derived.WalkSpells
import Derived.Test.YtcenlinpbpbpoaaDoorKC1
import Derived.Test.YtcenlinpbpbpoaaDoorKHF1
import Derived.Test.YtcenlinpbpbpoaaDoorKHF3
import Derived.Test.YtcenlinpbpbpoaaDoorKHGr
import Derived.Test.YtcenlinpbpbpoaaDoorKHPI
import Derived.Test.YtcenlinpbpbpoaaDoorKHPO
import Derived.Test.YtcenlinpbpbpoaaDoorKHPP
import Derived.Test.YtcenlinpbpbpoaaDoorKHPS
import Derived.Test.YtcenlinpbpbpoaaDoorKHS8
import Derived.Test.YtcenlinpbpbpoaaDoorKHSQ
import Derived.Test.YtcenlinpbpbpoaaDoorKHSQB
import Derived.Test.YtcenlinpbpbpoaaDoorKHSQN
import Derived.Test.YtcenlinpbpbpoaaDoorKHSRD
import Derived.Test.YtcenlinpbpbpoaaDoorKHU1
import Derived.Test.YtcenlinpbpbpoaaDoorKHUM
import Derived.Test.YtcenlinpbpbpoaaDoorKHUN
import Derived.Test.YtcenlinpbpbpoaaDoorKHUS
import Derived.Test.YtcenlinpbpbpoaaDoorKHUSR
import Derived.Test.YtcenlinpbpbpoaaDoorKHUSe
import Derived.Test.YtcenlinpbpbpoaaDoorKL0
import Derived.Test.YtcenlinpbpbpoaaDoorKL1
import Derived.Test.YtcenlinpbpbpoaaDoorKL2
import Derived.Test.YtcenlinpbpbpoaaDoorKL3
import Derived.Test.YtcenlinpbpbpoaaDoorKL4
namespace Go.Proofs.YtcenlinpbpbpoaaDoor
set_option maxRecDepth 4000
set_option linter.unusedSimpArgs false
set_option linter.unusedVariables false
section
open Go.RowKit
theorem Keep.setsR {R : Nat} {w w1 w2 : World} {off x : Nat} (h : Keep R w w1) (hs : Sets w1 w2 R off x) : Keep R w w2 := by
  obtain ⟨L', _, _, hw⟩ := hs
  exact ⟨hw.os.trans h.os, hw.tape.trans h.tape, hw.output.trans h.output, Nat.le_trans h.size hw.size, fun k hk hne => (hw.other k (Nat.lt_of_lt_of_le hk h.size) hne).trans (h.block k hk hne)⟩
end

section
open Go.RowKit
theorem checkInit2 (sb b o c q : Nat) (P Q : CP) (X Y Z X2 Y2 Z2 : Fp) (h : Rp P X Y Z) (h' : Rp Q X2 Y2 Z2) (T : TypeId) (w : World) (hs : w.heap[sb]? = some (.cells #[.pointer (some ⟨b, o, none⟩), .pointer (some ⟨c, q, none⟩)] T (0, 0))) (hx : Fe w b o X.val) (hy : Fe w b (o + 5) Y.val) (hx2 : Fe w c q X2.val) (hy2 : Fe w c (q + 5) Y2.val) :
    Calls Tryd.prog 41 #[.slice (some ⟨sb, 0, none⟩) 2 2] w fun e w' => e = .returned (.tuple #[]) ∧ Below w.heap.size w w' := by
  obtain ⟨L, hL, _, vL⟩ := hx
  obtain ⟨M, hM, _, vM⟩ := hy
  obtain ⟨L2, hL2, _, vL2⟩ := hx2
  obtain ⟨M2, hM2, _, vM2⟩ := hy2
  exact checkInit_any sb 2 (fun i => if i = 0 then b else c) (fun i => if i = 0 then o else q) (fun i => if i = 0 then L else L2) (fun i => if i = 0 then M else M2) w
    (Lib.hid ⟨_, T, (0, 0), hs, fun i hi => ⟨by rcases (show i = 0 ∨ i = 1 by omega) with rfl | rfl <;> rfl, by simp⟩⟩)
    (Lib.hid fun i hi => by rcases (show i = 0 ∨ i = 1 by omega) with rfl | rfl; exact hL; exact hL2)
    (Lib.hid fun i hi => by rcases (show i = 0 ∨ i = 1 by omega) with rfl | rfl; exact hM; exact hM2)
    (Lib.hid fun i hi => by rcases (show i = 0 ∨ i = 1 by omega) with rfl | rfl; exact not_both h vL vM; exact not_both h' vL2 vM2) (by omega)
end

end Go.Proofs.YtcenlinpbpbpoaaDoor
