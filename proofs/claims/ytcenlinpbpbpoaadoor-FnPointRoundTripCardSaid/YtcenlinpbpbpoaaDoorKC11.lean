/- Parts of texts for several laws: impl's calls on points. -/
import Derived.BigRegion
import Derived.ChangeKeysEq
import Derived.Deep.DeepCutAuto
import Derived.Deep.Draws
import Derived.Deep.Fields
import Derived.Deep.MidRow
import Derived.Deep.Quiet
import Derived.Deep.RegionHeld3
import Derived.Deep.WholeRow
import Derived.Great.BuildSlice
import Derived.LaidMore
import Derived.Laws.AppendOwn
import Derived.Laws.Bits64b
import Derived.Laws.CopyOwn
import Derived.Laws.CopyRow
import Derived.Laws.Externs
import Derived.Laws.StructEq
import Derived.Laws.Tables
import Derived.Lib.Hide
import Derived.LoopTactic
import Derived.OpenShut
import Derived.ProofKit
import Derived.StillTailTactics
import Derived.Stop.Joined
import Derived.Test.YtcenlinpbpbpoaaDoorProg
import Derived.WalkKit
import Derived.WalkLawsBesides
import Derived.WalkSpells
import Derived.WideKeyArgs
import Derived.Test.YtcenlinpbpbpoaaDoorKC0
import Derived.Test.YtcenlinpbpbpoaaDoorKC7
import Derived.Test.YtcenlinpbpbpoaaDoorKHF1
import Derived.Test.YtcenlinpbpbpoaaDoorKHF3
import Derived.Test.YtcenlinpbpbpoaaDoorKHGr
import Derived.Test.YtcenlinpbpbpoaaDoorKHPI
import Derived.Test.YtcenlinpbpbpoaaDoorKHPO
import Derived.Test.YtcenlinpbpbpoaaDoorKHPP
import Derived.Test.YtcenlinpbpbpoaaDoorKHPS
import Derived.Test.YtcenlinpbpbpoaaDoorKHS8
import Derived.Test.YtcenlinpbpbpoaaDoorKHSQ
import Derived.Test.YtcenlinpbpbpoaaDoorKHSQB
import Derived.Test.YtcenlinpbpbpoaaDoorKHSQN
import Derived.Test.YtcenlinpbpbpoaaDoorKHSRD
import Derived.Test.YtcenlinpbpbpoaaDoorKHU1
import Derived.Test.YtcenlinpbpbpoaaDoorKHUM
import Derived.Test.YtcenlinpbpbpoaaDoorKHUN
import Derived.Test.YtcenlinpbpbpoaaDoorKHUS
import Derived.Test.YtcenlinpbpbpoaaDoorKHUSR
import Derived.Test.YtcenlinpbpbpoaaDoorKHUSe
import Derived.Test.YtcenlinpbpbpoaaDoorKL0
import Derived.Test.YtcenlinpbpbpoaaDoorKL1
import Derived.Test.YtcenlinpbpbpoaaDoorKL2
import Derived.Test.YtcenlinpbpbpoaaDoorKL3
import Derived.Test.YtcenlinpbpbpoaaDoorKL4
namespace Go.Proofs.YtcenlinpbpbpoaaDoor
set_option maxRecDepth 4000
set_option linter.unusedSimpArgs false
set_option linter.unusedVariables false
section
open Go.RowKit
theorem iIdentitye (E : Nat) (HE : Hid (E = encN CP.zero))  (B : Nat) (w : World) (hD0 : Var 1 z5 B w) (hD1 : Var 0 i5 B w) (hD2 : Var 2 o5 B w) :
    Calls Tryd.prog 15 #[] w fun e w' => e = .returned (.agg (arrC E)) ∧ Below w.heap.size w w' := by
  rw [HE.out]
  exact iIdentity B w hD0 hD1 hD2
end

end Go.Proofs.YtcenlinpbpbpoaaDoor
