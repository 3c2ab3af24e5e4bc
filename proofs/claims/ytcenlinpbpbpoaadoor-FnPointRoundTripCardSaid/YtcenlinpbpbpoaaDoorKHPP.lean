/- Parts of texts for several laws: Add, Subtract, Negate, Equal. -/
import Derived.BigRegion
import Derived.ChangeKeysEq
import Derived.Deep.DeepCutAuto
import Derived.Deep.Draws
import Derived.Deep.Fields
import Derived.Deep.MidRow
import Derived.Deep.Quiet
import Derived.Deep.RegionHeld3
import Derived.Deep.WholeRow
import Derived.Great.BuildSlice
import Derived.LaidMore
import Derived.Laws.Bits64b
import Derived.Laws.CopyOwn
import Derived.Laws.Externs
import Derived.Laws.StructEq
import Derived.Laws.Tables
import Derived.Lib.Hide
import Derived.LoopTactic
import Derived.OpenShut
import Derived.ProofKit
import Derived.StillTailTactics
import Derived.Stop.Joined
import Derived.Test.YtcenlinpbpbpoaaDoorProg
import Derived.WalkKit
import Derived.WalkLawsBesides
import Derived.WalkSpells
import Derived.WideKeyArgs
import Derived.Test.YtcenlinpbpbpoaaDoorKHF1
import Derived.Test.YtcenlinpbpbpoaaDoorKHF3
import Derived.Test.YtcenlinpbpbpoaaDoorKHGr
import Derived.Test.YtcenlinpbpbpoaaDoorKHU1
import Derived.Test.YtcenlinpbpbpoaaDoorKHUM
import Derived.Test.YtcenlinpbpbpoaaDoorKHUN
import Derived.Test.YtcenlinpbpbpoaaDoorKHUS
import Derived.Test.YtcenlinpbpbpoaaDoorKHUSR
import Derived.Test.YtcenlinpbpbpoaaDoorKHUSe
import Derived.Test.YtcenlinpbpbpoaaDoorKL0
import Derived.Test.YtcenlinpbpbpoaaDoorKL1
import Derived.Test.YtcenlinpbpbpoaaDoorKL2
import Derived.Test.YtcenlinpbpbpoaaDoorKL3
import Derived.Test.YtcenlinpbpbpoaaDoorKL4
namespace Go.Proofs.YtcenlinpbpbpoaaDoor
set_option maxRecDepth 4000
set_option linter.unusedSimpArgs false
set_option linter.unusedVariables false
section
open Go.RowKit
theorem CP.eq_iff (P Q : CP) : P = Q ↔ (P.x = Q.x ∧ P.y = Q.y) := ⟨fun h => by subst h; exact ⟨rfl, rfl⟩, fun h => CP.ext' h.1 h.2⟩
instance : DecidableEq CP := fun P Q => decidable_of_iff _ (CP.eq_iff P Q).symm
end

end Go.Proofs.YtcenlinpbpbpoaaDoor
