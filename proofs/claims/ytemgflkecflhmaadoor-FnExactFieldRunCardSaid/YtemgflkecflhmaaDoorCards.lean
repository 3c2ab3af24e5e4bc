/-
  DERIVED. GIVEN WITH THE SEED: THE CARDS: each row of YtemgflkecflhmaaDoorRows.lean that lists a variable, with what it lists TIED to the program's text (the seventh form; the later family's looks); each row that meets fmt, with fmt's text TOLD by the authors' own Lean function (tested against real Go, not proved from fmt's source: count such statements apart). THE CARD IS WHAT COUNTS. Prove the row's statement (the work); the ties are given (YtemgflkecflhmaaDoorTie.lean); close each card by the builder's one call (the guide's Derived/Test/ToyasCard.lean, 'card_holds'). Laid BY PROGRAM, IN A SANDBOX (cutbox-door.mjs). By AI agents, Wed Nov 11 2026. No macro, syntax, notation, axiom, sorry.
-/
import Derived.Test.YtemgflkecflhmaaDoorRows
import GoSem.ClaimSeven
namespace Go.Proofs.YtemgflkecflhmaaDoor
namespace Rows

/-- THE TIED CARD OF 'laws.FnExactFieldRun'. -/
def fnExactFieldRunCard : Claim7 := { stood := { row := fnExactFieldRunRow, standIns := [], harness := (true, "cdbdd9d9eaff4699ee53b43dd1dff1079deb0110132044bce8ddc547f789a0c3"), looks := false }, kinds := [], alts := [], laidByText := true, laidKinds := [.widerDeep, .widerDeep, .widerDeep], laidTests := true, laidLooks := .later }
def FnExactFieldRunCardSaid : Prop := Claim7.holds Tryd.pinned (.plain (OpenSpec.ofChange fnExactFieldRunSpec)) fnExactFieldRunCard

/-- THE SECOND FORM's CARD OF 'laws.FnExactFieldRun'. -/
def fnExactFieldRunUptoCard : Claim7 := { stood := { row := fnExactFieldRunUptoRow, standIns := [], harness := (true, "cdbdd9d9eaff4699ee53b43dd1dff1079deb0110132044bce8ddc547f789a0c3"), looks := false }, kinds := [], alts := [], laidByText := true, laidKinds := [.widerDeep, .widerDeep, .widerDeep], laidTests := true, laidLooks := .later }
def FnExactFieldRunUptoCardSaid : Prop := Claim7.holds Tryd.pinned (.plain (OpenSpec.upto fnExactFieldRunSpec)) fnExactFieldRunUptoCard
end Rows
end Go.Proofs.YtemgflkecflhmaaDoor
