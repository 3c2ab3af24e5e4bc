/-
  DERIVED. GIVEN WITH THE SEED: THE CARDS: each row of YtmabidcocdflkaaDoorRows.lean that lists a variable, with what it lists TIED to the program's text (the seventh form; the later family's looks); each row that meets fmt, with fmt's text TOLD by the authors' own Lean function (tested against real Go, not proved from fmt's source: count such statements apart). THE CARD IS WHAT COUNTS. Prove the row's statement (the work); the ties are given (YtmabidcocdflkaaDoorTie.lean); close each card by the builder's one call (the guide's Derived/Test/ToyasCard.lean, 'card_holds'). Laid BY PROGRAM, IN A SANDBOX (cutbox-door.mjs). By AI agents, Wed Nov 11 2026. No macro, syntax, notation, axiom, sorry.
-/
import Derived.Test.YtmabidcocdflkaaDoorRows
import GoSem.ClaimSeven
namespace Go.Proofs.YtmabidcocdflkaaDoor
namespace Rows

/-- THE TIED CARD OF 'laws.FnFieldSquareOrNot'. -/
def fnFieldSquareOrNotCard : Claim7 := { stood := { row := fnFieldSquareOrNotRow, standIns := [], harness := (true, "9ecf5f6f207f8f35c2567afed34fdbfa253ded34a9bb8571579d4ae01763dcae"), looks := false }, kinds := [], alts := [], laidByText := true, laidKinds := [.widerDeep, .widerDeep], laidTests := true, laidLooks := .later }
def FnFieldSquareOrNotCardSaid : Prop := Claim7.holds Tryd.pinned (.plain (OpenSpec.ofChange fnFieldSquareOrNotSpec)) fnFieldSquareOrNotCard

/-- THE TIED CARD OF 'laws.FnFieldRootSquares'. -/
def fnFieldRootSquaresCard : Claim7 := { stood := { row := fnFieldRootSquaresRow, standIns := [], harness := (true, "9ecf5f6f207f8f35c2567afed34fdbfa253ded34a9bb8571579d4ae01763dcae"), looks := false }, kinds := [], alts := [], laidByText := true, laidKinds := [.widerDeep, .widerDeep], laidTests := true, laidLooks := .later }
def FnFieldRootSquaresCardSaid : Prop := Claim7.holds Tryd.pinned (.plain (OpenSpec.ofChange fnFieldRootSquaresSpec)) fnFieldRootSquaresCard

/-- THE SECOND FORM's CARD OF 'laws.FnFieldSquareOrNot'. -/
def fnFieldSquareOrNotUptoCard : Claim7 := { stood := { row := fnFieldSquareOrNotUptoRow, standIns := [], harness := (true, "9ecf5f6f207f8f35c2567afed34fdbfa253ded34a9bb8571579d4ae01763dcae"), looks := false }, kinds := [], alts := [], laidByText := true, laidKinds := [.widerDeep, .widerDeep], laidTests := true, laidLooks := .later }
def FnFieldSquareOrNotUptoCardSaid : Prop := Claim7.holds Tryd.pinned (.plain (OpenSpec.upto fnFieldSquareOrNotSpec)) fnFieldSquareOrNotUptoCard

/-- THE SECOND FORM's CARD OF 'laws.FnFieldRootSquares'. -/
def fnFieldRootSquaresUptoCard : Claim7 := { stood := { row := fnFieldRootSquaresUptoRow, standIns := [], harness := (true, "9ecf5f6f207f8f35c2567afed34fdbfa253ded34a9bb8571579d4ae01763dcae"), looks := false }, kinds := [], alts := [], laidByText := true, laidKinds := [.widerDeep, .widerDeep], laidTests := true, laidLooks := .later }
def FnFieldRootSquaresUptoCardSaid : Prop := Claim7.holds Tryd.pinned (.plain (OpenSpec.upto fnFieldRootSquaresSpec)) fnFieldRootSquaresUptoCard
end Rows
end Go.Proofs.YtmabidcocdflkaaDoor
