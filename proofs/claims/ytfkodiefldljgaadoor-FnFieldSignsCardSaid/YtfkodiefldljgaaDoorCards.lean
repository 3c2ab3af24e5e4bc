/-
  DERIVED. GIVEN WITH THE SEED: THE CARDS: each row of YtfkodiefldljgaaDoorRows.lean that lists a variable, with what it lists TIED to the program's text (the seventh form; the later family's looks); each row that meets fmt, with fmt's text TOLD by the authors' own Lean function (tested against real Go, not proved from fmt's source: count such statements apart). THE CARD IS WHAT COUNTS. Prove the row's statement (the work); the ties are given (YtfkodiefldljgaaDoorTie.lean); close each card by the builder's one call (the guide's Derived/Test/ToyasCard.lean, 'card_holds'). Laid BY PROGRAM, IN A SANDBOX (cutbox-door.mjs). By AI agents, Wed Nov 11 2026. No macro, syntax, notation, axiom, sorry.
-/
import Derived.Test.YtfkodiefldljgaaDoorRows
import GoSem.ClaimSeven
namespace Go.Proofs.YtfkodiefldljgaaDoor
namespace Rows

/-- THE TIED CARD OF 'laws.FnExactFieldZeroOne'. -/
def fnExactFieldZeroOneCard : Claim7 := { stood := { row := fnExactFieldZeroOneRow, standIns := [], harness := (true, "b14b58870f0f5f42494a6083d5dc77a53b8f34c6de33a5444ff56828d23da5b7"), looks := false }, kinds := [], alts := [], laidByText := true, laidKinds := [.widerDeep, .widerDeep], laidTests := true, laidLooks := .later }
def FnExactFieldZeroOneCardSaid : Prop := Claim7.holds Tryd.pinned (.plain (OpenSpec.ofChange fnExactFieldZeroOneSpec)) fnExactFieldZeroOneCard

/-- THE TIED CARD OF 'laws.FnFieldNegates'. -/
def fnFieldNegatesCard : Claim7 := { stood := { row := fnFieldNegatesRow, standIns := [], harness := (true, "b14b58870f0f5f42494a6083d5dc77a53b8f34c6de33a5444ff56828d23da5b7"), looks := false }, kinds := [], alts := [], laidByText := true, laidKinds := [.widerDeep], laidTests := true, laidLooks := .later }
def FnFieldNegatesCardSaid : Prop := Claim7.holds Tryd.pinned (.plain (OpenSpec.ofChange fnFieldNegatesSpec)) fnFieldNegatesCard

/-- THE TIED CARD OF 'laws.FnExactFieldNegate'. -/
def fnExactFieldNegateCard : Claim7 := { stood := { row := fnExactFieldNegateRow, standIns := [], harness := (true, "b14b58870f0f5f42494a6083d5dc77a53b8f34c6de33a5444ff56828d23da5b7"), looks := false }, kinds := [], alts := [], laidByText := true, laidKinds := [.widerDeep], laidTests := true, laidLooks := .later }
def FnExactFieldNegateCardSaid : Prop := Claim7.holds Tryd.pinned (.plain (OpenSpec.ofChange fnExactFieldNegateSpec)) fnExactFieldNegateCard

/-- THE TIED CARD OF 'laws.FnFieldSigns'. -/
def fnFieldSignsCard : Claim7 := { stood := { row := fnFieldSignsRow, standIns := [], harness := (true, "b14b58870f0f5f42494a6083d5dc77a53b8f34c6de33a5444ff56828d23da5b7"), looks := false }, kinds := [], alts := [], laidByText := true, laidKinds := [.widerDeep], laidTests := true, laidLooks := .later }
def FnFieldSignsCardSaid : Prop := Claim7.holds Tryd.pinned (.plain (OpenSpec.ofChange fnFieldSignsSpec)) fnFieldSignsCard

/-- THE SECOND FORM's CARD OF 'laws.FnExactFieldZeroOne'. -/
def fnExactFieldZeroOneUptoCard : Claim7 := { stood := { row := fnExactFieldZeroOneUptoRow, standIns := [], harness := (true, "b14b58870f0f5f42494a6083d5dc77a53b8f34c6de33a5444ff56828d23da5b7"), looks := false }, kinds := [], alts := [], laidByText := true, laidKinds := [.widerDeep, .widerDeep], laidTests := true, laidLooks := .later }
def FnExactFieldZeroOneUptoCardSaid : Prop := Claim7.holds Tryd.pinned (.plain (OpenSpec.upto fnExactFieldZeroOneSpec)) fnExactFieldZeroOneUptoCard

/-- THE SECOND FORM's CARD OF 'laws.FnFieldNegates'. -/
def fnFieldNegatesUptoCard : Claim7 := { stood := { row := fnFieldNegatesUptoRow, standIns := [], harness := (true, "b14b58870f0f5f42494a6083d5dc77a53b8f34c6de33a5444ff56828d23da5b7"), looks := false }, kinds := [], alts := [], laidByText := true, laidKinds := [.widerDeep], laidTests := true, laidLooks := .later }
def FnFieldNegatesUptoCardSaid : Prop := Claim7.holds Tryd.pinned (.plain (OpenSpec.upto fnFieldNegatesSpec)) fnFieldNegatesUptoCard

/-- THE SECOND FORM's CARD OF 'laws.FnExactFieldNegate'. -/
def fnExactFieldNegateUptoCard : Claim7 := { stood := { row := fnExactFieldNegateUptoRow, standIns := [], harness := (true, "b14b58870f0f5f42494a6083d5dc77a53b8f34c6de33a5444ff56828d23da5b7"), looks := false }, kinds := [], alts := [], laidByText := true, laidKinds := [.widerDeep], laidTests := true, laidLooks := .later }
def FnExactFieldNegateUptoCardSaid : Prop := Claim7.holds Tryd.pinned (.plain (OpenSpec.upto fnExactFieldNegateSpec)) fnExactFieldNegateUptoCard

/-- THE SECOND FORM's CARD OF 'laws.FnFieldSigns'. -/
def fnFieldSignsUptoCard : Claim7 := { stood := { row := fnFieldSignsUptoRow, standIns := [], harness := (true, "b14b58870f0f5f42494a6083d5dc77a53b8f34c6de33a5444ff56828d23da5b7"), looks := false }, kinds := [], alts := [], laidByText := true, laidKinds := [.widerDeep], laidTests := true, laidLooks := .later }
def FnFieldSignsUptoCardSaid : Prop := Claim7.holds Tryd.pinned (.plain (OpenSpec.upto fnFieldSignsSpec)) fnFieldSignsUptoCard
end Rows
end Go.Proofs.YtfkodiefldljgaaDoor
