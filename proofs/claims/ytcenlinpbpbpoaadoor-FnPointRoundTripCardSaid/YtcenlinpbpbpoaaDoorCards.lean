/-
  DERIVED. GIVEN WITH THE SEED: THE CARDS: each row of YtcenlinpbpbpoaaDoorRows.lean that lists a variable, with what it lists TIED to the program's text (the seventh form; the later family's looks); each row that meets fmt, with fmt's text TOLD by the authors' own Lean function (tested against real Go, not proved from fmt's source: count such statements apart). THE CARD IS WHAT COUNTS. Prove the row's statement (the work); the ties are given (YtcenlinpbpbpoaaDoorTie.lean); close each card by the builder's one call (the guide's Derived/Test/ToyasCard.lean, 'card_holds'). Laid BY PROGRAM, IN A SANDBOX (cutbox-door.mjs). By AI agents, Wed Nov 11 2026. No macro, syntax, notation, axiom, sorry.
-/
import Derived.Test.YtcenlinpbpbpoaaDoorRows
import GoSem.ClaimSeven
namespace Go.Proofs.YtcenlinpbpbpoaaDoor
namespace Rows

/-- THE TIED CARD OF 'laws.FnExactPointEqual'. -/
def fnExactPointEqualCard : Claim7 := { stood := { row := fnExactPointEqualRow, standIns := [], harness := (true, "fa5d4f6e2181aa2edf31ac954a0ec23c5327c1323b8fea9e348f40ab1f7597fa"), looks := false }, kinds := [], alts := [], laidByText := true, laidKinds := [.widerDeep, .widerDeep, .widerDeep], laidTests := true, laidLooks := .later }
def FnExactPointEqualCardSaid : Prop := Claim7.holds Tryd.pinned (.plain (OpenSpec.ofChange fnExactPointEqualSpec)) fnExactPointEqualCard

/-- THE TIED CARD OF 'laws.FnExactPointSetBytes'. -/
def fnExactPointSetBytesCard : Claim7 := { stood := { row := fnExactPointSetBytesRow, standIns := [], harness := (true, "fa5d4f6e2181aa2edf31ac954a0ec23c5327c1323b8fea9e348f40ab1f7597fa"), looks := false }, kinds := [], alts := [], laidByText := true, laidKinds := [.widerDeep, .widerDeep, .widerDeep], laidTests := true, laidLooks := .later }
def FnExactPointSetBytesCardSaid : Prop := Claim7.holds Tryd.pinned (.plain (OpenSpec.ofChange fnExactPointSetBytesSpec)) fnExactPointSetBytesCard

/-- THE TIED CARD OF 'laws.FnPointRoundTrip'. -/
def fnPointRoundTripCard : Claim7 := { stood := { row := fnPointRoundTripRow, standIns := [], harness := (true, "fa5d4f6e2181aa2edf31ac954a0ec23c5327c1323b8fea9e348f40ab1f7597fa"), looks := false }, kinds := [], alts := [], laidByText := true, laidKinds := [.widerDeep, .widerDeep, .widerDeep], laidTests := true, laidLooks := .later }
def FnPointRoundTripCardSaid : Prop := Claim7.holds Tryd.pinned (.plain (OpenSpec.ofChange fnPointRoundTripSpec)) fnPointRoundTripCard

/-- THE TIED CARD OF 'laws.FnExactPointIdentity'. -/
def fnExactPointIdentityCard : Claim7 := { stood := { row := fnExactPointIdentityRow, standIns := [], harness := (true, "fa5d4f6e2181aa2edf31ac954a0ec23c5327c1323b8fea9e348f40ab1f7597fa"), looks := false }, kinds := [], alts := [], laidByText := true, laidKinds := [.widerDeep, .widerDeep, .widerDeep], laidTests := true, laidLooks := .later }
def FnExactPointIdentityCardSaid : Prop := Claim7.holds Tryd.pinned (.plain (OpenSpec.ofChange fnExactPointIdentitySpec)) fnExactPointIdentityCard

/-- THE TIED CARD OF 'laws.FnExactPointSubtract'. -/
def fnExactPointSubtractCard : Claim7 := { stood := { row := fnExactPointSubtractRow, standIns := [], harness := (true, "fa5d4f6e2181aa2edf31ac954a0ec23c5327c1323b8fea9e348f40ab1f7597fa"), looks := false }, kinds := [], alts := [], laidByText := true, laidKinds := [.widerDeep, .widerDeep, .widerDeep], laidTests := true, laidLooks := .later }
def FnExactPointSubtractCardSaid : Prop := Claim7.holds Tryd.pinned (.plain (OpenSpec.ofChange fnExactPointSubtractSpec)) fnExactPointSubtractCard

/-- THE TIED CARD OF 'laws.FnPointAddOrder'. -/
def fnPointAddOrderCard : Claim7 := { stood := { row := fnPointAddOrderRow, standIns := [], harness := (true, "fa5d4f6e2181aa2edf31ac954a0ec23c5327c1323b8fea9e348f40ab1f7597fa"), looks := false }, kinds := [], alts := [], laidByText := true, laidKinds := [.widerDeep, .widerDeep, .widerDeep], laidTests := true, laidLooks := .later }
def FnPointAddOrderCardSaid : Prop := Claim7.holds Tryd.pinned (.plain (OpenSpec.ofChange fnPointAddOrderSpec)) fnPointAddOrderCard

/-- THE TIED CARD OF 'laws.FnPointNeutral'. -/
def fnPointNeutralCard : Claim7 := { stood := { row := fnPointNeutralRow, standIns := [], harness := (true, "fa5d4f6e2181aa2edf31ac954a0ec23c5327c1323b8fea9e348f40ab1f7597fa"), looks := false }, kinds := [], alts := [], laidByText := true, laidKinds := [.widerDeep, .widerDeep, .widerDeep], laidTests := true, laidLooks := .later }
def FnPointNeutralCardSaid : Prop := Claim7.holds Tryd.pinned (.plain (OpenSpec.ofChange fnPointNeutralSpec)) fnPointNeutralCard

/-- THE TIED CARD OF 'laws.FnPointSubtractRoads'. -/
def fnPointSubtractRoadsCard : Claim7 := { stood := { row := fnPointSubtractRoadsRow, standIns := [], harness := (true, "fa5d4f6e2181aa2edf31ac954a0ec23c5327c1323b8fea9e348f40ab1f7597fa"), looks := false }, kinds := [], alts := [], laidByText := true, laidKinds := [.widerDeep, .widerDeep, .widerDeep], laidTests := true, laidLooks := .later }
def FnPointSubtractRoadsCardSaid : Prop := Claim7.holds Tryd.pinned (.plain (OpenSpec.ofChange fnPointSubtractRoadsSpec)) fnPointSubtractRoadsCard

/-- THE SECOND FORM's CARD OF 'laws.FnExactPointEqual'. -/
def fnExactPointEqualUptoCard : Claim7 := { stood := { row := fnExactPointEqualUptoRow, standIns := [], harness := (true, "fa5d4f6e2181aa2edf31ac954a0ec23c5327c1323b8fea9e348f40ab1f7597fa"), looks := false }, kinds := [], alts := [], laidByText := true, laidKinds := [.widerDeep, .widerDeep, .widerDeep], laidTests := true, laidLooks := .later }
def FnExactPointEqualUptoCardSaid : Prop := Claim7.holds Tryd.pinned (.plain (OpenSpec.upto fnExactPointEqualSpec)) fnExactPointEqualUptoCard

/-- THE SECOND FORM's CARD OF 'laws.FnExactPointSetBytes'. -/
def fnExactPointSetBytesUptoCard : Claim7 := { stood := { row := fnExactPointSetBytesUptoRow, standIns := [], harness := (true, "fa5d4f6e2181aa2edf31ac954a0ec23c5327c1323b8fea9e348f40ab1f7597fa"), looks := false }, kinds := [], alts := [], laidByText := true, laidKinds := [.widerDeep, .widerDeep, .widerDeep], laidTests := true, laidLooks := .later }
def FnExactPointSetBytesUptoCardSaid : Prop := Claim7.holds Tryd.pinned (.plain (OpenSpec.upto fnExactPointSetBytesSpec)) fnExactPointSetBytesUptoCard

/-- THE SECOND FORM's CARD OF 'laws.FnPointRoundTrip'. -/
def fnPointRoundTripUptoCard : Claim7 := { stood := { row := fnPointRoundTripUptoRow, standIns := [], harness := (true, "fa5d4f6e2181aa2edf31ac954a0ec23c5327c1323b8fea9e348f40ab1f7597fa"), looks := false }, kinds := [], alts := [], laidByText := true, laidKinds := [.widerDeep, .widerDeep, .widerDeep], laidTests := true, laidLooks := .later }
def FnPointRoundTripUptoCardSaid : Prop := Claim7.holds Tryd.pinned (.plain (OpenSpec.upto fnPointRoundTripSpec)) fnPointRoundTripUptoCard

/-- THE SECOND FORM's CARD OF 'laws.FnExactPointIdentity'. -/
def fnExactPointIdentityUptoCard : Claim7 := { stood := { row := fnExactPointIdentityUptoRow, standIns := [], harness := (true, "fa5d4f6e2181aa2edf31ac954a0ec23c5327c1323b8fea9e348f40ab1f7597fa"), looks := false }, kinds := [], alts := [], laidByText := true, laidKinds := [.widerDeep, .widerDeep, .widerDeep], laidTests := true, laidLooks := .later }
def FnExactPointIdentityUptoCardSaid : Prop := Claim7.holds Tryd.pinned (.plain (OpenSpec.upto fnExactPointIdentitySpec)) fnExactPointIdentityUptoCard

/-- THE SECOND FORM's CARD OF 'laws.FnExactPointSubtract'. -/
def fnExactPointSubtractUptoCard : Claim7 := { stood := { row := fnExactPointSubtractUptoRow, standIns := [], harness := (true, "fa5d4f6e2181aa2edf31ac954a0ec23c5327c1323b8fea9e348f40ab1f7597fa"), looks := false }, kinds := [], alts := [], laidByText := true, laidKinds := [.widerDeep, .widerDeep, .widerDeep], laidTests := true, laidLooks := .later }
def FnExactPointSubtractUptoCardSaid : Prop := Claim7.holds Tryd.pinned (.plain (OpenSpec.upto fnExactPointSubtractSpec)) fnExactPointSubtractUptoCard

/-- THE SECOND FORM's CARD OF 'laws.FnPointAddOrder'. -/
def fnPointAddOrderUptoCard : Claim7 := { stood := { row := fnPointAddOrderUptoRow, standIns := [], harness := (true, "fa5d4f6e2181aa2edf31ac954a0ec23c5327c1323b8fea9e348f40ab1f7597fa"), looks := false }, kinds := [], alts := [], laidByText := true, laidKinds := [.widerDeep, .widerDeep, .widerDeep], laidTests := true, laidLooks := .later }
def FnPointAddOrderUptoCardSaid : Prop := Claim7.holds Tryd.pinned (.plain (OpenSpec.upto fnPointAddOrderSpec)) fnPointAddOrderUptoCard

/-- THE SECOND FORM's CARD OF 'laws.FnPointNeutral'. -/
def fnPointNeutralUptoCard : Claim7 := { stood := { row := fnPointNeutralUptoRow, standIns := [], harness := (true, "fa5d4f6e2181aa2edf31ac954a0ec23c5327c1323b8fea9e348f40ab1f7597fa"), looks := false }, kinds := [], alts := [], laidByText := true, laidKinds := [.widerDeep, .widerDeep, .widerDeep], laidTests := true, laidLooks := .later }
def FnPointNeutralUptoCardSaid : Prop := Claim7.holds Tryd.pinned (.plain (OpenSpec.upto fnPointNeutralSpec)) fnPointNeutralUptoCard

/-- THE SECOND FORM's CARD OF 'laws.FnPointSubtractRoads'. -/
def fnPointSubtractRoadsUptoCard : Claim7 := { stood := { row := fnPointSubtractRoadsUptoRow, standIns := [], harness := (true, "fa5d4f6e2181aa2edf31ac954a0ec23c5327c1323b8fea9e348f40ab1f7597fa"), looks := false }, kinds := [], alts := [], laidByText := true, laidKinds := [.widerDeep, .widerDeep, .widerDeep], laidTests := true, laidLooks := .later }
def FnPointSubtractRoadsUptoCardSaid : Prop := Claim7.holds Tryd.pinned (.plain (OpenSpec.upto fnPointSubtractRoadsSpec)) fnPointSubtractRoadsUptoCard
end Rows
end Go.Proofs.YtcenlinpbpbpoaaDoor
