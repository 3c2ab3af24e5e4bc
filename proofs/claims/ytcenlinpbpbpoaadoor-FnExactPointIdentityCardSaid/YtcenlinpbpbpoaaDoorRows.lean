/-
  NARROWER THAN 'FOR EVERY INPUT', by the rows' own cells (each row's printed sentence says how): FnExactPointEqual: laid · FnExactPointSetBytes: laid · FnPointRoundTrip: laid · FnExactPointIdentity: laid · FnExactPointSubtract: laid · FnPointAddOrder: laid · FnPointNeutral: laid · FnPointSubtractRoads: laid.
  DERIVED. THE GIVEN ROWS OF THIS SEAT. 8 by the template 'for every input the law returns true; each argument reads behind the call as it read before'; 0 by the template 'total and deterministic' (their statements: YtcenlinpbpbpoaaDoorTotals.lean).
  GIVEN WITH THE SEED: the statements are not yours to turn. If you find one false, say at which input.
  Laid BY PROGRAM, IN A SANDBOX (cutbox-rows.mjs): the forced cells as the released guide's own fill.sh prints them over the translation dc9934de64cf1ef4… (all of the seat's roots in one cut). By AI agents, Wed Nov 11 2026. No macro, syntax, notation, axiom, sorry.
-/
import Derived.Test.YtcenlinpbpbpoaaDoorChecked
import GoSem.Claim
import GoSem.ClaimJoined
import GoSem.ClaimMapViews
import Derived.JoinedTies
import Derived.KernelRfl
namespace Go.Proofs.YtcenlinpbpbpoaaDoor
/- THE CELL 'sum', in the pinned program and in every row, IS THE sha256 OF THE DUMP (.gsa) THAT YtcenlinpbpbpoaaDoorProg.lean LOADS. Nothing in Lean hashes anything: it is a label: what it is worth is what the hold of that sum in a sandbox is worth. -/
noncomputable def Tryd.pinned : Pinned := { name := "ytcenlinpbpbpoaadoor", sum := "dc9934de64cf1ef44102a68fa62451dd1f4754a75f16ca931f7c2d981670e467", checked := Tryd.checked }
namespace Rows
def none {H : Type} : Left H := { results := [], args := [] }

/- WHAT THE LISTED PACKAGE-LEVEL VARIABLES READ AS WHEN THE CALL BEGINS. Each datum BY PROGRAM (the guide's laid-datum.mjs) off the statement by which the dump's own 'gosem.cut.vars' lays the variable. In a bare row this is a premise. The card (YtcenlinpbpbpoaaDoorCards.lean) ties it to the program's text. -/
def laid_loop_example_pub_g03328_pub_field_feZero {H : Type} : DataW H := .ptr (.agg [.lit (.int .u64 0), .lit (.int .u64 0), .lit (.int .u64 0), .lit (.int .u64 0), .lit (.int .u64 0)])
def laid_loop_example_pub_g03328_pub_field_feOne {H : Type} : DataW H := .ptr (.agg [.lit (.int .u64 1), .lit (.int .u64 0), .lit (.int .u64 0), .lit (.int .u64 0), .lit (.int .u64 0)])
def laid_loop_example_pub_g03328_pub_field_sqrtM1 {H : Type} : DataW H := .ptr (.agg [.lit (.int .u64 1718705420411056), .lit (.int .u64 234908883556509), .lit (.int .u64 2233514472574048), .lit (.int .u64 2117202627021982), .lit (.int .u64 765476049583133)])

/-- 'laws.FnExactPointEqual': WHATEVER THE INPUT: true; the input reads as it did. -/
def fnExactPointEqualSpec : ChangeSpec := { name := "fnExactPointEqual", vars := ["loop.example/pub-g03328/pub/field.feOne", "loop.example/pub-g03328/pub/field.sqrtM1", "loop.example/pub-g03328/pub/field.feZero"], fn := fun _ => fun
  | [d1, d2, g1, g2, g3] => { results := [.lit (.bool true)], args := [d1, d2], vars := [g1, g2, g3] }
  | _ => none }
def fnExactPointEqualRow : OpenClaim := { program := "ytcenlinpbpbpoaadoor", sum := "dc9934de64cf1ef44102a68fa62451dd1f4754a75f16ca931f7c2d981670e467", func := "loop.example/pub-g03328/laws.FnExactPointEqual", spec := "fnExactPointEqual", inPlace := ["math/bits.Add64", "math/bits.Sub64"], named := ["loop.example/pub-g03328/pub/field.feOne", "loop.example/pub-g03328/pub/field.sqrtM1", "loop.example/pub-g03328/pub/field.feZero"], apart := false, laid := [("loop.example/pub-g03328/pub/field.feZero", laid_loop_example_pub_g03328_pub_field_feZero), ("loop.example/pub-g03328/pub/field.feOne", laid_loop_example_pub_g03328_pub_field_feOne), ("loop.example/pub-g03328/pub/field.sqrtM1", laid_loop_example_pub_g03328_pub_field_sqrtM1)] }
def FnExactPointEqualSaid : Prop := fnExactPointEqualRow.holds Tryd.pinned (OpenSpec.ofChange fnExactPointEqualSpec)

/-- ITS FALSE NEIGHBOUR: 'it returns false'. Refute it at one input. -/
def fnExactPointEqualWrong : ChangeSpec := { name := "fnExactPointEqual", vars := ["loop.example/pub-g03328/pub/field.feOne", "loop.example/pub-g03328/pub/field.sqrtM1", "loop.example/pub-g03328/pub/field.feZero"], fn := fun _ => fun
  | [d1, d2, g1, g2, g3] => { results := [.lit (.bool false)], args := [d1, d2], vars := [g1, g2, g3] }
  | _ => none }
def FnExactPointEqualWrongFalsely : Prop := fnExactPointEqualRow.holds Tryd.pinned (OpenSpec.ofChange fnExactPointEqualWrong)

/-- 'laws.FnExactPointSetBytes': WHATEVER THE INPUT: true; the input reads as it did. -/
def fnExactPointSetBytesSpec : ChangeSpec := { name := "fnExactPointSetBytes", vars := ["loop.example/pub-g03328/pub/field.feOne", "loop.example/pub-g03328/pub/field.sqrtM1", "loop.example/pub-g03328/pub/field.feZero"], fn := fun _ => fun
  | [d1, d2, g1, g2, g3] => { results := [.lit (.bool true)], args := [d1, d2], vars := [g1, g2, g3] }
  | _ => none }
def fnExactPointSetBytesRow : OpenClaim := { program := "ytcenlinpbpbpoaadoor", sum := "dc9934de64cf1ef44102a68fa62451dd1f4754a75f16ca931f7c2d981670e467", func := "loop.example/pub-g03328/laws.FnExactPointSetBytes", spec := "fnExactPointSetBytes", inPlace := ["math/bits.Add64", "math/bits.Sub64"], named := ["loop.example/pub-g03328/pub/field.feOne", "loop.example/pub-g03328/pub/field.sqrtM1", "loop.example/pub-g03328/pub/field.feZero"], apart := false, laid := [("loop.example/pub-g03328/pub/field.feZero", laid_loop_example_pub_g03328_pub_field_feZero), ("loop.example/pub-g03328/pub/field.feOne", laid_loop_example_pub_g03328_pub_field_feOne), ("loop.example/pub-g03328/pub/field.sqrtM1", laid_loop_example_pub_g03328_pub_field_sqrtM1)] }
def FnExactPointSetBytesSaid : Prop := fnExactPointSetBytesRow.holds Tryd.pinned (OpenSpec.ofChange fnExactPointSetBytesSpec)

/-- ITS FALSE NEIGHBOUR: 'it returns false'. Refute it at one input. -/
def fnExactPointSetBytesWrong : ChangeSpec := { name := "fnExactPointSetBytes", vars := ["loop.example/pub-g03328/pub/field.feOne", "loop.example/pub-g03328/pub/field.sqrtM1", "loop.example/pub-g03328/pub/field.feZero"], fn := fun _ => fun
  | [d1, d2, g1, g2, g3] => { results := [.lit (.bool false)], args := [d1, d2], vars := [g1, g2, g3] }
  | _ => none }
def FnExactPointSetBytesWrongFalsely : Prop := fnExactPointSetBytesRow.holds Tryd.pinned (OpenSpec.ofChange fnExactPointSetBytesWrong)

/-- 'laws.FnPointRoundTrip': WHATEVER THE INPUT: true; the input reads as it did. -/
def fnPointRoundTripSpec : ChangeSpec := { name := "fnPointRoundTrip", vars := ["loop.example/pub-g03328/pub/field.feOne", "loop.example/pub-g03328/pub/field.sqrtM1", "loop.example/pub-g03328/pub/field.feZero"], fn := fun _ => fun
  | [d, g1, g2, g3] => { results := [.lit (.bool true)], args := [d], vars := [g1, g2, g3] }
  | _ => none }
def fnPointRoundTripRow : OpenClaim := { program := "ytcenlinpbpbpoaadoor", sum := "dc9934de64cf1ef44102a68fa62451dd1f4754a75f16ca931f7c2d981670e467", func := "loop.example/pub-g03328/laws.FnPointRoundTrip", spec := "fnPointRoundTrip", inPlace := ["math/bits.Add64", "math/bits.Sub64"], named := ["loop.example/pub-g03328/pub/field.feOne", "loop.example/pub-g03328/pub/field.sqrtM1", "loop.example/pub-g03328/pub/field.feZero"], apart := false, laid := [("loop.example/pub-g03328/pub/field.feZero", laid_loop_example_pub_g03328_pub_field_feZero), ("loop.example/pub-g03328/pub/field.feOne", laid_loop_example_pub_g03328_pub_field_feOne), ("loop.example/pub-g03328/pub/field.sqrtM1", laid_loop_example_pub_g03328_pub_field_sqrtM1)] }
def FnPointRoundTripSaid : Prop := fnPointRoundTripRow.holds Tryd.pinned (OpenSpec.ofChange fnPointRoundTripSpec)

/-- ITS FALSE NEIGHBOUR: 'it returns false'. Refute it at one input. -/
def fnPointRoundTripWrong : ChangeSpec := { name := "fnPointRoundTrip", vars := ["loop.example/pub-g03328/pub/field.feOne", "loop.example/pub-g03328/pub/field.sqrtM1", "loop.example/pub-g03328/pub/field.feZero"], fn := fun _ => fun
  | [d, g1, g2, g3] => { results := [.lit (.bool false)], args := [d], vars := [g1, g2, g3] }
  | _ => none }
def FnPointRoundTripWrongFalsely : Prop := fnPointRoundTripRow.holds Tryd.pinned (OpenSpec.ofChange fnPointRoundTripWrong)

/-- 'laws.FnExactPointIdentity': WHATEVER THE INPUT: true; the input reads as it did. -/
def fnExactPointIdentitySpec : ChangeSpec := { name := "fnExactPointIdentity", vars := ["loop.example/pub-g03328/pub/field.feOne", "loop.example/pub-g03328/pub/field.sqrtM1", "loop.example/pub-g03328/pub/field.feZero"], fn := fun _ => fun
  | [d, g1, g2, g3] => { results := [.lit (.bool true)], args := [d], vars := [g1, g2, g3] }
  | _ => none }
def fnExactPointIdentityRow : OpenClaim := { program := "ytcenlinpbpbpoaadoor", sum := "dc9934de64cf1ef44102a68fa62451dd1f4754a75f16ca931f7c2d981670e467", func := "loop.example/pub-g03328/laws.FnExactPointIdentity", spec := "fnExactPointIdentity", inPlace := ["math/bits.Add64", "math/bits.Sub64"], named := ["loop.example/pub-g03328/pub/field.feOne", "loop.example/pub-g03328/pub/field.sqrtM1", "loop.example/pub-g03328/pub/field.feZero"], apart := false, laid := [("loop.example/pub-g03328/pub/field.feZero", laid_loop_example_pub_g03328_pub_field_feZero), ("loop.example/pub-g03328/pub/field.feOne", laid_loop_example_pub_g03328_pub_field_feOne), ("loop.example/pub-g03328/pub/field.sqrtM1", laid_loop_example_pub_g03328_pub_field_sqrtM1)] }
def FnExactPointIdentitySaid : Prop := fnExactPointIdentityRow.holds Tryd.pinned (OpenSpec.ofChange fnExactPointIdentitySpec)

/-- ITS FALSE NEIGHBOUR: 'it returns false'. Refute it at one input. -/
def fnExactPointIdentityWrong : ChangeSpec := { name := "fnExactPointIdentity", vars := ["loop.example/pub-g03328/pub/field.feOne", "loop.example/pub-g03328/pub/field.sqrtM1", "loop.example/pub-g03328/pub/field.feZero"], fn := fun _ => fun
  | [d, g1, g2, g3] => { results := [.lit (.bool false)], args := [d], vars := [g1, g2, g3] }
  | _ => none }
def FnExactPointIdentityWrongFalsely : Prop := fnExactPointIdentityRow.holds Tryd.pinned (OpenSpec.ofChange fnExactPointIdentityWrong)

/-- 'laws.FnExactPointSubtract': WHATEVER THE INPUT: true; the input reads as it did. -/
def fnExactPointSubtractSpec : ChangeSpec := { name := "fnExactPointSubtract", vars := ["loop.example/pub-g03328/pub/field.feOne", "loop.example/pub-g03328/pub/field.sqrtM1", "loop.example/pub-g03328/pub/field.feZero"], fn := fun _ => fun
  | [d1, d2, g1, g2, g3] => { results := [.lit (.bool true)], args := [d1, d2], vars := [g1, g2, g3] }
  | _ => none }
def fnExactPointSubtractRow : OpenClaim := { program := "ytcenlinpbpbpoaadoor", sum := "dc9934de64cf1ef44102a68fa62451dd1f4754a75f16ca931f7c2d981670e467", func := "loop.example/pub-g03328/laws.FnExactPointSubtract", spec := "fnExactPointSubtract", inPlace := ["math/bits.Add64", "math/bits.Sub64"], named := ["loop.example/pub-g03328/pub/field.feOne", "loop.example/pub-g03328/pub/field.sqrtM1", "loop.example/pub-g03328/pub/field.feZero"], apart := false, laid := [("loop.example/pub-g03328/pub/field.feZero", laid_loop_example_pub_g03328_pub_field_feZero), ("loop.example/pub-g03328/pub/field.feOne", laid_loop_example_pub_g03328_pub_field_feOne), ("loop.example/pub-g03328/pub/field.sqrtM1", laid_loop_example_pub_g03328_pub_field_sqrtM1)] }
def FnExactPointSubtractSaid : Prop := fnExactPointSubtractRow.holds Tryd.pinned (OpenSpec.ofChange fnExactPointSubtractSpec)

/-- ITS FALSE NEIGHBOUR: 'it returns false'. Refute it at one input. -/
def fnExactPointSubtractWrong : ChangeSpec := { name := "fnExactPointSubtract", vars := ["loop.example/pub-g03328/pub/field.feOne", "loop.example/pub-g03328/pub/field.sqrtM1", "loop.example/pub-g03328/pub/field.feZero"], fn := fun _ => fun
  | [d1, d2, g1, g2, g3] => { results := [.lit (.bool false)], args := [d1, d2], vars := [g1, g2, g3] }
  | _ => none }
def FnExactPointSubtractWrongFalsely : Prop := fnExactPointSubtractRow.holds Tryd.pinned (OpenSpec.ofChange fnExactPointSubtractWrong)

/-- 'laws.FnPointAddOrder': WHATEVER THE INPUT: true; the input reads as it did. -/
def fnPointAddOrderSpec : ChangeSpec := { name := "fnPointAddOrder", vars := ["loop.example/pub-g03328/pub/field.feOne", "loop.example/pub-g03328/pub/field.sqrtM1", "loop.example/pub-g03328/pub/field.feZero"], fn := fun _ => fun
  | [d1, d2, g1, g2, g3] => { results := [.lit (.bool true)], args := [d1, d2], vars := [g1, g2, g3] }
  | _ => none }
def fnPointAddOrderRow : OpenClaim := { program := "ytcenlinpbpbpoaadoor", sum := "dc9934de64cf1ef44102a68fa62451dd1f4754a75f16ca931f7c2d981670e467", func := "loop.example/pub-g03328/laws.FnPointAddOrder", spec := "fnPointAddOrder", inPlace := ["math/bits.Add64", "math/bits.Sub64"], named := ["loop.example/pub-g03328/pub/field.feOne", "loop.example/pub-g03328/pub/field.sqrtM1", "loop.example/pub-g03328/pub/field.feZero"], apart := false, laid := [("loop.example/pub-g03328/pub/field.feZero", laid_loop_example_pub_g03328_pub_field_feZero), ("loop.example/pub-g03328/pub/field.feOne", laid_loop_example_pub_g03328_pub_field_feOne), ("loop.example/pub-g03328/pub/field.sqrtM1", laid_loop_example_pub_g03328_pub_field_sqrtM1)] }
def FnPointAddOrderSaid : Prop := fnPointAddOrderRow.holds Tryd.pinned (OpenSpec.ofChange fnPointAddOrderSpec)

/-- ITS FALSE NEIGHBOUR: 'it returns false'. Refute it at one input. -/
def fnPointAddOrderWrong : ChangeSpec := { name := "fnPointAddOrder", vars := ["loop.example/pub-g03328/pub/field.feOne", "loop.example/pub-g03328/pub/field.sqrtM1", "loop.example/pub-g03328/pub/field.feZero"], fn := fun _ => fun
  | [d1, d2, g1, g2, g3] => { results := [.lit (.bool false)], args := [d1, d2], vars := [g1, g2, g3] }
  | _ => none }
def FnPointAddOrderWrongFalsely : Prop := fnPointAddOrderRow.holds Tryd.pinned (OpenSpec.ofChange fnPointAddOrderWrong)

/-- 'laws.FnPointNeutral': WHATEVER THE INPUT: true; the input reads as it did. -/
def fnPointNeutralSpec : ChangeSpec := { name := "fnPointNeutral", vars := ["loop.example/pub-g03328/pub/field.feOne", "loop.example/pub-g03328/pub/field.sqrtM1", "loop.example/pub-g03328/pub/field.feZero"], fn := fun _ => fun
  | [d, g1, g2, g3] => { results := [.lit (.bool true)], args := [d], vars := [g1, g2, g3] }
  | _ => none }
def fnPointNeutralRow : OpenClaim := { program := "ytcenlinpbpbpoaadoor", sum := "dc9934de64cf1ef44102a68fa62451dd1f4754a75f16ca931f7c2d981670e467", func := "loop.example/pub-g03328/laws.FnPointNeutral", spec := "fnPointNeutral", inPlace := ["math/bits.Add64", "math/bits.Sub64"], named := ["loop.example/pub-g03328/pub/field.feOne", "loop.example/pub-g03328/pub/field.sqrtM1", "loop.example/pub-g03328/pub/field.feZero"], apart := false, laid := [("loop.example/pub-g03328/pub/field.feZero", laid_loop_example_pub_g03328_pub_field_feZero), ("loop.example/pub-g03328/pub/field.feOne", laid_loop_example_pub_g03328_pub_field_feOne), ("loop.example/pub-g03328/pub/field.sqrtM1", laid_loop_example_pub_g03328_pub_field_sqrtM1)] }
def FnPointNeutralSaid : Prop := fnPointNeutralRow.holds Tryd.pinned (OpenSpec.ofChange fnPointNeutralSpec)

/-- ITS FALSE NEIGHBOUR: 'it returns false'. Refute it at one input. -/
def fnPointNeutralWrong : ChangeSpec := { name := "fnPointNeutral", vars := ["loop.example/pub-g03328/pub/field.feOne", "loop.example/pub-g03328/pub/field.sqrtM1", "loop.example/pub-g03328/pub/field.feZero"], fn := fun _ => fun
  | [d, g1, g2, g3] => { results := [.lit (.bool false)], args := [d], vars := [g1, g2, g3] }
  | _ => none }
def FnPointNeutralWrongFalsely : Prop := fnPointNeutralRow.holds Tryd.pinned (OpenSpec.ofChange fnPointNeutralWrong)

/-- 'laws.FnPointSubtractRoads': WHATEVER THE INPUT: true; the input reads as it did. -/
def fnPointSubtractRoadsSpec : ChangeSpec := { name := "fnPointSubtractRoads", vars := ["loop.example/pub-g03328/pub/field.feOne", "loop.example/pub-g03328/pub/field.sqrtM1", "loop.example/pub-g03328/pub/field.feZero"], fn := fun _ => fun
  | [d1, d2, g1, g2, g3] => { results := [.lit (.bool true)], args := [d1, d2], vars := [g1, g2, g3] }
  | _ => none }
def fnPointSubtractRoadsRow : OpenClaim := { program := "ytcenlinpbpbpoaadoor", sum := "dc9934de64cf1ef44102a68fa62451dd1f4754a75f16ca931f7c2d981670e467", func := "loop.example/pub-g03328/laws.FnPointSubtractRoads", spec := "fnPointSubtractRoads", inPlace := ["math/bits.Add64", "math/bits.Sub64"], named := ["loop.example/pub-g03328/pub/field.feOne", "loop.example/pub-g03328/pub/field.sqrtM1", "loop.example/pub-g03328/pub/field.feZero"], apart := false, laid := [("loop.example/pub-g03328/pub/field.feZero", laid_loop_example_pub_g03328_pub_field_feZero), ("loop.example/pub-g03328/pub/field.feOne", laid_loop_example_pub_g03328_pub_field_feOne), ("loop.example/pub-g03328/pub/field.sqrtM1", laid_loop_example_pub_g03328_pub_field_sqrtM1)] }
def FnPointSubtractRoadsSaid : Prop := fnPointSubtractRoadsRow.holds Tryd.pinned (OpenSpec.ofChange fnPointSubtractRoadsSpec)

/-- ITS FALSE NEIGHBOUR: 'it returns false'. Refute it at one input. -/
def fnPointSubtractRoadsWrong : ChangeSpec := { name := "fnPointSubtractRoads", vars := ["loop.example/pub-g03328/pub/field.feOne", "loop.example/pub-g03328/pub/field.sqrtM1", "loop.example/pub-g03328/pub/field.feZero"], fn := fun _ => fun
  | [d1, d2, g1, g2, g3] => { results := [.lit (.bool false)], args := [d1, d2], vars := [g1, g2, g3] }
  | _ => none }
def FnPointSubtractRoadsWrongFalsely : Prop := fnPointSubtractRoadsRow.holds Tryd.pinned (OpenSpec.ofChange fnPointSubtractRoadsWrong)

/- THE SECOND FORM. 'bulk': how many values and letters a reading holds, each counted each time it is reached (what is shared counts as often as it is met; a slice's spare places count too). A statement '..UptoSaid' is the law's where the arguments, and the package variables that the reading takes, are together of bulk at most 1048576: NARROWER than '..Said'. Prove '..Said' where nothing that the law and all that it calls make is longer than what came in: it says more and counts as full. Else prove '..UptoSaid'. A law counts once. -/
mutual
def uptoBulk {H : Type} : DataW H → Nat
  | .lit (.string bytes) => bytes.length + 1
  | .lit _ => 1
  | .nil => 1
  | .ptr d => uptoBulk d + 1
  | .slice elems spare => uptoBulkAll elems + uptoBulkAll spare + 1
  | .agg parts => uptoBulkAll parts + 1
  | .iface _ d => uptoBulk d + 1
  | .map entries => uptoBulkEntries entries + 1
  | .held _ => 1
def uptoBulkAll {H : Type} : List (DataW H) → Nat
  | [] => 0
  | d :: r => uptoBulk d + uptoBulkAll r
def uptoBulkEntries {H : Type} : List (Lit × DataW H) → Nat
  | [] => 0
  | x :: r => uptoBulkEntry x + uptoBulkEntries r
def uptoBulkEntry {H : Type} : Lit × DataW H → Nat
  | (.string bytes, d) => bytes.length + uptoBulk d + 1
  | (_, d) => uptoBulk d + 1
 end
def uptoSmall : (H : Type) → List (DataW H) → Bool := fun _ ds => decide (uptoBulkAll ds ≤ 1048576)
def OpenSpec.upto (s : _root_.Go.ChangeSpec) : _root_.Go.OpenSpec := { _root_.Go.OpenSpec.ofChange s with cond := some uptoSmall }

/-- 'laws.FnExactPointEqual', WHERE WHAT IT READS IS OF BULK AT MOST 1048576: true; the input reads as it did. -/
def fnExactPointEqualUptoRow : OpenClaim := { program := "ytcenlinpbpbpoaadoor", sum := "dc9934de64cf1ef44102a68fa62451dd1f4754a75f16ca931f7c2d981670e467", func := "loop.example/pub-g03328/laws.FnExactPointEqual", spec := "fnExactPointEqual", inPlace := ["math/bits.Add64", "math/bits.Sub64"], named := ["loop.example/pub-g03328/pub/field.feOne", "loop.example/pub-g03328/pub/field.sqrtM1", "loop.example/pub-g03328/pub/field.feZero"], apart := false, laid := [("loop.example/pub-g03328/pub/field.feZero", laid_loop_example_pub_g03328_pub_field_feZero), ("loop.example/pub-g03328/pub/field.feOne", laid_loop_example_pub_g03328_pub_field_feOne), ("loop.example/pub-g03328/pub/field.sqrtM1", laid_loop_example_pub_g03328_pub_field_sqrtM1)], narrowed := true }
def FnExactPointEqualUptoSaid : Prop := fnExactPointEqualUptoRow.holds Tryd.pinned (OpenSpec.upto fnExactPointEqualSpec)

/-- 'laws.FnExactPointSetBytes', WHERE WHAT IT READS IS OF BULK AT MOST 1048576: true; the input reads as it did. -/
def fnExactPointSetBytesUptoRow : OpenClaim := { program := "ytcenlinpbpbpoaadoor", sum := "dc9934de64cf1ef44102a68fa62451dd1f4754a75f16ca931f7c2d981670e467", func := "loop.example/pub-g03328/laws.FnExactPointSetBytes", spec := "fnExactPointSetBytes", inPlace := ["math/bits.Add64", "math/bits.Sub64"], named := ["loop.example/pub-g03328/pub/field.feOne", "loop.example/pub-g03328/pub/field.sqrtM1", "loop.example/pub-g03328/pub/field.feZero"], apart := false, laid := [("loop.example/pub-g03328/pub/field.feZero", laid_loop_example_pub_g03328_pub_field_feZero), ("loop.example/pub-g03328/pub/field.feOne", laid_loop_example_pub_g03328_pub_field_feOne), ("loop.example/pub-g03328/pub/field.sqrtM1", laid_loop_example_pub_g03328_pub_field_sqrtM1)], narrowed := true }
def FnExactPointSetBytesUptoSaid : Prop := fnExactPointSetBytesUptoRow.holds Tryd.pinned (OpenSpec.upto fnExactPointSetBytesSpec)

/-- 'laws.FnPointRoundTrip', WHERE WHAT IT READS IS OF BULK AT MOST 1048576: true; the input reads as it did. -/
def fnPointRoundTripUptoRow : OpenClaim := { program := "ytcenlinpbpbpoaadoor", sum := "dc9934de64cf1ef44102a68fa62451dd1f4754a75f16ca931f7c2d981670e467", func := "loop.example/pub-g03328/laws.FnPointRoundTrip", spec := "fnPointRoundTrip", inPlace := ["math/bits.Add64", "math/bits.Sub64"], named := ["loop.example/pub-g03328/pub/field.feOne", "loop.example/pub-g03328/pub/field.sqrtM1", "loop.example/pub-g03328/pub/field.feZero"], apart := false, laid := [("loop.example/pub-g03328/pub/field.feZero", laid_loop_example_pub_g03328_pub_field_feZero), ("loop.example/pub-g03328/pub/field.feOne", laid_loop_example_pub_g03328_pub_field_feOne), ("loop.example/pub-g03328/pub/field.sqrtM1", laid_loop_example_pub_g03328_pub_field_sqrtM1)], narrowed := true }
def FnPointRoundTripUptoSaid : Prop := fnPointRoundTripUptoRow.holds Tryd.pinned (OpenSpec.upto fnPointRoundTripSpec)

/-- 'laws.FnExactPointIdentity', WHERE WHAT IT READS IS OF BULK AT MOST 1048576: true; the input reads as it did. -/
def fnExactPointIdentityUptoRow : OpenClaim := { program := "ytcenlinpbpbpoaadoor", sum := "dc9934de64cf1ef44102a68fa62451dd1f4754a75f16ca931f7c2d981670e467", func := "loop.example/pub-g03328/laws.FnExactPointIdentity", spec := "fnExactPointIdentity", inPlace := ["math/bits.Add64", "math/bits.Sub64"], named := ["loop.example/pub-g03328/pub/field.feOne", "loop.example/pub-g03328/pub/field.sqrtM1", "loop.example/pub-g03328/pub/field.feZero"], apart := false, laid := [("loop.example/pub-g03328/pub/field.feZero", laid_loop_example_pub_g03328_pub_field_feZero), ("loop.example/pub-g03328/pub/field.feOne", laid_loop_example_pub_g03328_pub_field_feOne), ("loop.example/pub-g03328/pub/field.sqrtM1", laid_loop_example_pub_g03328_pub_field_sqrtM1)], narrowed := true }
def FnExactPointIdentityUptoSaid : Prop := fnExactPointIdentityUptoRow.holds Tryd.pinned (OpenSpec.upto fnExactPointIdentitySpec)

/-- 'laws.FnExactPointSubtract', WHERE WHAT IT READS IS OF BULK AT MOST 1048576: true; the input reads as it did. -/
def fnExactPointSubtractUptoRow : OpenClaim := { program := "ytcenlinpbpbpoaadoor", sum := "dc9934de64cf1ef44102a68fa62451dd1f4754a75f16ca931f7c2d981670e467", func := "loop.example/pub-g03328/laws.FnExactPointSubtract", spec := "fnExactPointSubtract", inPlace := ["math/bits.Add64", "math/bits.Sub64"], named := ["loop.example/pub-g03328/pub/field.feOne", "loop.example/pub-g03328/pub/field.sqrtM1", "loop.example/pub-g03328/pub/field.feZero"], apart := false, laid := [("loop.example/pub-g03328/pub/field.feZero", laid_loop_example_pub_g03328_pub_field_feZero), ("loop.example/pub-g03328/pub/field.feOne", laid_loop_example_pub_g03328_pub_field_feOne), ("loop.example/pub-g03328/pub/field.sqrtM1", laid_loop_example_pub_g03328_pub_field_sqrtM1)], narrowed := true }
def FnExactPointSubtractUptoSaid : Prop := fnExactPointSubtractUptoRow.holds Tryd.pinned (OpenSpec.upto fnExactPointSubtractSpec)

/-- 'laws.FnPointAddOrder', WHERE WHAT IT READS IS OF BULK AT MOST 1048576: true; the input reads as it did. -/
def fnPointAddOrderUptoRow : OpenClaim := { program := "ytcenlinpbpbpoaadoor", sum := "dc9934de64cf1ef44102a68fa62451dd1f4754a75f16ca931f7c2d981670e467", func := "loop.example/pub-g03328/laws.FnPointAddOrder", spec := "fnPointAddOrder", inPlace := ["math/bits.Add64", "math/bits.Sub64"], named := ["loop.example/pub-g03328/pub/field.feOne", "loop.example/pub-g03328/pub/field.sqrtM1", "loop.example/pub-g03328/pub/field.feZero"], apart := false, laid := [("loop.example/pub-g03328/pub/field.feZero", laid_loop_example_pub_g03328_pub_field_feZero), ("loop.example/pub-g03328/pub/field.feOne", laid_loop_example_pub_g03328_pub_field_feOne), ("loop.example/pub-g03328/pub/field.sqrtM1", laid_loop_example_pub_g03328_pub_field_sqrtM1)], narrowed := true }
def FnPointAddOrderUptoSaid : Prop := fnPointAddOrderUptoRow.holds Tryd.pinned (OpenSpec.upto fnPointAddOrderSpec)

/-- 'laws.FnPointNeutral', WHERE WHAT IT READS IS OF BULK AT MOST 1048576: true; the input reads as it did. -/
def fnPointNeutralUptoRow : OpenClaim := { program := "ytcenlinpbpbpoaadoor", sum := "dc9934de64cf1ef44102a68fa62451dd1f4754a75f16ca931f7c2d981670e467", func := "loop.example/pub-g03328/laws.FnPointNeutral", spec := "fnPointNeutral", inPlace := ["math/bits.Add64", "math/bits.Sub64"], named := ["loop.example/pub-g03328/pub/field.feOne", "loop.example/pub-g03328/pub/field.sqrtM1", "loop.example/pub-g03328/pub/field.feZero"], apart := false, laid := [("loop.example/pub-g03328/pub/field.feZero", laid_loop_example_pub_g03328_pub_field_feZero), ("loop.example/pub-g03328/pub/field.feOne", laid_loop_example_pub_g03328_pub_field_feOne), ("loop.example/pub-g03328/pub/field.sqrtM1", laid_loop_example_pub_g03328_pub_field_sqrtM1)], narrowed := true }
def FnPointNeutralUptoSaid : Prop := fnPointNeutralUptoRow.holds Tryd.pinned (OpenSpec.upto fnPointNeutralSpec)

/-- 'laws.FnPointSubtractRoads', WHERE WHAT IT READS IS OF BULK AT MOST 1048576: true; the input reads as it did. -/
def fnPointSubtractRoadsUptoRow : OpenClaim := { program := "ytcenlinpbpbpoaadoor", sum := "dc9934de64cf1ef44102a68fa62451dd1f4754a75f16ca931f7c2d981670e467", func := "loop.example/pub-g03328/laws.FnPointSubtractRoads", spec := "fnPointSubtractRoads", inPlace := ["math/bits.Add64", "math/bits.Sub64"], named := ["loop.example/pub-g03328/pub/field.feOne", "loop.example/pub-g03328/pub/field.sqrtM1", "loop.example/pub-g03328/pub/field.feZero"], apart := false, laid := [("loop.example/pub-g03328/pub/field.feZero", laid_loop_example_pub_g03328_pub_field_feZero), ("loop.example/pub-g03328/pub/field.feOne", laid_loop_example_pub_g03328_pub_field_feOne), ("loop.example/pub-g03328/pub/field.sqrtM1", laid_loop_example_pub_g03328_pub_field_sqrtM1)], narrowed := true }
def FnPointSubtractRoadsUptoSaid : Prop := fnPointSubtractRoadsUptoRow.holds Tryd.pinned (OpenSpec.upto fnPointSubtractRoadsSpec)

end Rows
end Go.Proofs.YtcenlinpbpbpoaaDoor
