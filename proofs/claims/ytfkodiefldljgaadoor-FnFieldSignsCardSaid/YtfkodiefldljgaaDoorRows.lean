/-
  NARROWER THAN 'FOR EVERY INPUT', by the rows' own cells (each row's printed sentence says how): FnExactFieldZeroOne: laid · FnFieldNegates: laid · FnExactFieldNegate: laid · FnFieldSigns: laid.
  DERIVED. THE GIVEN ROWS OF THIS SEAT. 4 by the template 'for every input the law returns true; each argument reads behind the call as it read before'; 0 by the template 'total and deterministic' (their statements: YtfkodiefldljgaaDoorTotals.lean).
  GIVEN WITH THE SEED: the statements are not yours to turn. If you find one false, say at which input.
  Laid BY PROGRAM, IN A SANDBOX (cutbox-rows.mjs): the forced cells as the released guide's own fill.sh prints them over the translation 1407775da26486ee… (all of the seat's roots in one cut). By AI agents, Wed Nov 11 2026. No macro, syntax, notation, axiom, sorry.
-/
import Derived.Test.YtfkodiefldljgaaDoorChecked
import GoSem.Claim
import GoSem.ClaimJoined
import GoSem.ClaimMapViews
import Derived.JoinedTies
import Derived.KernelRfl
namespace Go.Proofs.YtfkodiefldljgaaDoor
/- THE CELL 'sum', in the pinned program and in every row, IS THE sha256 OF THE DUMP (.gsa) THAT YtfkodiefldljgaaDoorProg.lean LOADS. Nothing in Lean hashes anything: it is a label: what it is worth is what the hold of that sum in a sandbox is worth. -/
noncomputable def Tryd.pinned : Pinned := { name := "ytfkodiefldljgaadoor", sum := "1407775da26486eef21340dc8df29ec9a1396c2552685f0efd431a95a14fcefe", checked := Tryd.checked }
namespace Rows
def none {H : Type} : Left H := { results := [], args := [] }

/- WHAT THE LISTED PACKAGE-LEVEL VARIABLES READ AS WHEN THE CALL BEGINS. Each datum BY PROGRAM (the guide's laid-datum.mjs) off the statement by which the dump's own 'gosem.cut.vars' lays the variable. In a bare row this is a premise. The card (YtfkodiefldljgaaDoorCards.lean) ties it to the program's text. -/
def laid_loop_example_pub_g03328_pub_field_feZero {H : Type} : DataW H := .ptr (.agg [.lit (.int .u64 0), .lit (.int .u64 0), .lit (.int .u64 0), .lit (.int .u64 0), .lit (.int .u64 0)])
def laid_loop_example_pub_g03328_pub_field_feOne {H : Type} : DataW H := .ptr (.agg [.lit (.int .u64 1), .lit (.int .u64 0), .lit (.int .u64 0), .lit (.int .u64 0), .lit (.int .u64 0)])

/-- 'laws.FnExactFieldZeroOne': WHATEVER THE INPUT: true; the input reads as it did. -/
def fnExactFieldZeroOneSpec : ChangeSpec := { name := "fnExactFieldZeroOne", vars := ["loop.example/pub-g03328/pub/field.feZero", "loop.example/pub-g03328/pub/field.feOne"], fn := fun _ => fun
  | [d, g1, g2] => { results := [.lit (.bool true)], args := [d], vars := [g1, g2] }
  | _ => none }
def fnExactFieldZeroOneRow : OpenClaim := { program := "ytfkodiefldljgaadoor", sum := "1407775da26486eef21340dc8df29ec9a1396c2552685f0efd431a95a14fcefe", func := "loop.example/pub-g03328/laws.FnExactFieldZeroOne", spec := "fnExactFieldZeroOne", named := ["loop.example/pub-g03328/pub/field.feZero", "loop.example/pub-g03328/pub/field.feOne"], apart := false, laid := [("loop.example/pub-g03328/pub/field.feZero", laid_loop_example_pub_g03328_pub_field_feZero), ("loop.example/pub-g03328/pub/field.feOne", laid_loop_example_pub_g03328_pub_field_feOne)] }
def FnExactFieldZeroOneSaid : Prop := fnExactFieldZeroOneRow.holds Tryd.pinned (OpenSpec.ofChange fnExactFieldZeroOneSpec)

/-- ITS FALSE NEIGHBOUR: 'it returns false'. Refute it at one input. -/
def fnExactFieldZeroOneWrong : ChangeSpec := { name := "fnExactFieldZeroOne", vars := ["loop.example/pub-g03328/pub/field.feZero", "loop.example/pub-g03328/pub/field.feOne"], fn := fun _ => fun
  | [d, g1, g2] => { results := [.lit (.bool false)], args := [d], vars := [g1, g2] }
  | _ => none }
def FnExactFieldZeroOneWrongFalsely : Prop := fnExactFieldZeroOneRow.holds Tryd.pinned (OpenSpec.ofChange fnExactFieldZeroOneWrong)

/-- 'laws.FnFieldNegates': WHATEVER THE INPUT: true; the input reads as it did. -/
def fnFieldNegatesSpec : ChangeSpec := { name := "fnFieldNegates", vars := ["loop.example/pub-g03328/pub/field.feZero"], fn := fun _ => fun
  | [d, g1] => { results := [.lit (.bool true)], args := [d], vars := [g1] }
  | _ => none }
def fnFieldNegatesRow : OpenClaim := { program := "ytfkodiefldljgaadoor", sum := "1407775da26486eef21340dc8df29ec9a1396c2552685f0efd431a95a14fcefe", func := "loop.example/pub-g03328/laws.FnFieldNegates", spec := "fnFieldNegates", named := ["loop.example/pub-g03328/pub/field.feZero"], apart := false, laid := [("loop.example/pub-g03328/pub/field.feZero", laid_loop_example_pub_g03328_pub_field_feZero)] }
def FnFieldNegatesSaid : Prop := fnFieldNegatesRow.holds Tryd.pinned (OpenSpec.ofChange fnFieldNegatesSpec)

/-- ITS FALSE NEIGHBOUR: 'it returns false'. Refute it at one input. -/
def fnFieldNegatesWrong : ChangeSpec := { name := "fnFieldNegates", vars := ["loop.example/pub-g03328/pub/field.feZero"], fn := fun _ => fun
  | [d, g1] => { results := [.lit (.bool false)], args := [d], vars := [g1] }
  | _ => none }
def FnFieldNegatesWrongFalsely : Prop := fnFieldNegatesRow.holds Tryd.pinned (OpenSpec.ofChange fnFieldNegatesWrong)

/-- 'laws.FnExactFieldNegate': WHATEVER THE INPUT: true; the input reads as it did. -/
def fnExactFieldNegateSpec : ChangeSpec := { name := "fnExactFieldNegate", vars := ["loop.example/pub-g03328/pub/field.feZero"], fn := fun _ => fun
  | [d, g1] => { results := [.lit (.bool true)], args := [d], vars := [g1] }
  | _ => none }
def fnExactFieldNegateRow : OpenClaim := { program := "ytfkodiefldljgaadoor", sum := "1407775da26486eef21340dc8df29ec9a1396c2552685f0efd431a95a14fcefe", func := "loop.example/pub-g03328/laws.FnExactFieldNegate", spec := "fnExactFieldNegate", inPlace := ["math/bits.Add64", "math/bits.Sub64"], named := ["loop.example/pub-g03328/pub/field.feZero"], apart := false, laid := [("loop.example/pub-g03328/pub/field.feZero", laid_loop_example_pub_g03328_pub_field_feZero)] }
def FnExactFieldNegateSaid : Prop := fnExactFieldNegateRow.holds Tryd.pinned (OpenSpec.ofChange fnExactFieldNegateSpec)

/-- ITS FALSE NEIGHBOUR: 'it returns false'. Refute it at one input. -/
def fnExactFieldNegateWrong : ChangeSpec := { name := "fnExactFieldNegate", vars := ["loop.example/pub-g03328/pub/field.feZero"], fn := fun _ => fun
  | [d, g1] => { results := [.lit (.bool false)], args := [d], vars := [g1] }
  | _ => none }
def FnExactFieldNegateWrongFalsely : Prop := fnExactFieldNegateRow.holds Tryd.pinned (OpenSpec.ofChange fnExactFieldNegateWrong)

/-- 'laws.FnFieldSigns': WHATEVER THE INPUT: true; the input reads as it did. -/
def fnFieldSignsSpec : ChangeSpec := { name := "fnFieldSigns", vars := ["loop.example/pub-g03328/pub/field.feZero"], fn := fun _ => fun
  | [d, g1] => { results := [.lit (.bool true)], args := [d], vars := [g1] }
  | _ => none }
def fnFieldSignsRow : OpenClaim := { program := "ytfkodiefldljgaadoor", sum := "1407775da26486eef21340dc8df29ec9a1396c2552685f0efd431a95a14fcefe", func := "loop.example/pub-g03328/laws.FnFieldSigns", spec := "fnFieldSigns", named := ["loop.example/pub-g03328/pub/field.feZero"], apart := false, laid := [("loop.example/pub-g03328/pub/field.feZero", laid_loop_example_pub_g03328_pub_field_feZero)] }
def FnFieldSignsSaid : Prop := fnFieldSignsRow.holds Tryd.pinned (OpenSpec.ofChange fnFieldSignsSpec)

/-- ITS FALSE NEIGHBOUR: 'it returns false'. Refute it at one input. -/
def fnFieldSignsWrong : ChangeSpec := { name := "fnFieldSigns", vars := ["loop.example/pub-g03328/pub/field.feZero"], fn := fun _ => fun
  | [d, g1] => { results := [.lit (.bool false)], args := [d], vars := [g1] }
  | _ => none }
def FnFieldSignsWrongFalsely : Prop := fnFieldSignsRow.holds Tryd.pinned (OpenSpec.ofChange fnFieldSignsWrong)

/- THE SECOND FORM. 'bulk': how many values and letters a reading holds, each counted each time it is reached (what is shared counts as often as it is met; a slice's spare places count too). A statement '..UptoSaid' is the law's where the arguments, and the package variables that the reading takes, are together of bulk at most 1048576: NARROWER than '..Said'. Prove '..Said' where nothing that the law and all that it calls make is longer than what came in: it says more and counts as full. Else prove '..UptoSaid'. A law counts once. -/
mutual
def uptoBulk {H : Type} : DataW H → Nat
  | .lit (.string bytes) => bytes.length + 1
  | .lit _ => 1
  | .nil => 1
  | .ptr d => uptoBulk d + 1
  | .slice elems spare => uptoBulkAll elems + uptoBulkAll spare + 1
  | .agg parts => uptoBulkAll parts + 1
  | .iface _ d => uptoBulk d + 1
  | .map entries => uptoBulkEntries entries + 1
  | .held _ => 1
def uptoBulkAll {H : Type} : List (DataW H) → Nat
  | [] => 0
  | d :: r => uptoBulk d + uptoBulkAll r
def uptoBulkEntries {H : Type} : List (Lit × DataW H) → Nat
  | [] => 0
  | x :: r => uptoBulkEntry x + uptoBulkEntries r
def uptoBulkEntry {H : Type} : Lit × DataW H → Nat
  | (.string bytes, d) => bytes.length + uptoBulk d + 1
  | (_, d) => uptoBulk d + 1
 end
def uptoSmall : (H : Type) → List (DataW H) → Bool := fun _ ds => decide (uptoBulkAll ds ≤ 1048576)
def OpenSpec.upto (s : _root_.Go.ChangeSpec) : _root_.Go.OpenSpec := { _root_.Go.OpenSpec.ofChange s with cond := some uptoSmall }

/-- 'laws.FnExactFieldZeroOne', WHERE WHAT IT READS IS OF BULK AT MOST 1048576: true; the input reads as it did. -/
def fnExactFieldZeroOneUptoRow : OpenClaim := { program := "ytfkodiefldljgaadoor", sum := "1407775da26486eef21340dc8df29ec9a1396c2552685f0efd431a95a14fcefe", func := "loop.example/pub-g03328/laws.FnExactFieldZeroOne", spec := "fnExactFieldZeroOne", named := ["loop.example/pub-g03328/pub/field.feZero", "loop.example/pub-g03328/pub/field.feOne"], apart := false, laid := [("loop.example/pub-g03328/pub/field.feZero", laid_loop_example_pub_g03328_pub_field_feZero), ("loop.example/pub-g03328/pub/field.feOne", laid_loop_example_pub_g03328_pub_field_feOne)], narrowed := true }
def FnExactFieldZeroOneUptoSaid : Prop := fnExactFieldZeroOneUptoRow.holds Tryd.pinned (OpenSpec.upto fnExactFieldZeroOneSpec)

/-- 'laws.FnFieldNegates', WHERE WHAT IT READS IS OF BULK AT MOST 1048576: true; the input reads as it did. -/
def fnFieldNegatesUptoRow : OpenClaim := { program := "ytfkodiefldljgaadoor", sum := "1407775da26486eef21340dc8df29ec9a1396c2552685f0efd431a95a14fcefe", func := "loop.example/pub-g03328/laws.FnFieldNegates", spec := "fnFieldNegates", named := ["loop.example/pub-g03328/pub/field.feZero"], apart := false, laid := [("loop.example/pub-g03328/pub/field.feZero", laid_loop_example_pub_g03328_pub_field_feZero)], narrowed := true }
def FnFieldNegatesUptoSaid : Prop := fnFieldNegatesUptoRow.holds Tryd.pinned (OpenSpec.upto fnFieldNegatesSpec)

/-- 'laws.FnExactFieldNegate', WHERE WHAT IT READS IS OF BULK AT MOST 1048576: true; the input reads as it did. -/
def fnExactFieldNegateUptoRow : OpenClaim := { program := "ytfkodiefldljgaadoor", sum := "1407775da26486eef21340dc8df29ec9a1396c2552685f0efd431a95a14fcefe", func := "loop.example/pub-g03328/laws.FnExactFieldNegate", spec := "fnExactFieldNegate", inPlace := ["math/bits.Add64", "math/bits.Sub64"], named := ["loop.example/pub-g03328/pub/field.feZero"], apart := false, laid := [("loop.example/pub-g03328/pub/field.feZero", laid_loop_example_pub_g03328_pub_field_feZero)], narrowed := true }
def FnExactFieldNegateUptoSaid : Prop := fnExactFieldNegateUptoRow.holds Tryd.pinned (OpenSpec.upto fnExactFieldNegateSpec)

/-- 'laws.FnFieldSigns', WHERE WHAT IT READS IS OF BULK AT MOST 1048576: true; the input reads as it did. -/
def fnFieldSignsUptoRow : OpenClaim := { program := "ytfkodiefldljgaadoor", sum := "1407775da26486eef21340dc8df29ec9a1396c2552685f0efd431a95a14fcefe", func := "loop.example/pub-g03328/laws.FnFieldSigns", spec := "fnFieldSigns", named := ["loop.example/pub-g03328/pub/field.feZero"], apart := false, laid := [("loop.example/pub-g03328/pub/field.feZero", laid_loop_example_pub_g03328_pub_field_feZero)], narrowed := true }
def FnFieldSignsUptoSaid : Prop := fnFieldSignsUptoRow.holds Tryd.pinned (OpenSpec.upto fnFieldSignsSpec)

end Rows
end Go.Proofs.YtfkodiefldljgaaDoor
