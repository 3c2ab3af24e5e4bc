/-
  No cell of these rows narrows 'for every input' (looked for: loops, veiled, ifaces, maps, wideKeys, modest, calm, conditions, laid).
  DERIVED. THE GIVEN ROWS OF THIS SEAT. 7 by the template 'for every input the law returns true; each argument reads behind the call as it read before'; 0 by the template 'total and deterministic' (their statements: YtkecocibfmhdpaaTotals.lean).
  GIVEN WITH THE SEED: the statements are not yours to turn. If you find one false, say at which input.
  Laid BY PROGRAM, IN A SANDBOX (cutbox-rows.mjs): the forced cells as the released guide's own fill.sh prints them over the translation 2f6e59c1e6f2ebeb… (all of the seat's roots in one cut). By AI agents, Wed Nov 11 2026. No macro, syntax, notation, axiom, sorry.
-/
import Derived.Test.YtkecocibfmhdpaaChecked
import GoSem.Claim
import GoSem.ClaimJoined
import GoSem.ClaimMapViews
import Derived.JoinedTies
import Derived.KernelRfl
namespace Go.Proofs.Ytkecocibfmhdpaa
/- THE CELL 'sum', in the pinned program and in every row, IS THE sha256 OF THE DUMP (.gsa) THAT YtkecocibfmhdpaaProg.lean LOADS. Nothing in Lean hashes anything: it is a label: what it is worth is what the hold of that sum in a sandbox is worth. -/
noncomputable def Try.pinned : Pinned := { name := "ytkecocibfmhdpaa", sum := "2f6e59c1e6f2ebebbb13c76bad59b96d11d9f4dc825977864aeb1a255f36b4fd", checked := Try.checked }
namespace Rows
def none {H : Type} : Left H := { results := [], args := [] }

/-- 'laws.FnFieldNeutral': WHATEVER THE INPUT: true; the input reads as it did. -/
def fnFieldNeutralSpec : ChangeSpec := { name := "fnFieldNeutral", fn := fun _ => fun
  | [d] => { results := [.lit (.bool true)], args := [d] }
  | _ => none }
def fnFieldNeutralRow : OpenClaim := { program := "ytkecocibfmhdpaa", sum := "2f6e59c1e6f2ebebbb13c76bad59b96d11d9f4dc825977864aeb1a255f36b4fd", func := "loop.example/pub-g03328/laws.FnFieldNeutral", spec := "fnFieldNeutral", inPlace := ["math/bits.Add64"], apart := false }
def FnFieldNeutralSaid : Prop := fnFieldNeutralRow.holds Try.pinned (OpenSpec.ofChange fnFieldNeutralSpec)

/-- ITS FALSE NEIGHBOUR: 'it returns false'. Refute it at one input. -/
def fnFieldNeutralWrong : ChangeSpec := { name := "fnFieldNeutral", fn := fun _ => fun
  | [d] => { results := [.lit (.bool false)], args := [d] }
  | _ => none }
def FnFieldNeutralWrongFalsely : Prop := fnFieldNeutralRow.holds Try.pinned (OpenSpec.ofChange fnFieldNeutralWrong)

/-- 'laws.FnFieldMult32Product': WHATEVER THE INPUT: true; the input reads as it did. -/
def fnFieldMult32ProductSpec : ChangeSpec := { name := "fnFieldMult32Product", fn := fun _ => fun
  | [d1, d2, d3] => { results := [.lit (.bool true)], args := [d1, d2, d3] }
  | _ => none }
def fnFieldMult32ProductRow : OpenClaim := { program := "ytkecocibfmhdpaa", sum := "2f6e59c1e6f2ebebbb13c76bad59b96d11d9f4dc825977864aeb1a255f36b4fd", func := "loop.example/pub-g03328/laws.FnFieldMult32Product", spec := "fnFieldMult32Product", inPlace := ["math/bits.Add64"], apart := false }
def FnFieldMult32ProductSaid : Prop := fnFieldMult32ProductRow.holds Try.pinned (OpenSpec.ofChange fnFieldMult32ProductSpec)

/-- ITS FALSE NEIGHBOUR: 'it returns false'. Refute it at one input. -/
def fnFieldMult32ProductWrong : ChangeSpec := { name := "fnFieldMult32Product", fn := fun _ => fun
  | [d1, d2, d3] => { results := [.lit (.bool false)], args := [d1, d2, d3] }
  | _ => none }
def FnFieldMult32ProductWrongFalsely : Prop := fnFieldMult32ProductRow.holds Try.pinned (OpenSpec.ofChange fnFieldMult32ProductWrong)

/-- 'laws.FnFieldBinomial': WHATEVER THE INPUT: true; the input reads as it did. -/
def fnFieldBinomialSpec : ChangeSpec := { name := "fnFieldBinomial", fn := fun _ => fun
  | [d1, d2] => { results := [.lit (.bool true)], args := [d1, d2] }
  | _ => none }
def fnFieldBinomialRow : OpenClaim := { program := "ytkecocibfmhdpaa", sum := "2f6e59c1e6f2ebebbb13c76bad59b96d11d9f4dc825977864aeb1a255f36b4fd", func := "loop.example/pub-g03328/laws.FnFieldBinomial", spec := "fnFieldBinomial", inPlace := ["math/bits.Add64"], apart := false }
def FnFieldBinomialSaid : Prop := fnFieldBinomialRow.holds Try.pinned (OpenSpec.ofChange fnFieldBinomialSpec)

/-- ITS FALSE NEIGHBOUR: 'it returns false'. Refute it at one input. -/
def fnFieldBinomialWrong : ChangeSpec := { name := "fnFieldBinomial", fn := fun _ => fun
  | [d1, d2] => { results := [.lit (.bool false)], args := [d1, d2] }
  | _ => none }
def FnFieldBinomialWrongFalsely : Prop := fnFieldBinomialRow.holds Try.pinned (OpenSpec.ofChange fnFieldBinomialWrong)

/-- 'laws.FnExactFieldPow22523': WHATEVER THE INPUT: true; the input reads as it did. -/
def fnExactFieldPow22523Spec : ChangeSpec := { name := "fnExactFieldPow22523", fn := fun _ => fun
  | [d] => { results := [.lit (.bool true)], args := [d] }
  | _ => none }
def fnExactFieldPow22523Row : OpenClaim := { program := "ytkecocibfmhdpaa", sum := "2f6e59c1e6f2ebebbb13c76bad59b96d11d9f4dc825977864aeb1a255f36b4fd", func := "loop.example/pub-g03328/laws.FnExactFieldPow22523", spec := "fnExactFieldPow22523", inPlace := ["math/bits.Add64", "math/bits.Sub64"], apart := false }
def FnExactFieldPow22523Said : Prop := fnExactFieldPow22523Row.holds Try.pinned (OpenSpec.ofChange fnExactFieldPow22523Spec)

/-- ITS FALSE NEIGHBOUR: 'it returns false'. Refute it at one input. -/
def fnExactFieldPow22523Wrong : ChangeSpec := { name := "fnExactFieldPow22523", fn := fun _ => fun
  | [d] => { results := [.lit (.bool false)], args := [d] }
  | _ => none }
def FnExactFieldPow22523WrongFalsely : Prop := fnExactFieldPow22523Row.holds Try.pinned (OpenSpec.ofChange fnExactFieldPow22523Wrong)

/-- 'laws.FnFieldInvertProduct': WHATEVER THE INPUT: true; the input reads as it did. -/
def fnFieldInvertProductSpec : ChangeSpec := { name := "fnFieldInvertProduct", fn := fun _ => fun
  | [d1, d2] => { results := [.lit (.bool true)], args := [d1, d2] }
  | _ => none }
def fnFieldInvertProductRow : OpenClaim := { program := "ytkecocibfmhdpaa", sum := "2f6e59c1e6f2ebebbb13c76bad59b96d11d9f4dc825977864aeb1a255f36b4fd", func := "loop.example/pub-g03328/laws.FnFieldInvertProduct", spec := "fnFieldInvertProduct", inPlace := ["math/bits.Add64"], apart := false }
def FnFieldInvertProductSaid : Prop := fnFieldInvertProductRow.holds Try.pinned (OpenSpec.ofChange fnFieldInvertProductSpec)

/-- ITS FALSE NEIGHBOUR: 'it returns false'. Refute it at one input. -/
def fnFieldInvertProductWrong : ChangeSpec := { name := "fnFieldInvertProduct", fn := fun _ => fun
  | [d1, d2] => { results := [.lit (.bool false)], args := [d1, d2] }
  | _ => none }
def FnFieldInvertProductWrongFalsely : Prop := fnFieldInvertProductRow.holds Try.pinned (OpenSpec.ofChange fnFieldInvertProductWrong)

/-- 'laws.FnExactFieldInvert': WHATEVER THE INPUT: true; the input reads as it did. -/
def fnExactFieldInvertSpec : ChangeSpec := { name := "fnExactFieldInvert", fn := fun _ => fun
  | [d] => { results := [.lit (.bool true)], args := [d] }
  | _ => none }
def fnExactFieldInvertRow : OpenClaim := { program := "ytkecocibfmhdpaa", sum := "2f6e59c1e6f2ebebbb13c76bad59b96d11d9f4dc825977864aeb1a255f36b4fd", func := "loop.example/pub-g03328/laws.FnExactFieldInvert", spec := "fnExactFieldInvert", inPlace := ["math/bits.Add64", "math/bits.Sub64"], apart := false }
def FnExactFieldInvertSaid : Prop := fnExactFieldInvertRow.holds Try.pinned (OpenSpec.ofChange fnExactFieldInvertSpec)

/-- ITS FALSE NEIGHBOUR: 'it returns false'. Refute it at one input. -/
def fnExactFieldInvertWrong : ChangeSpec := { name := "fnExactFieldInvert", fn := fun _ => fun
  | [d] => { results := [.lit (.bool false)], args := [d] }
  | _ => none }
def FnExactFieldInvertWrongFalsely : Prop := fnExactFieldInvertRow.holds Try.pinned (OpenSpec.ofChange fnExactFieldInvertWrong)

/-- 'laws.FnFieldInverts': WHATEVER THE INPUT: true; the input reads as it did. -/
def fnFieldInvertsSpec : ChangeSpec := { name := "fnFieldInverts", fn := fun _ => fun
  | [d] => { results := [.lit (.bool true)], args := [d] }
  | _ => none }
def fnFieldInvertsRow : OpenClaim := { program := "ytkecocibfmhdpaa", sum := "2f6e59c1e6f2ebebbb13c76bad59b96d11d9f4dc825977864aeb1a255f36b4fd", func := "loop.example/pub-g03328/laws.FnFieldInverts", spec := "fnFieldInverts", inPlace := ["math/bits.Add64"], apart := false }
def FnFieldInvertsSaid : Prop := fnFieldInvertsRow.holds Try.pinned (OpenSpec.ofChange fnFieldInvertsSpec)

/-- ITS FALSE NEIGHBOUR: 'it returns false'. Refute it at one input. -/
def fnFieldInvertsWrong : ChangeSpec := { name := "fnFieldInverts", fn := fun _ => fun
  | [d] => { results := [.lit (.bool false)], args := [d] }
  | _ => none }
def FnFieldInvertsWrongFalsely : Prop := fnFieldInvertsRow.holds Try.pinned (OpenSpec.ofChange fnFieldInvertsWrong)

/- THE SECOND FORM. 'bulk': how many values and letters a reading holds, each counted each time it is reached (what is shared counts as often as it is met; a slice's spare places count too). A statement '..UptoSaid' is the law's where the arguments, and the package variables that the reading takes, are together of bulk at most 1048576: NARROWER than '..Said'. Prove '..Said' where nothing that the law and all that it calls make is longer than what came in: it says more and counts as full. Else prove '..UptoSaid'. A law counts once. -/
mutual
def uptoBulk {H : Type} : DataW H → Nat
  | .lit (.string bytes) => bytes.length + 1
  | .lit _ => 1
  | .nil => 1
  | .ptr d => uptoBulk d + 1
  | .slice elems spare => uptoBulkAll elems + uptoBulkAll spare + 1
  | .agg parts => uptoBulkAll parts + 1
  | .iface _ d => uptoBulk d + 1
  | .map entries => uptoBulkEntries entries + 1
  | .held _ => 1
def uptoBulkAll {H : Type} : List (DataW H) → Nat
  | [] => 0
  | d :: r => uptoBulk d + uptoBulkAll r
def uptoBulkEntries {H : Type} : List (Lit × DataW H) → Nat
  | [] => 0
  | x :: r => uptoBulkEntry x + uptoBulkEntries r
def uptoBulkEntry {H : Type} : Lit × DataW H → Nat
  | (.string bytes, d) => bytes.length + uptoBulk d + 1
  | (_, d) => uptoBulk d + 1
 end
def uptoSmall : (H : Type) → List (DataW H) → Bool := fun _ ds => decide (uptoBulkAll ds ≤ 1048576)
def OpenSpec.upto (s : _root_.Go.ChangeSpec) : _root_.Go.OpenSpec := { _root_.Go.OpenSpec.ofChange s with cond := some uptoSmall }

/-- 'laws.FnFieldNeutral', WHERE WHAT IT READS IS OF BULK AT MOST 1048576: true; the input reads as it did. -/
def fnFieldNeutralUptoRow : OpenClaim := { program := "ytkecocibfmhdpaa", sum := "2f6e59c1e6f2ebebbb13c76bad59b96d11d9f4dc825977864aeb1a255f36b4fd", func := "loop.example/pub-g03328/laws.FnFieldNeutral", spec := "fnFieldNeutral", inPlace := ["math/bits.Add64"], apart := false, narrowed := true }
def FnFieldNeutralUptoSaid : Prop := fnFieldNeutralUptoRow.holds Try.pinned (OpenSpec.upto fnFieldNeutralSpec)

/-- 'laws.FnFieldMult32Product', WHERE WHAT IT READS IS OF BULK AT MOST 1048576: true; the input reads as it did. -/
def fnFieldMult32ProductUptoRow : OpenClaim := { program := "ytkecocibfmhdpaa", sum := "2f6e59c1e6f2ebebbb13c76bad59b96d11d9f4dc825977864aeb1a255f36b4fd", func := "loop.example/pub-g03328/laws.FnFieldMult32Product", spec := "fnFieldMult32Product", inPlace := ["math/bits.Add64"], apart := false, narrowed := true }
def FnFieldMult32ProductUptoSaid : Prop := fnFieldMult32ProductUptoRow.holds Try.pinned (OpenSpec.upto fnFieldMult32ProductSpec)

/-- 'laws.FnFieldBinomial', WHERE WHAT IT READS IS OF BULK AT MOST 1048576: true; the input reads as it did. -/
def fnFieldBinomialUptoRow : OpenClaim := { program := "ytkecocibfmhdpaa", sum := "2f6e59c1e6f2ebebbb13c76bad59b96d11d9f4dc825977864aeb1a255f36b4fd", func := "loop.example/pub-g03328/laws.FnFieldBinomial", spec := "fnFieldBinomial", inPlace := ["math/bits.Add64"], apart := false, narrowed := true }
def FnFieldBinomialUptoSaid : Prop := fnFieldBinomialUptoRow.holds Try.pinned (OpenSpec.upto fnFieldBinomialSpec)

/-- 'laws.FnExactFieldPow22523', WHERE WHAT IT READS IS OF BULK AT MOST 1048576: true; the input reads as it did. -/
def fnExactFieldPow22523UptoRow : OpenClaim := { program := "ytkecocibfmhdpaa", sum := "2f6e59c1e6f2ebebbb13c76bad59b96d11d9f4dc825977864aeb1a255f36b4fd", func := "loop.example/pub-g03328/laws.FnExactFieldPow22523", spec := "fnExactFieldPow22523", inPlace := ["math/bits.Add64", "math/bits.Sub64"], apart := false, narrowed := true }
def FnExactFieldPow22523UptoSaid : Prop := fnExactFieldPow22523UptoRow.holds Try.pinned (OpenSpec.upto fnExactFieldPow22523Spec)

/-- 'laws.FnFieldInvertProduct', WHERE WHAT IT READS IS OF BULK AT MOST 1048576: true; the input reads as it did. -/
def fnFieldInvertProductUptoRow : OpenClaim := { program := "ytkecocibfmhdpaa", sum := "2f6e59c1e6f2ebebbb13c76bad59b96d11d9f4dc825977864aeb1a255f36b4fd", func := "loop.example/pub-g03328/laws.FnFieldInvertProduct", spec := "fnFieldInvertProduct", inPlace := ["math/bits.Add64"], apart := false, narrowed := true }
def FnFieldInvertProductUptoSaid : Prop := fnFieldInvertProductUptoRow.holds Try.pinned (OpenSpec.upto fnFieldInvertProductSpec)

/-- 'laws.FnExactFieldInvert', WHERE WHAT IT READS IS OF BULK AT MOST 1048576: true; the input reads as it did. -/
def fnExactFieldInvertUptoRow : OpenClaim := { program := "ytkecocibfmhdpaa", sum := "2f6e59c1e6f2ebebbb13c76bad59b96d11d9f4dc825977864aeb1a255f36b4fd", func := "loop.example/pub-g03328/laws.FnExactFieldInvert", spec := "fnExactFieldInvert", inPlace := ["math/bits.Add64", "math/bits.Sub64"], apart := false, narrowed := true }
def FnExactFieldInvertUptoSaid : Prop := fnExactFieldInvertUptoRow.holds Try.pinned (OpenSpec.upto fnExactFieldInvertSpec)

/-- 'laws.FnFieldInverts', WHERE WHAT IT READS IS OF BULK AT MOST 1048576: true; the input reads as it did. -/
def fnFieldInvertsUptoRow : OpenClaim := { program := "ytkecocibfmhdpaa", sum := "2f6e59c1e6f2ebebbb13c76bad59b96d11d9f4dc825977864aeb1a255f36b4fd", func := "loop.example/pub-g03328/laws.FnFieldInverts", spec := "fnFieldInverts", inPlace := ["math/bits.Add64"], apart := false, narrowed := true }
def FnFieldInvertsUptoSaid : Prop := fnFieldInvertsUptoRow.holds Try.pinned (OpenSpec.upto fnFieldInvertsSpec)

end Rows
end Go.Proofs.Ytkecocibfmhdpaa
