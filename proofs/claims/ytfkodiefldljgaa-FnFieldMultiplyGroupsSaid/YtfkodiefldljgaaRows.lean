/-
  No cell of these rows narrows 'for every input' (looked for: loops, veiled, ifaces, maps, wideKeys, modest, calm, conditions, laid).
  DERIVED. THE GIVEN ROWS OF THIS SEAT. 8 by the template 'for every input the law returns true; each argument reads behind the call as it read before'; 0 by the template 'total and deterministic' (their statements: YtfkodiefldljgaaTotals.lean).
  GIVEN WITH THE SEED: the statements are not yours to turn. If you find one false, say at which input.
  Laid BY PROGRAM, IN A SANDBOX (cutbox-rows.mjs): the forced cells as the released guide's own fill.sh prints them over the translation ab510c24243c0557… (all of the seat's roots in one cut). By AI agents, Wed Nov 11 2026. No macro, syntax, notation, axiom, sorry.
-/
import Derived.Test.YtfkodiefldljgaaChecked
import GoSem.Claim
import GoSem.ClaimJoined
import GoSem.ClaimMapViews
import Derived.JoinedTies
import Derived.KernelRfl
namespace Go.Proofs.Ytfkodiefldljgaa
/- THE CELL 'sum', in the pinned program and in every row, IS THE sha256 OF THE DUMP (.gsa) THAT YtfkodiefldljgaaProg.lean LOADS. Nothing in Lean hashes anything: it is a label: what it is worth is what the hold of that sum in a sandbox is worth. -/
noncomputable def Try.pinned : Pinned := { name := "ytfkodiefldljgaa", sum := "ab510c24243c055788796e66d8f960a146bcf17233569fb2be0f1bf90d753956", checked := Try.checked }
namespace Rows
def none {H : Type} : Left H := { results := [], args := [] }

/-- 'laws.FnFieldAddGroups': WHATEVER THE INPUT: true; the input reads as it did. -/
def fnFieldAddGroupsSpec : ChangeSpec := { name := "fnFieldAddGroups", fn := fun _ => fun
  | [d1, d2, d3] => { results := [.lit (.bool true)], args := [d1, d2, d3] }
  | _ => none }
def fnFieldAddGroupsRow : OpenClaim := { program := "ytfkodiefldljgaa", sum := "ab510c24243c055788796e66d8f960a146bcf17233569fb2be0f1bf90d753956", func := "loop.example/pub-g03328/laws.FnFieldAddGroups", spec := "fnFieldAddGroups", apart := false }
def FnFieldAddGroupsSaid : Prop := fnFieldAddGroupsRow.holds Try.pinned (OpenSpec.ofChange fnFieldAddGroupsSpec)

/-- ITS FALSE NEIGHBOUR: 'it returns false'. Refute it at one input. -/
def fnFieldAddGroupsWrong : ChangeSpec := { name := "fnFieldAddGroups", fn := fun _ => fun
  | [d1, d2, d3] => { results := [.lit (.bool false)], args := [d1, d2, d3] }
  | _ => none }
def FnFieldAddGroupsWrongFalsely : Prop := fnFieldAddGroupsRow.holds Try.pinned (OpenSpec.ofChange fnFieldAddGroupsWrong)

/-- 'laws.FnExactFieldIsNegative': WHATEVER THE INPUT: true; the input reads as it did. -/
def fnExactFieldIsNegativeSpec : ChangeSpec := { name := "fnExactFieldIsNegative", fn := fun _ => fun
  | [d] => { results := [.lit (.bool true)], args := [d] }
  | _ => none }
def fnExactFieldIsNegativeRow : OpenClaim := { program := "ytfkodiefldljgaa", sum := "ab510c24243c055788796e66d8f960a146bcf17233569fb2be0f1bf90d753956", func := "loop.example/pub-g03328/laws.FnExactFieldIsNegative", spec := "fnExactFieldIsNegative", inPlace := ["math/bits.Add64", "math/bits.Sub64"], apart := false }
def FnExactFieldIsNegativeSaid : Prop := fnExactFieldIsNegativeRow.holds Try.pinned (OpenSpec.ofChange fnExactFieldIsNegativeSpec)

/-- ITS FALSE NEIGHBOUR: 'it returns false'. Refute it at one input. -/
def fnExactFieldIsNegativeWrong : ChangeSpec := { name := "fnExactFieldIsNegative", fn := fun _ => fun
  | [d] => { results := [.lit (.bool false)], args := [d] }
  | _ => none }
def FnExactFieldIsNegativeWrongFalsely : Prop := fnExactFieldIsNegativeRow.holds Try.pinned (OpenSpec.ofChange fnExactFieldIsNegativeWrong)

/-- 'laws.FnFieldEqualBytes': WHATEVER THE INPUT: true; the input reads as it did. -/
def fnFieldEqualBytesSpec : ChangeSpec := { name := "fnFieldEqualBytes", fn := fun _ => fun
  | [d1, d2] => { results := [.lit (.bool true)], args := [d1, d2] }
  | _ => none }
def fnFieldEqualBytesRow : OpenClaim := { program := "ytfkodiefldljgaa", sum := "ab510c24243c055788796e66d8f960a146bcf17233569fb2be0f1bf90d753956", func := "loop.example/pub-g03328/laws.FnFieldEqualBytes", spec := "fnFieldEqualBytes", apart := false }
def FnFieldEqualBytesSaid : Prop := fnFieldEqualBytesRow.holds Try.pinned (OpenSpec.ofChange fnFieldEqualBytesSpec)

/-- ITS FALSE NEIGHBOUR: 'it returns false'. Refute it at one input. -/
def fnFieldEqualBytesWrong : ChangeSpec := { name := "fnFieldEqualBytes", fn := fun _ => fun
  | [d1, d2] => { results := [.lit (.bool false)], args := [d1, d2] }
  | _ => none }
def FnFieldEqualBytesWrongFalsely : Prop := fnFieldEqualBytesRow.holds Try.pinned (OpenSpec.ofChange fnFieldEqualBytesWrong)

/-- 'laws.FnFieldHighBit': WHATEVER THE INPUT: true; the input reads as it did. -/
def fnFieldHighBitSpec : ChangeSpec := { name := "fnFieldHighBit", fn := fun _ => fun
  | [d] => { results := [.lit (.bool true)], args := [d] }
  | _ => none }
def fnFieldHighBitRow : OpenClaim := { program := "ytfkodiefldljgaa", sum := "ab510c24243c055788796e66d8f960a146bcf17233569fb2be0f1bf90d753956", func := "loop.example/pub-g03328/laws.FnFieldHighBit", spec := "fnFieldHighBit", apart := false }
def FnFieldHighBitSaid : Prop := fnFieldHighBitRow.holds Try.pinned (OpenSpec.ofChange fnFieldHighBitSpec)

/-- ITS FALSE NEIGHBOUR: 'it returns false'. Refute it at one input. -/
def fnFieldHighBitWrong : ChangeSpec := { name := "fnFieldHighBit", fn := fun _ => fun
  | [d] => { results := [.lit (.bool false)], args := [d] }
  | _ => none }
def FnFieldHighBitWrongFalsely : Prop := fnFieldHighBitRow.holds Try.pinned (OpenSpec.ofChange fnFieldHighBitWrong)

/-- 'laws.FnExactFieldSubtract': WHATEVER THE INPUT: true; the input reads as it did. -/
def fnExactFieldSubtractSpec : ChangeSpec := { name := "fnExactFieldSubtract", fn := fun _ => fun
  | [d1, d2] => { results := [.lit (.bool true)], args := [d1, d2] }
  | _ => none }
def fnExactFieldSubtractRow : OpenClaim := { program := "ytfkodiefldljgaa", sum := "ab510c24243c055788796e66d8f960a146bcf17233569fb2be0f1bf90d753956", func := "loop.example/pub-g03328/laws.FnExactFieldSubtract", spec := "fnExactFieldSubtract", inPlace := ["math/bits.Add64", "math/bits.Sub64"], apart := false }
def FnExactFieldSubtractSaid : Prop := fnExactFieldSubtractRow.holds Try.pinned (OpenSpec.ofChange fnExactFieldSubtractSpec)

/-- ITS FALSE NEIGHBOUR: 'it returns false'. Refute it at one input. -/
def fnExactFieldSubtractWrong : ChangeSpec := { name := "fnExactFieldSubtract", fn := fun _ => fun
  | [d1, d2] => { results := [.lit (.bool false)], args := [d1, d2] }
  | _ => none }
def FnExactFieldSubtractWrongFalsely : Prop := fnExactFieldSubtractRow.holds Try.pinned (OpenSpec.ofChange fnExactFieldSubtractWrong)

/-- 'laws.FnExactFieldSwap': WHATEVER THE INPUT: true; the input reads as it did. -/
def fnExactFieldSwapSpec : ChangeSpec := { name := "fnExactFieldSwap", fn := fun _ => fun
  | [d1, d2, d3] => { results := [.lit (.bool true)], args := [d1, d2, d3] }
  | _ => none }
def fnExactFieldSwapRow : OpenClaim := { program := "ytfkodiefldljgaa", sum := "ab510c24243c055788796e66d8f960a146bcf17233569fb2be0f1bf90d753956", func := "loop.example/pub-g03328/laws.FnExactFieldSwap", spec := "fnExactFieldSwap", inPlace := ["math/bits.Add64", "math/bits.Sub64"], apart := false }
def FnExactFieldSwapSaid : Prop := fnExactFieldSwapRow.holds Try.pinned (OpenSpec.ofChange fnExactFieldSwapSpec)

/-- ITS FALSE NEIGHBOUR: 'it returns false'. Refute it at one input. -/
def fnExactFieldSwapWrong : ChangeSpec := { name := "fnExactFieldSwap", fn := fun _ => fun
  | [d1, d2, d3] => { results := [.lit (.bool false)], args := [d1, d2, d3] }
  | _ => none }
def FnExactFieldSwapWrongFalsely : Prop := fnExactFieldSwapRow.holds Try.pinned (OpenSpec.ofChange fnExactFieldSwapWrong)

/-- 'laws.FnExactFieldMult32': WHATEVER THE INPUT: true; the input reads as it did. -/
def fnExactFieldMult32Spec : ChangeSpec := { name := "fnExactFieldMult32", fn := fun _ => fun
  | [d1, d2] => { results := [.lit (.bool true)], args := [d1, d2] }
  | _ => none }
def fnExactFieldMult32Row : OpenClaim := { program := "ytfkodiefldljgaa", sum := "ab510c24243c055788796e66d8f960a146bcf17233569fb2be0f1bf90d753956", func := "loop.example/pub-g03328/laws.FnExactFieldMult32", spec := "fnExactFieldMult32", inPlace := ["math/bits.Add64", "math/bits.Sub64"], apart := false }
def FnExactFieldMult32Said : Prop := fnExactFieldMult32Row.holds Try.pinned (OpenSpec.ofChange fnExactFieldMult32Spec)

/-- ITS FALSE NEIGHBOUR: 'it returns false'. Refute it at one input. -/
def fnExactFieldMult32Wrong : ChangeSpec := { name := "fnExactFieldMult32", fn := fun _ => fun
  | [d1, d2] => { results := [.lit (.bool false)], args := [d1, d2] }
  | _ => none }
def FnExactFieldMult32WrongFalsely : Prop := fnExactFieldMult32Row.holds Try.pinned (OpenSpec.ofChange fnExactFieldMult32Wrong)

/-- 'laws.FnFieldMultiplyGroups': WHATEVER THE INPUT: true; the input reads as it did. -/
def fnFieldMultiplyGroupsSpec : ChangeSpec := { name := "fnFieldMultiplyGroups", fn := fun _ => fun
  | [d1, d2, d3] => { results := [.lit (.bool true)], args := [d1, d2, d3] }
  | _ => none }
def fnFieldMultiplyGroupsRow : OpenClaim := { program := "ytfkodiefldljgaa", sum := "ab510c24243c055788796e66d8f960a146bcf17233569fb2be0f1bf90d753956", func := "loop.example/pub-g03328/laws.FnFieldMultiplyGroups", spec := "fnFieldMultiplyGroups", inPlace := ["math/bits.Add64"], apart := false }
def FnFieldMultiplyGroupsSaid : Prop := fnFieldMultiplyGroupsRow.holds Try.pinned (OpenSpec.ofChange fnFieldMultiplyGroupsSpec)

/-- ITS FALSE NEIGHBOUR: 'it returns false'. Refute it at one input. -/
def fnFieldMultiplyGroupsWrong : ChangeSpec := { name := "fnFieldMultiplyGroups", fn := fun _ => fun
  | [d1, d2, d3] => { results := [.lit (.bool false)], args := [d1, d2, d3] }
  | _ => none }
def FnFieldMultiplyGroupsWrongFalsely : Prop := fnFieldMultiplyGroupsRow.holds Try.pinned (OpenSpec.ofChange fnFieldMultiplyGroupsWrong)

/- THE SECOND FORM. 'bulk': how many values and letters a reading holds, each counted each time it is reached (what is shared counts as often as it is met; a slice's spare places count too). A statement '..UptoSaid' is the law's where the arguments, and the package variables that the reading takes, are together of bulk at most 1048576: NARROWER than '..Said'. Prove '..Said' where nothing that the law and all that it calls make is longer than what came in: it says more and counts as full. Else prove '..UptoSaid'. A law counts once. -/
mutual
def uptoBulk {H : Type} : DataW H → Nat
  | .lit (.string bytes) => bytes.length + 1
  | .lit _ => 1
  | .nil => 1
  | .ptr d => uptoBulk d + 1
  | .slice elems spare => uptoBulkAll elems + uptoBulkAll spare + 1
  | .agg parts => uptoBulkAll parts + 1
  | .iface _ d => uptoBulk d + 1
  | .map entries => uptoBulkEntries entries + 1
  | .held _ => 1
def uptoBulkAll {H : Type} : List (DataW H) → Nat
  | [] => 0
  | d :: r => uptoBulk d + uptoBulkAll r
def uptoBulkEntries {H : Type} : List (Lit × DataW H) → Nat
  | [] => 0
  | x :: r => uptoBulkEntry x + uptoBulkEntries r
def uptoBulkEntry {H : Type} : Lit × DataW H → Nat
  | (.string bytes, d) => bytes.length + uptoBulk d + 1
  | (_, d) => uptoBulk d + 1
 end
def uptoSmall : (H : Type) → List (DataW H) → Bool := fun _ ds => decide (uptoBulkAll ds ≤ 1048576)
def OpenSpec.upto (s : _root_.Go.ChangeSpec) : _root_.Go.OpenSpec := { _root_.Go.OpenSpec.ofChange s with cond := some uptoSmall }

/-- 'laws.FnFieldAddGroups', WHERE WHAT IT READS IS OF BULK AT MOST 1048576: true; the input reads as it did. -/
def fnFieldAddGroupsUptoRow : OpenClaim := { program := "ytfkodiefldljgaa", sum := "ab510c24243c055788796e66d8f960a146bcf17233569fb2be0f1bf90d753956", func := "loop.example/pub-g03328/laws.FnFieldAddGroups", spec := "fnFieldAddGroups", apart := false, narrowed := true }
def FnFieldAddGroupsUptoSaid : Prop := fnFieldAddGroupsUptoRow.holds Try.pinned (OpenSpec.upto fnFieldAddGroupsSpec)

/-- 'laws.FnExactFieldIsNegative', WHERE WHAT IT READS IS OF BULK AT MOST 1048576: true; the input reads as it did. -/
def fnExactFieldIsNegativeUptoRow : OpenClaim := { program := "ytfkodiefldljgaa", sum := "ab510c24243c055788796e66d8f960a146bcf17233569fb2be0f1bf90d753956", func := "loop.example/pub-g03328/laws.FnExactFieldIsNegative", spec := "fnExactFieldIsNegative", inPlace := ["math/bits.Add64", "math/bits.Sub64"], apart := false, narrowed := true }
def FnExactFieldIsNegativeUptoSaid : Prop := fnExactFieldIsNegativeUptoRow.holds Try.pinned (OpenSpec.upto fnExactFieldIsNegativeSpec)

/-- 'laws.FnFieldEqualBytes', WHERE WHAT IT READS IS OF BULK AT MOST 1048576: true; the input reads as it did. -/
def fnFieldEqualBytesUptoRow : OpenClaim := { program := "ytfkodiefldljgaa", sum := "ab510c24243c055788796e66d8f960a146bcf17233569fb2be0f1bf90d753956", func := "loop.example/pub-g03328/laws.FnFieldEqualBytes", spec := "fnFieldEqualBytes", apart := false, narrowed := true }
def FnFieldEqualBytesUptoSaid : Prop := fnFieldEqualBytesUptoRow.holds Try.pinned (OpenSpec.upto fnFieldEqualBytesSpec)

/-- 'laws.FnFieldHighBit', WHERE WHAT IT READS IS OF BULK AT MOST 1048576: true; the input reads as it did. -/
def fnFieldHighBitUptoRow : OpenClaim := { program := "ytfkodiefldljgaa", sum := "ab510c24243c055788796e66d8f960a146bcf17233569fb2be0f1bf90d753956", func := "loop.example/pub-g03328/laws.FnFieldHighBit", spec := "fnFieldHighBit", apart := false, narrowed := true }
def FnFieldHighBitUptoSaid : Prop := fnFieldHighBitUptoRow.holds Try.pinned (OpenSpec.upto fnFieldHighBitSpec)

/-- 'laws.FnExactFieldSubtract', WHERE WHAT IT READS IS OF BULK AT MOST 1048576: true; the input reads as it did. -/
def fnExactFieldSubtractUptoRow : OpenClaim := { program := "ytfkodiefldljgaa", sum := "ab510c24243c055788796e66d8f960a146bcf17233569fb2be0f1bf90d753956", func := "loop.example/pub-g03328/laws.FnExactFieldSubtract", spec := "fnExactFieldSubtract", inPlace := ["math/bits.Add64", "math/bits.Sub64"], apart := false, narrowed := true }
def FnExactFieldSubtractUptoSaid : Prop := fnExactFieldSubtractUptoRow.holds Try.pinned (OpenSpec.upto fnExactFieldSubtractSpec)

/-- 'laws.FnExactFieldSwap', WHERE WHAT IT READS IS OF BULK AT MOST 1048576: true; the input reads as it did. -/
def fnExactFieldSwapUptoRow : OpenClaim := { program := "ytfkodiefldljgaa", sum := "ab510c24243c055788796e66d8f960a146bcf17233569fb2be0f1bf90d753956", func := "loop.example/pub-g03328/laws.FnExactFieldSwap", spec := "fnExactFieldSwap", inPlace := ["math/bits.Add64", "math/bits.Sub64"], apart := false, narrowed := true }
def FnExactFieldSwapUptoSaid : Prop := fnExactFieldSwapUptoRow.holds Try.pinned (OpenSpec.upto fnExactFieldSwapSpec)

/-- 'laws.FnExactFieldMult32', WHERE WHAT IT READS IS OF BULK AT MOST 1048576: true; the input reads as it did. -/
def fnExactFieldMult32UptoRow : OpenClaim := { program := "ytfkodiefldljgaa", sum := "ab510c24243c055788796e66d8f960a146bcf17233569fb2be0f1bf90d753956", func := "loop.example/pub-g03328/laws.FnExactFieldMult32", spec := "fnExactFieldMult32", inPlace := ["math/bits.Add64", "math/bits.Sub64"], apart := false, narrowed := true }
def FnExactFieldMult32UptoSaid : Prop := fnExactFieldMult32UptoRow.holds Try.pinned (OpenSpec.upto fnExactFieldMult32Spec)

/-- 'laws.FnFieldMultiplyGroups', WHERE WHAT IT READS IS OF BULK AT MOST 1048576: true; the input reads as it did. -/
def fnFieldMultiplyGroupsUptoRow : OpenClaim := { program := "ytfkodiefldljgaa", sum := "ab510c24243c055788796e66d8f960a146bcf17233569fb2be0f1bf90d753956", func := "loop.example/pub-g03328/laws.FnFieldMultiplyGroups", spec := "fnFieldMultiplyGroups", inPlace := ["math/bits.Add64"], apart := false, narrowed := true }
def FnFieldMultiplyGroupsUptoSaid : Prop := fnFieldMultiplyGroupsUptoRow.holds Try.pinned (OpenSpec.upto fnFieldMultiplyGroupsSpec)

end Rows
end Go.Proofs.Ytfkodiefldljgaa
