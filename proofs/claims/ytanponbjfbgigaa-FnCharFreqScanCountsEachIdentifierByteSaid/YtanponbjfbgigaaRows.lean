/-
  No cell of these rows narrows 'for every input' (looked for: loops, veiled, ifaces, maps, wideKeys, modest, calm, conditions, laid).
  DERIVED. THE GIVEN ROWS OF THIS SEAT. 4 by the template 'for every input the law returns true; each argument reads behind the call as it read before'; 0 by the template 'total and deterministic' (their statements: YtanponbjfbgigaaTotals.lean).
  GIVEN WITH THE SEED: the statements are not yours to turn. If you find one false, say at which input.
  Laid BY PROGRAM, IN A SANDBOX (cutbox-rows.mjs): the forced cells as the released guide's own fill.sh prints them over the translation 4b8a50a38350a445… (all of the seat's roots in one cut). By AI agents, Wed Nov 11 2026. No macro, syntax, notation, axiom, sorry.
-/
import Derived.Test.YtanponbjfbgigaaChecked
import GoSem.Claim
import GoSem.ClaimJoined
import GoSem.ClaimMapViews
import Derived.JoinedTies
import Derived.KernelRfl
namespace Go.Proofs.Ytanponbjfbgigaa
/- THE CELL 'sum', in the pinned program and in every row, IS THE sha256 OF THE DUMP (.gsa) THAT YtanponbjfbgigaaProg.lean LOADS. Nothing in Lean hashes anything: it is a label: what it is worth is what the hold of that sum in a sandbox is worth. -/
noncomputable def Try.pinned : Pinned := { name := "ytanponbjfbgigaa", sum := "4b8a50a38350a445729305e4627dc25bb63c51277fa42d2fec3f577ab9755d80", checked := Try.checked }
namespace Rows
def none {H : Type} : Left H := { results := [], args := [] }

/-- 'n011_75.FnNewSymbolMapShape': WHATEVER THE INPUT: true; the input reads as it did. -/
def fnNewSymbolMapShapeSpec : ChangeSpec := { name := "fnNewSymbolMapShape", fn := fun _ => fun
  | [d] => { results := [.lit (.bool true)], args := [d] }
  | _ => none }
def fnNewSymbolMapShapeRow : OpenClaim := { program := "ytanponbjfbgigaa", sum := "4b8a50a38350a445729305e4627dc25bb63c51277fa42d2fec3f577ab9755d80", func := "github.com/evanw/esbuild/n011_75.FnNewSymbolMapShape", spec := "fnNewSymbolMapShape", apart := false }
def FnNewSymbolMapShapeSaid : Prop := fnNewSymbolMapShapeRow.holds Try.pinned (OpenSpec.ofChange fnNewSymbolMapShapeSpec)

/-- ITS FALSE NEIGHBOUR: 'it returns false'. Refute it at one input. -/
def fnNewSymbolMapShapeWrong : ChangeSpec := { name := "fnNewSymbolMapShape", fn := fun _ => fun
  | [d] => { results := [.lit (.bool false)], args := [d] }
  | _ => none }
def FnNewSymbolMapShapeWrongFalsely : Prop := fnNewSymbolMapShapeRow.holds Try.pinned (OpenSpec.ofChange fnNewSymbolMapShapeWrong)

/-- 'n011_63.FnIncludeIsWrappingElementwiseSum': WHATEVER THE INPUT: true; the input reads as it did. -/
def fnIncludeIsWrappingElementwiseSumSpec : ChangeSpec := { name := "fnIncludeIsWrappingElementwiseSum", fn := fun _ => fun
  | [d1, d2] => { results := [.lit (.bool true)], args := [d1, d2] }
  | _ => none }
def fnIncludeIsWrappingElementwiseSumRow : OpenClaim := { program := "ytanponbjfbgigaa", sum := "4b8a50a38350a445729305e4627dc25bb63c51277fa42d2fec3f577ab9755d80", func := "github.com/evanw/esbuild/n011_63.FnIncludeIsWrappingElementwiseSum", spec := "fnIncludeIsWrappingElementwiseSum", apart := false }
def FnIncludeIsWrappingElementwiseSumSaid : Prop := fnIncludeIsWrappingElementwiseSumRow.holds Try.pinned (OpenSpec.ofChange fnIncludeIsWrappingElementwiseSumSpec)

/-- ITS FALSE NEIGHBOUR: 'it returns false'. Refute it at one input. -/
def fnIncludeIsWrappingElementwiseSumWrong : ChangeSpec := { name := "fnIncludeIsWrappingElementwiseSum", fn := fun _ => fun
  | [d1, d2] => { results := [.lit (.bool false)], args := [d1, d2] }
  | _ => none }
def FnIncludeIsWrappingElementwiseSumWrongFalsely : Prop := fnIncludeIsWrappingElementwiseSumRow.holds Try.pinned (OpenSpec.ofChange fnIncludeIsWrappingElementwiseSumWrong)

/-- 'n011_8.FnCharFreqScanCountsEachIdentifierByte': WHATEVER THE INPUT: true; the input reads as it did. -/
def fnCharFreqScanCountsEachIdentifierByteSpec : ChangeSpec := { name := "fnCharFreqScanCountsEachIdentifierByte", fn := fun _ => fun
  | [d1, d2, d3] => { results := [.lit (.bool true)], args := [d1, d2, d3] }
  | _ => none }
def fnCharFreqScanCountsEachIdentifierByteRow : OpenClaim := { program := "ytanponbjfbgigaa", sum := "4b8a50a38350a445729305e4627dc25bb63c51277fa42d2fec3f577ab9755d80", func := "github.com/evanw/esbuild/n011_8.FnCharFreqScanCountsEachIdentifierByte", spec := "fnCharFreqScanCountsEachIdentifierByte", apart := false }
def FnCharFreqScanCountsEachIdentifierByteSaid : Prop := fnCharFreqScanCountsEachIdentifierByteRow.holds Try.pinned (OpenSpec.ofChange fnCharFreqScanCountsEachIdentifierByteSpec)

/-- ITS FALSE NEIGHBOUR: 'it returns false'. Refute it at one input. -/
def fnCharFreqScanCountsEachIdentifierByteWrong : ChangeSpec := { name := "fnCharFreqScanCountsEachIdentifierByte", fn := fun _ => fun
  | [d1, d2, d3] => { results := [.lit (.bool false)], args := [d1, d2, d3] }
  | _ => none }
def FnCharFreqScanCountsEachIdentifierByteWrongFalsely : Prop := fnCharFreqScanCountsEachIdentifierByteRow.holds Try.pinned (OpenSpec.ofChange fnCharFreqScanCountsEachIdentifierByteWrong)

/-- 'n011_8.FnMergeContentsOrderFreeInCountAndFlags': WHATEVER THE INPUT: true; the input reads as it did. -/
def fnMergeContentsOrderFreeInCountAndFlagsSpec : ChangeSpec := { name := "fnMergeContentsOrderFreeInCountAndFlags", fn := fun _ => fun
  | [d1, d2, d3, d4, d5, d6, d7, d8, d9] => { results := [.lit (.bool true)], args := [d1, d2, d3, d4, d5, d6, d7, d8, d9] }
  | _ => none }
def fnMergeContentsOrderFreeInCountAndFlagsRow : OpenClaim := { program := "ytanponbjfbgigaa", sum := "4b8a50a38350a445729305e4627dc25bb63c51277fa42d2fec3f577ab9755d80", func := "github.com/evanw/esbuild/n011_8.FnMergeContentsOrderFreeInCountAndFlags", spec := "fnMergeContentsOrderFreeInCountAndFlags", apart := false }
def FnMergeContentsOrderFreeInCountAndFlagsSaid : Prop := fnMergeContentsOrderFreeInCountAndFlagsRow.holds Try.pinned (OpenSpec.ofChange fnMergeContentsOrderFreeInCountAndFlagsSpec)

/-- ITS FALSE NEIGHBOUR: 'it returns false'. Refute it at one input. -/
def fnMergeContentsOrderFreeInCountAndFlagsWrong : ChangeSpec := { name := "fnMergeContentsOrderFreeInCountAndFlags", fn := fun _ => fun
  | [d1, d2, d3, d4, d5, d6, d7, d8, d9] => { results := [.lit (.bool false)], args := [d1, d2, d3, d4, d5, d6, d7, d8, d9] }
  | _ => none }
def FnMergeContentsOrderFreeInCountAndFlagsWrongFalsely : Prop := fnMergeContentsOrderFreeInCountAndFlagsRow.holds Try.pinned (OpenSpec.ofChange fnMergeContentsOrderFreeInCountAndFlagsWrong)

/- THE SECOND FORM. 'bulk': how many values and letters a reading holds, each counted each time it is reached (what is shared counts as often as it is met; a slice's spare places count too). A statement '..UptoSaid' is the law's where the arguments, and the package variables that the reading takes, are together of bulk at most 1048576: NARROWER than '..Said'. Prove '..Said' where nothing that the law and all that it calls make is longer than what came in: it says more and counts as full. Else prove '..UptoSaid'. A law counts once. -/
mutual
def uptoBulk {H : Type} : DataW H → Nat
  | .lit (.string bytes) => bytes.length + 1
  | .lit _ => 1
  | .nil => 1
  | .ptr d => uptoBulk d + 1
  | .slice elems spare => uptoBulkAll elems + uptoBulkAll spare + 1
  | .agg parts => uptoBulkAll parts + 1
  | .iface _ d => uptoBulk d + 1
  | .map entries => uptoBulkEntries entries + 1
  | .held _ => 1
def uptoBulkAll {H : Type} : List (DataW H) → Nat
  | [] => 0
  | d :: r => uptoBulk d + uptoBulkAll r
def uptoBulkEntries {H : Type} : List (Lit × DataW H) → Nat
  | [] => 0
  | x :: r => uptoBulkEntry x + uptoBulkEntries r
def uptoBulkEntry {H : Type} : Lit × DataW H → Nat
  | (.string bytes, d) => bytes.length + uptoBulk d + 1
  | (_, d) => uptoBulk d + 1
 end
def uptoSmall : (H : Type) → List (DataW H) → Bool := fun _ ds => decide (uptoBulkAll ds ≤ 1048576)
def OpenSpec.upto (s : _root_.Go.ChangeSpec) : _root_.Go.OpenSpec := { _root_.Go.OpenSpec.ofChange s with cond := some uptoSmall }

/-- 'n011_75.FnNewSymbolMapShape', WHERE WHAT IT READS IS OF BULK AT MOST 1048576: true; the input reads as it did. -/
def fnNewSymbolMapShapeUptoRow : OpenClaim := { program := "ytanponbjfbgigaa", sum := "4b8a50a38350a445729305e4627dc25bb63c51277fa42d2fec3f577ab9755d80", func := "github.com/evanw/esbuild/n011_75.FnNewSymbolMapShape", spec := "fnNewSymbolMapShape", apart := false, narrowed := true }
def FnNewSymbolMapShapeUptoSaid : Prop := fnNewSymbolMapShapeUptoRow.holds Try.pinned (OpenSpec.upto fnNewSymbolMapShapeSpec)

/-- 'n011_63.FnIncludeIsWrappingElementwiseSum', WHERE WHAT IT READS IS OF BULK AT MOST 1048576: true; the input reads as it did. -/
def fnIncludeIsWrappingElementwiseSumUptoRow : OpenClaim := { program := "ytanponbjfbgigaa", sum := "4b8a50a38350a445729305e4627dc25bb63c51277fa42d2fec3f577ab9755d80", func := "github.com/evanw/esbuild/n011_63.FnIncludeIsWrappingElementwiseSum", spec := "fnIncludeIsWrappingElementwiseSum", apart := false, narrowed := true }
def FnIncludeIsWrappingElementwiseSumUptoSaid : Prop := fnIncludeIsWrappingElementwiseSumUptoRow.holds Try.pinned (OpenSpec.upto fnIncludeIsWrappingElementwiseSumSpec)

/-- 'n011_8.FnCharFreqScanCountsEachIdentifierByte', WHERE WHAT IT READS IS OF BULK AT MOST 1048576: true; the input reads as it did. -/
def fnCharFreqScanCountsEachIdentifierByteUptoRow : OpenClaim := { program := "ytanponbjfbgigaa", sum := "4b8a50a38350a445729305e4627dc25bb63c51277fa42d2fec3f577ab9755d80", func := "github.com/evanw/esbuild/n011_8.FnCharFreqScanCountsEachIdentifierByte", spec := "fnCharFreqScanCountsEachIdentifierByte", apart := false, narrowed := true }
def FnCharFreqScanCountsEachIdentifierByteUptoSaid : Prop := fnCharFreqScanCountsEachIdentifierByteUptoRow.holds Try.pinned (OpenSpec.upto fnCharFreqScanCountsEachIdentifierByteSpec)

/-- 'n011_8.FnMergeContentsOrderFreeInCountAndFlags', WHERE WHAT IT READS IS OF BULK AT MOST 1048576: true; the input reads as it did. -/
def fnMergeContentsOrderFreeInCountAndFlagsUptoRow : OpenClaim := { program := "ytanponbjfbgigaa", sum := "4b8a50a38350a445729305e4627dc25bb63c51277fa42d2fec3f577ab9755d80", func := "github.com/evanw/esbuild/n011_8.FnMergeContentsOrderFreeInCountAndFlags", spec := "fnMergeContentsOrderFreeInCountAndFlags", apart := false, narrowed := true }
def FnMergeContentsOrderFreeInCountAndFlagsUptoSaid : Prop := fnMergeContentsOrderFreeInCountAndFlagsUptoRow.holds Try.pinned (OpenSpec.upto fnMergeContentsOrderFreeInCountAndFlagsSpec)

end Rows
end Go.Proofs.Ytanponbjfbgigaa
