/-
  No cell of these rows narrows 'for every input' (looked for: loops, veiled, ifaces, maps, wideKeys, modest, calm, conditions, laid).
  DERIVED. THE GIVEN ROWS OF THIS SEAT. 10 by the template 'for every input the law returns true; each argument reads behind the call as it read before'; 0 by the template 'total and deterministic' (their statements: YtimclpagggfmbaaTotals.lean).
  GIVEN WITH THE SEED: the statements are not yours to turn. If you find one false, say at which input.
  Laid BY PROGRAM, IN A SANDBOX (cutbox-rows.mjs): the forced cells as the released guide's own fill.sh prints them over the translation b53b5b34324cc30a… (all of the seat's roots in one cut). By AI agents, Wed Nov 11 2026. No macro, syntax, notation, axiom, sorry.
-/
import Derived.Test.YtimclpagggfmbaaChecked
import GoSem.Claim
import GoSem.ClaimJoined
import GoSem.ClaimMapViews
import Derived.JoinedTies
import Derived.KernelRfl
namespace Go.Proofs.Ytimclpagggfmbaa
/- THE CELL 'sum', in the pinned program and in every row, IS THE sha256 OF THE DUMP (.gsa) THAT YtimclpagggfmbaaProg.lean LOADS. Nothing in Lean hashes anything: it is a label: what it is worth is what the hold of that sum in a sandbox is worth. -/
noncomputable def Try.pinned : Pinned := { name := "ytimclpagggfmbaa", sum := "b53b5b34324cc30a2c574d65b6b1d13aa60d648fc76dffa3497467e00c83ae61", checked := Try.checked }
namespace Rows
def none {H : Type} : Left H := { results := [], args := [] }

/-- 'n011_288.FnIndex32ValidExactlyExceptMax': WHATEVER THE INPUT: true; the input reads as it did. -/
def fnIndex32ValidExactlyExceptMaxSpec : ChangeSpec := { name := "fnIndex32ValidExactlyExceptMax", fn := fun _ => fun
  | [d] => { results := [.lit (.bool true)], args := [d] }
  | _ => none }
def fnIndex32ValidExactlyExceptMaxRow : OpenClaim := { program := "ytimclpagggfmbaa", sum := "b53b5b34324cc30a2c574d65b6b1d13aa60d648fc76dffa3497467e00c83ae61", func := "github.com/evanw/esbuild/n011_288.FnIndex32ValidExactlyExceptMax", spec := "fnIndex32ValidExactlyExceptMax", apart := false }
def FnIndex32ValidExactlyExceptMaxSaid : Prop := fnIndex32ValidExactlyExceptMaxRow.holds Try.pinned (OpenSpec.ofChange fnIndex32ValidExactlyExceptMaxSpec)

/-- ITS FALSE NEIGHBOUR: 'it returns false'. Refute it at one input. -/
def fnIndex32ValidExactlyExceptMaxWrong : ChangeSpec := { name := "fnIndex32ValidExactlyExceptMax", fn := fun _ => fun
  | [d] => { results := [.lit (.bool false)], args := [d] }
  | _ => none }
def FnIndex32ValidExactlyExceptMaxWrongFalsely : Prop := fnIndex32ValidExactlyExceptMaxRow.holds Try.pinned (OpenSpec.ofChange fnIndex32ValidExactlyExceptMaxWrong)

/-- 'n011_174.FnExternalPackagesDefaultIsBundle': WHATEVER THE INPUT: true; the input reads as it did. -/
def fnExternalPackagesDefaultIsBundleSpec : ChangeSpec := { name := "fnExternalPackagesDefaultIsBundle", fn := fun _ => fun
  | [] => { results := [.lit (.bool true)], args := [] }
  | _ => none }
def fnExternalPackagesDefaultIsBundleRow : OpenClaim := { program := "ytimclpagggfmbaa", sum := "b53b5b34324cc30a2c574d65b6b1d13aa60d648fc76dffa3497467e00c83ae61", func := "github.com/evanw/esbuild/n011_174.FnExternalPackagesDefaultIsBundle", spec := "fnExternalPackagesDefaultIsBundle", apart := false }
def FnExternalPackagesDefaultIsBundleSaid : Prop := fnExternalPackagesDefaultIsBundleRow.holds Try.pinned (OpenSpec.ofChange fnExternalPackagesDefaultIsBundleSpec)

/-- ITS FALSE NEIGHBOUR: 'it returns false'. Refute it at one input. -/
def fnExternalPackagesDefaultIsBundleWrong : ChangeSpec := { name := "fnExternalPackagesDefaultIsBundle", fn := fun _ => fun
  | [] => { results := [.lit (.bool false)], args := [] }
  | _ => none }
def FnExternalPackagesDefaultIsBundleWrongFalsely : Prop := fnExternalPackagesDefaultIsBundleRow.holds Try.pinned (OpenSpec.ofChange fnExternalPackagesDefaultIsBundleWrong)

/-- 'n011_45.FnSourceMapInjective': WHATEVER THE INPUT: true; the input reads as it did. -/
def fnSourceMapInjectiveSpec : ChangeSpec := { name := "fnSourceMapInjective", fn := fun _ => fun
  | [d1, d2] => { results := [.lit (.bool true)], args := [d1, d2] }
  | _ => none }
def fnSourceMapInjectiveRow : OpenClaim := { program := "ytimclpagggfmbaa", sum := "b53b5b34324cc30a2c574d65b6b1d13aa60d648fc76dffa3497467e00c83ae61", func := "github.com/evanw/esbuild/n011_45.FnSourceMapInjective", spec := "fnSourceMapInjective", apart := false }
def FnSourceMapInjectiveSaid : Prop := fnSourceMapInjectiveRow.holds Try.pinned (OpenSpec.ofChange fnSourceMapInjectiveSpec)

/-- ITS FALSE NEIGHBOUR: 'it returns false'. Refute it at one input. -/
def fnSourceMapInjectiveWrong : ChangeSpec := { name := "fnSourceMapInjective", fn := fun _ => fun
  | [d1, d2] => { results := [.lit (.bool false)], args := [d1, d2] }
  | _ => none }
def FnSourceMapInjectiveWrongFalsely : Prop := fnSourceMapInjectiveRow.holds Try.pinned (OpenSpec.ofChange fnSourceMapInjectiveWrong)

/-- 'n011_32.FnHoistedOrFunctionIsUnion': WHATEVER THE INPUT: true; the input reads as it did. -/
def fnHoistedOrFunctionIsUnionSpec : ChangeSpec := { name := "fnHoistedOrFunctionIsUnion", fn := fun _ => fun
  | [d] => { results := [.lit (.bool true)], args := [d] }
  | _ => none }
def fnHoistedOrFunctionIsUnionRow : OpenClaim := { program := "ytimclpagggfmbaa", sum := "b53b5b34324cc30a2c574d65b6b1d13aa60d648fc76dffa3497467e00c83ae61", func := "github.com/evanw/esbuild/n011_32.FnHoistedOrFunctionIsUnion", spec := "fnHoistedOrFunctionIsUnion", apart := false }
def FnHoistedOrFunctionIsUnionSaid : Prop := fnHoistedOrFunctionIsUnionRow.holds Try.pinned (OpenSpec.ofChange fnHoistedOrFunctionIsUnionSpec)

/-- ITS FALSE NEIGHBOUR: 'it returns false'. Refute it at one input. -/
def fnHoistedOrFunctionIsUnionWrong : ChangeSpec := { name := "fnHoistedOrFunctionIsUnion", fn := fun _ => fun
  | [d] => { results := [.lit (.bool false)], args := [d] }
  | _ => none }
def FnHoistedOrFunctionIsUnionWrongFalsely : Prop := fnHoistedOrFunctionIsUnionRow.holds Try.pinned (OpenSpec.ofChange fnHoistedOrFunctionIsUnionWrong)

/-- 'n011_8.FnImportKindMetafileNamesDistinct': WHATEVER THE INPUT: true; the input reads as it did. -/
def fnImportKindMetafileNamesDistinctSpec : ChangeSpec := { name := "fnImportKindMetafileNamesDistinct", fn := fun _ => fun
  | [d1, d2] => { results := [.lit (.bool true)], args := [d1, d2] }
  | _ => none }
def fnImportKindMetafileNamesDistinctRow : OpenClaim := { program := "ytimclpagggfmbaa", sum := "b53b5b34324cc30a2c574d65b6b1d13aa60d648fc76dffa3497467e00c83ae61", func := "github.com/evanw/esbuild/n011_8.FnImportKindMetafileNamesDistinct", spec := "fnImportKindMetafileNamesDistinct", apart := false }
def FnImportKindMetafileNamesDistinctSaid : Prop := fnImportKindMetafileNamesDistinctRow.holds Try.pinned (OpenSpec.ofChange fnImportKindMetafileNamesDistinctSpec)

/-- ITS FALSE NEIGHBOUR: 'it returns false'. Refute it at one input. -/
def fnImportKindMetafileNamesDistinctWrong : ChangeSpec := { name := "fnImportKindMetafileNamesDistinct", fn := fun _ => fun
  | [d1, d2] => { results := [.lit (.bool false)], args := [d1, d2] }
  | _ => none }
def FnImportKindMetafileNamesDistinctWrongFalsely : Prop := fnImportKindMetafileNamesDistinctRow.holds Try.pinned (OpenSpec.ofChange fnImportKindMetafileNamesDistinctWrong)

/-- 'n011_75.FnSymbolFlagsHasBitwiseModel': WHATEVER THE INPUT: true; the input reads as it did. -/
def fnSymbolFlagsHasBitwiseModelSpec : ChangeSpec := { name := "fnSymbolFlagsHasBitwiseModel", fn := fun _ => fun
  | [d1, d2] => { results := [.lit (.bool true)], args := [d1, d2] }
  | _ => none }
def fnSymbolFlagsHasBitwiseModelRow : OpenClaim := { program := "ytimclpagggfmbaa", sum := "b53b5b34324cc30a2c574d65b6b1d13aa60d648fc76dffa3497467e00c83ae61", func := "github.com/evanw/esbuild/n011_75.FnSymbolFlagsHasBitwiseModel", spec := "fnSymbolFlagsHasBitwiseModel", apart := false }
def FnSymbolFlagsHasBitwiseModelSaid : Prop := fnSymbolFlagsHasBitwiseModelRow.holds Try.pinned (OpenSpec.ofChange fnSymbolFlagsHasBitwiseModelSpec)

/-- ITS FALSE NEIGHBOUR: 'it returns false'. Refute it at one input. -/
def fnSymbolFlagsHasBitwiseModelWrong : ChangeSpec := { name := "fnSymbolFlagsHasBitwiseModel", fn := fun _ => fun
  | [d1, d2] => { results := [.lit (.bool false)], args := [d1, d2] }
  | _ => none }
def FnSymbolFlagsHasBitwiseModelWrongFalsely : Prop := fnSymbolFlagsHasBitwiseModelRow.holds Try.pinned (OpenSpec.ofChange fnSymbolFlagsHasBitwiseModelWrong)

/-- 'n011_7.FnImportKindRoundTrip': WHATEVER THE INPUT: true; the input reads as it did. -/
def fnImportKindRoundTripSpec : ChangeSpec := { name := "fnImportKindRoundTrip", fn := fun _ => fun
  | [d] => { results := [.lit (.bool true)], args := [d] }
  | _ => none }
def fnImportKindRoundTripRow : OpenClaim := { program := "ytimclpagggfmbaa", sum := "b53b5b34324cc30a2c574d65b6b1d13aa60d648fc76dffa3497467e00c83ae61", func := "github.com/evanw/esbuild/n011_7.FnImportKindRoundTrip", spec := "fnImportKindRoundTrip", apart := false }
def FnImportKindRoundTripSaid : Prop := fnImportKindRoundTripRow.holds Try.pinned (OpenSpec.ofChange fnImportKindRoundTripSpec)

/-- ITS FALSE NEIGHBOUR: 'it returns false'. Refute it at one input. -/
def fnImportKindRoundTripWrong : ChangeSpec := { name := "fnImportKindRoundTrip", fn := fun _ => fun
  | [d] => { results := [.lit (.bool false)], args := [d] }
  | _ => none }
def FnImportKindRoundTripWrongFalsely : Prop := fnImportKindRoundTripRow.holds Try.pinned (OpenSpec.ofChange fnImportKindRoundTripWrong)

/-- 'n011_95.FnLogLevelKeepsSeverityOrder': WHATEVER THE INPUT: true; the input reads as it did. -/
def fnLogLevelKeepsSeverityOrderSpec : ChangeSpec := { name := "fnLogLevelKeepsSeverityOrder", fn := fun _ => fun
  | [d1, d2] => { results := [.lit (.bool true)], args := [d1, d2] }
  | _ => none }
def fnLogLevelKeepsSeverityOrderRow : OpenClaim := { program := "ytimclpagggfmbaa", sum := "b53b5b34324cc30a2c574d65b6b1d13aa60d648fc76dffa3497467e00c83ae61", func := "github.com/evanw/esbuild/n011_95.FnLogLevelKeepsSeverityOrder", spec := "fnLogLevelKeepsSeverityOrder", apart := false }
def FnLogLevelKeepsSeverityOrderSaid : Prop := fnLogLevelKeepsSeverityOrderRow.holds Try.pinned (OpenSpec.ofChange fnLogLevelKeepsSeverityOrderSpec)

/-- ITS FALSE NEIGHBOUR: 'it returns false'. Refute it at one input. -/
def fnLogLevelKeepsSeverityOrderWrong : ChangeSpec := { name := "fnLogLevelKeepsSeverityOrder", fn := fun _ => fun
  | [d1, d2] => { results := [.lit (.bool false)], args := [d1, d2] }
  | _ => none }
def FnLogLevelKeepsSeverityOrderWrongFalsely : Prop := fnLogLevelKeepsSeverityOrderRow.holds Try.pinned (OpenSpec.ofChange fnLogLevelKeepsSeverityOrderWrong)

/-- 'n011_63.FnLessIsDescendingCountThenAscendingIndex': WHATEVER THE INPUT: true; the input reads as it did. -/
def fnLessIsDescendingCountThenAscendingIndexSpec : ChangeSpec := { name := "fnLessIsDescendingCountThenAscendingIndex", fn := fun _ => fun
  | [d1, d2, d3, d4] => { results := [.lit (.bool true)], args := [d1, d2, d3, d4] }
  | _ => none }
def fnLessIsDescendingCountThenAscendingIndexRow : OpenClaim := { program := "ytimclpagggfmbaa", sum := "b53b5b34324cc30a2c574d65b6b1d13aa60d648fc76dffa3497467e00c83ae61", func := "github.com/evanw/esbuild/n011_63.FnLessIsDescendingCountThenAscendingIndex", spec := "fnLessIsDescendingCountThenAscendingIndex", apart := false }
def FnLessIsDescendingCountThenAscendingIndexSaid : Prop := fnLessIsDescendingCountThenAscendingIndexRow.holds Try.pinned (OpenSpec.ofChange fnLessIsDescendingCountThenAscendingIndexSpec)

/-- ITS FALSE NEIGHBOUR: 'it returns false'. Refute it at one input. -/
def fnLessIsDescendingCountThenAscendingIndexWrong : ChangeSpec := { name := "fnLessIsDescendingCountThenAscendingIndex", fn := fun _ => fun
  | [d1, d2, d3, d4] => { results := [.lit (.bool false)], args := [d1, d2, d3, d4] }
  | _ => none }
def FnLessIsDescendingCountThenAscendingIndexWrongFalsely : Prop := fnLessIsDescendingCountThenAscendingIndexRow.holds Try.pinned (OpenSpec.ofChange fnLessIsDescendingCountThenAscendingIndexWrong)

/-- 'n011_13.FnFlagsHasSymmetricAndDistributes': WHATEVER THE INPUT: true; the input reads as it did. -/
def fnFlagsHasSymmetricAndDistributesSpec : ChangeSpec := { name := "fnFlagsHasSymmetricAndDistributes", fn := fun _ => fun
  | [d1, d2, d3] => { results := [.lit (.bool true)], args := [d1, d2, d3] }
  | _ => none }
def fnFlagsHasSymmetricAndDistributesRow : OpenClaim := { program := "ytimclpagggfmbaa", sum := "b53b5b34324cc30a2c574d65b6b1d13aa60d648fc76dffa3497467e00c83ae61", func := "github.com/evanw/esbuild/n011_13.FnFlagsHasSymmetricAndDistributes", spec := "fnFlagsHasSymmetricAndDistributes", apart := false }
def FnFlagsHasSymmetricAndDistributesSaid : Prop := fnFlagsHasSymmetricAndDistributesRow.holds Try.pinned (OpenSpec.ofChange fnFlagsHasSymmetricAndDistributesSpec)

/-- ITS FALSE NEIGHBOUR: 'it returns false'. Refute it at one input. -/
def fnFlagsHasSymmetricAndDistributesWrong : ChangeSpec := { name := "fnFlagsHasSymmetricAndDistributes", fn := fun _ => fun
  | [d1, d2, d3] => { results := [.lit (.bool false)], args := [d1, d2, d3] }
  | _ => none }
def FnFlagsHasSymmetricAndDistributesWrongFalsely : Prop := fnFlagsHasSymmetricAndDistributesRow.holds Try.pinned (OpenSpec.ofChange fnFlagsHasSymmetricAndDistributesWrong)

/- THE SECOND FORM. 'bulk': how many values and letters a reading holds, each counted each time it is reached (what is shared counts as often as it is met; a slice's spare places count too). A statement '..UptoSaid' is the law's where the arguments, and the package variables that the reading takes, are together of bulk at most 1048576: NARROWER than '..Said'. Prove '..Said' where nothing that the law and all that it calls make is longer than what came in: it says more and counts as full. Else prove '..UptoSaid'. A law counts once. -/
mutual
def uptoBulk {H : Type} : DataW H → Nat
  | .lit (.string bytes) => bytes.length + 1
  | .lit _ => 1
  | .nil => 1
  | .ptr d => uptoBulk d + 1
  | .slice elems spare => uptoBulkAll elems + uptoBulkAll spare + 1
  | .agg parts => uptoBulkAll parts + 1
  | .iface _ d => uptoBulk d + 1
  | .map entries => uptoBulkEntries entries + 1
  | .held _ => 1
def uptoBulkAll {H : Type} : List (DataW H) → Nat
  | [] => 0
  | d :: r => uptoBulk d + uptoBulkAll r
def uptoBulkEntries {H : Type} : List (Lit × DataW H) → Nat
  | [] => 0
  | x :: r => uptoBulkEntry x + uptoBulkEntries r
def uptoBulkEntry {H : Type} : Lit × DataW H → Nat
  | (.string bytes, d) => bytes.length + uptoBulk d + 1
  | (_, d) => uptoBulk d + 1
 end
def uptoSmall : (H : Type) → List (DataW H) → Bool := fun _ ds => decide (uptoBulkAll ds ≤ 1048576)
def OpenSpec.upto (s : _root_.Go.ChangeSpec) : _root_.Go.OpenSpec := { _root_.Go.OpenSpec.ofChange s with cond := some uptoSmall }

/-- 'n011_288.FnIndex32ValidExactlyExceptMax', WHERE WHAT IT READS IS OF BULK AT MOST 1048576: true; the input reads as it did. -/
def fnIndex32ValidExactlyExceptMaxUptoRow : OpenClaim := { program := "ytimclpagggfmbaa", sum := "b53b5b34324cc30a2c574d65b6b1d13aa60d648fc76dffa3497467e00c83ae61", func := "github.com/evanw/esbuild/n011_288.FnIndex32ValidExactlyExceptMax", spec := "fnIndex32ValidExactlyExceptMax", apart := false, narrowed := true }
def FnIndex32ValidExactlyExceptMaxUptoSaid : Prop := fnIndex32ValidExactlyExceptMaxUptoRow.holds Try.pinned (OpenSpec.upto fnIndex32ValidExactlyExceptMaxSpec)

/-- 'n011_174.FnExternalPackagesDefaultIsBundle', WHERE WHAT IT READS IS OF BULK AT MOST 1048576: true; the input reads as it did. -/
def fnExternalPackagesDefaultIsBundleUptoRow : OpenClaim := { program := "ytimclpagggfmbaa", sum := "b53b5b34324cc30a2c574d65b6b1d13aa60d648fc76dffa3497467e00c83ae61", func := "github.com/evanw/esbuild/n011_174.FnExternalPackagesDefaultIsBundle", spec := "fnExternalPackagesDefaultIsBundle", apart := false, narrowed := true }
def FnExternalPackagesDefaultIsBundleUptoSaid : Prop := fnExternalPackagesDefaultIsBundleUptoRow.holds Try.pinned (OpenSpec.upto fnExternalPackagesDefaultIsBundleSpec)

/-- 'n011_45.FnSourceMapInjective', WHERE WHAT IT READS IS OF BULK AT MOST 1048576: true; the input reads as it did. -/
def fnSourceMapInjectiveUptoRow : OpenClaim := { program := "ytimclpagggfmbaa", sum := "b53b5b34324cc30a2c574d65b6b1d13aa60d648fc76dffa3497467e00c83ae61", func := "github.com/evanw/esbuild/n011_45.FnSourceMapInjective", spec := "fnSourceMapInjective", apart := false, narrowed := true }
def FnSourceMapInjectiveUptoSaid : Prop := fnSourceMapInjectiveUptoRow.holds Try.pinned (OpenSpec.upto fnSourceMapInjectiveSpec)

/-- 'n011_32.FnHoistedOrFunctionIsUnion', WHERE WHAT IT READS IS OF BULK AT MOST 1048576: true; the input reads as it did. -/
def fnHoistedOrFunctionIsUnionUptoRow : OpenClaim := { program := "ytimclpagggfmbaa", sum := "b53b5b34324cc30a2c574d65b6b1d13aa60d648fc76dffa3497467e00c83ae61", func := "github.com/evanw/esbuild/n011_32.FnHoistedOrFunctionIsUnion", spec := "fnHoistedOrFunctionIsUnion", apart := false, narrowed := true }
def FnHoistedOrFunctionIsUnionUptoSaid : Prop := fnHoistedOrFunctionIsUnionUptoRow.holds Try.pinned (OpenSpec.upto fnHoistedOrFunctionIsUnionSpec)

/-- 'n011_8.FnImportKindMetafileNamesDistinct', WHERE WHAT IT READS IS OF BULK AT MOST 1048576: true; the input reads as it did. -/
def fnImportKindMetafileNamesDistinctUptoRow : OpenClaim := { program := "ytimclpagggfmbaa", sum := "b53b5b34324cc30a2c574d65b6b1d13aa60d648fc76dffa3497467e00c83ae61", func := "github.com/evanw/esbuild/n011_8.FnImportKindMetafileNamesDistinct", spec := "fnImportKindMetafileNamesDistinct", apart := false, narrowed := true }
def FnImportKindMetafileNamesDistinctUptoSaid : Prop := fnImportKindMetafileNamesDistinctUptoRow.holds Try.pinned (OpenSpec.upto fnImportKindMetafileNamesDistinctSpec)

/-- 'n011_75.FnSymbolFlagsHasBitwiseModel', WHERE WHAT IT READS IS OF BULK AT MOST 1048576: true; the input reads as it did. -/
def fnSymbolFlagsHasBitwiseModelUptoRow : OpenClaim := { program := "ytimclpagggfmbaa", sum := "b53b5b34324cc30a2c574d65b6b1d13aa60d648fc76dffa3497467e00c83ae61", func := "github.com/evanw/esbuild/n011_75.FnSymbolFlagsHasBitwiseModel", spec := "fnSymbolFlagsHasBitwiseModel", apart := false, narrowed := true }
def FnSymbolFlagsHasBitwiseModelUptoSaid : Prop := fnSymbolFlagsHasBitwiseModelUptoRow.holds Try.pinned (OpenSpec.upto fnSymbolFlagsHasBitwiseModelSpec)

/-- 'n011_7.FnImportKindRoundTrip', WHERE WHAT IT READS IS OF BULK AT MOST 1048576: true; the input reads as it did. -/
def fnImportKindRoundTripUptoRow : OpenClaim := { program := "ytimclpagggfmbaa", sum := "b53b5b34324cc30a2c574d65b6b1d13aa60d648fc76dffa3497467e00c83ae61", func := "github.com/evanw/esbuild/n011_7.FnImportKindRoundTrip", spec := "fnImportKindRoundTrip", apart := false, narrowed := true }
def FnImportKindRoundTripUptoSaid : Prop := fnImportKindRoundTripUptoRow.holds Try.pinned (OpenSpec.upto fnImportKindRoundTripSpec)

/-- 'n011_95.FnLogLevelKeepsSeverityOrder', WHERE WHAT IT READS IS OF BULK AT MOST 1048576: true; the input reads as it did. -/
def fnLogLevelKeepsSeverityOrderUptoRow : OpenClaim := { program := "ytimclpagggfmbaa", sum := "b53b5b34324cc30a2c574d65b6b1d13aa60d648fc76dffa3497467e00c83ae61", func := "github.com/evanw/esbuild/n011_95.FnLogLevelKeepsSeverityOrder", spec := "fnLogLevelKeepsSeverityOrder", apart := false, narrowed := true }
def FnLogLevelKeepsSeverityOrderUptoSaid : Prop := fnLogLevelKeepsSeverityOrderUptoRow.holds Try.pinned (OpenSpec.upto fnLogLevelKeepsSeverityOrderSpec)

/-- 'n011_63.FnLessIsDescendingCountThenAscendingIndex', WHERE WHAT IT READS IS OF BULK AT MOST 1048576: true; the input reads as it did. -/
def fnLessIsDescendingCountThenAscendingIndexUptoRow : OpenClaim := { program := "ytimclpagggfmbaa", sum := "b53b5b34324cc30a2c574d65b6b1d13aa60d648fc76dffa3497467e00c83ae61", func := "github.com/evanw/esbuild/n011_63.FnLessIsDescendingCountThenAscendingIndex", spec := "fnLessIsDescendingCountThenAscendingIndex", apart := false, narrowed := true }
def FnLessIsDescendingCountThenAscendingIndexUptoSaid : Prop := fnLessIsDescendingCountThenAscendingIndexUptoRow.holds Try.pinned (OpenSpec.upto fnLessIsDescendingCountThenAscendingIndexSpec)

/-- 'n011_13.FnFlagsHasSymmetricAndDistributes', WHERE WHAT IT READS IS OF BULK AT MOST 1048576: true; the input reads as it did. -/
def fnFlagsHasSymmetricAndDistributesUptoRow : OpenClaim := { program := "ytimclpagggfmbaa", sum := "b53b5b34324cc30a2c574d65b6b1d13aa60d648fc76dffa3497467e00c83ae61", func := "github.com/evanw/esbuild/n011_13.FnFlagsHasSymmetricAndDistributes", spec := "fnFlagsHasSymmetricAndDistributes", apart := false, narrowed := true }
def FnFlagsHasSymmetricAndDistributesUptoSaid : Prop := fnFlagsHasSymmetricAndDistributesUptoRow.holds Try.pinned (OpenSpec.upto fnFlagsHasSymmetricAndDistributesSpec)

end Rows
end Go.Proofs.Ytimclpagggfmbaa
