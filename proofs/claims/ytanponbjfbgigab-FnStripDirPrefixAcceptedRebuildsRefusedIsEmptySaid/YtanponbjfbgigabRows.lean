/-
  No cell of these rows narrows 'for every input' (looked for: loops, veiled, ifaces, maps, wideKeys, modest, calm, conditions, laid).
  DERIVED. THE GIVEN ROWS OF THIS SEAT. 4 by the template 'for every input the law returns true; each argument reads behind the call as it read before'; 0 by the template 'total and deterministic' (their statements: YtanponbjfbgigabTotals.lean).
  GIVEN WITH THE SEED: the statements are not yours to turn. If you find one false, say at which input.
  Laid BY PROGRAM, IN A SANDBOX (cutbox-rows.mjs): the forced cells as the released guide's own fill.sh prints them over the translation 215519cb896f4811… (all of the seat's roots in one cut). By AI agents, Wed Nov 11 2026. No macro, syntax, notation, axiom, sorry.
-/
import Derived.Test.YtanponbjfbgigabChecked
import GoSem.Claim
import GoSem.ClaimJoined
import GoSem.ClaimMapViews
import Derived.JoinedTies
import Derived.KernelRfl
namespace Go.Proofs.Ytanponbjfbgigab
/- THE CELL 'sum', in the pinned program and in every row, IS THE sha256 OF THE DUMP (.gsa) THAT YtanponbjfbgigabProg.lean LOADS. Nothing in Lean hashes anything: it is a label: what it is worth is what the hold of that sum in a sandbox is worth. -/
noncomputable def Try.pinned : Pinned := { name := "ytanponbjfbgigab", sum := "215519cb896f4811263b8428ec258bfd0bd80a5f35a537acdb63875c87d29ac1", checked := Try.checked }
namespace Rows
def none {H : Type} : Left H := { results := [], args := [] }

/-- 'n011_7.FnParseRangeIntMonotoneInMax': WHATEVER THE INPUT: true; the input reads as it did. -/
def fnParseRangeIntMonotoneInMaxSpec : ChangeSpec := { name := "fnParseRangeIntMonotoneInMax", fn := fun _ => fun
  | [d1, d2, d3] => { results := [.lit (.bool true)], args := [d1, d2, d3] }
  | _ => none }
def fnParseRangeIntMonotoneInMaxRow : OpenClaim := { program := "ytanponbjfbgigab", sum := "215519cb896f4811263b8428ec258bfd0bd80a5f35a537acdb63875c87d29ac1", func := "github.com/evanw/esbuild/n011_7.FnParseRangeIntMonotoneInMax", spec := "fnParseRangeIntMonotoneInMax", apart := false }
def FnParseRangeIntMonotoneInMaxSaid : Prop := fnParseRangeIntMonotoneInMaxRow.holds Try.pinned (OpenSpec.ofChange fnParseRangeIntMonotoneInMaxSpec)

/-- ITS FALSE NEIGHBOUR: 'it returns false'. Refute it at one input. -/
def fnParseRangeIntMonotoneInMaxWrong : ChangeSpec := { name := "fnParseRangeIntMonotoneInMax", fn := fun _ => fun
  | [d1, d2, d3] => { results := [.lit (.bool false)], args := [d1, d2, d3] }
  | _ => none }
def FnParseRangeIntMonotoneInMaxWrongFalsely : Prop := fnParseRangeIntMonotoneInMaxRow.holds Try.pinned (OpenSpec.ofChange fnParseRangeIntMonotoneInMaxWrong)

/-- 'n011_289.FnIsPackagePathFixedByDirectoryPart': WHATEVER THE INPUT: true; the input reads as it did. -/
def fnIsPackagePathFixedByDirectoryPartSpec : ChangeSpec := { name := "fnIsPackagePathFixedByDirectoryPart", fn := fun _ => fun
  | [d1, d2] => { results := [.lit (.bool true)], args := [d1, d2] }
  | _ => none }
def fnIsPackagePathFixedByDirectoryPartRow : OpenClaim := { program := "ytanponbjfbgigab", sum := "215519cb896f4811263b8428ec258bfd0bd80a5f35a537acdb63875c87d29ac1", func := "github.com/evanw/esbuild/n011_289.FnIsPackagePathFixedByDirectoryPart", spec := "fnIsPackagePathFixedByDirectoryPart", apart := false }
def FnIsPackagePathFixedByDirectoryPartSaid : Prop := fnIsPackagePathFixedByDirectoryPartRow.holds Try.pinned (OpenSpec.ofChange fnIsPackagePathFixedByDirectoryPartSpec)

/-- ITS FALSE NEIGHBOUR: 'it returns false'. Refute it at one input. -/
def fnIsPackagePathFixedByDirectoryPartWrong : ChangeSpec := { name := "fnIsPackagePathFixedByDirectoryPart", fn := fun _ => fun
  | [d1, d2] => { results := [.lit (.bool false)], args := [d1, d2] }
  | _ => none }
def FnIsPackagePathFixedByDirectoryPartWrongFalsely : Prop := fnIsPackagePathFixedByDirectoryPartRow.holds Try.pinned (OpenSpec.ofChange fnIsPackagePathFixedByDirectoryPartWrong)

/-- 'n011_278.FnFindInvalidSegmentMatchesBackwardScan': WHATEVER THE INPUT: true; the input reads as it did. -/
def fnFindInvalidSegmentMatchesBackwardScanSpec : ChangeSpec := { name := "fnFindInvalidSegmentMatchesBackwardScan", fn := fun _ => fun
  | [d] => { results := [.lit (.bool true)], args := [d] }
  | _ => none }
def fnFindInvalidSegmentMatchesBackwardScanRow : OpenClaim := { program := "ytanponbjfbgigab", sum := "215519cb896f4811263b8428ec258bfd0bd80a5f35a537acdb63875c87d29ac1", func := "github.com/evanw/esbuild/n011_278.FnFindInvalidSegmentMatchesBackwardScan", spec := "fnFindInvalidSegmentMatchesBackwardScan", inPlace := ["internal/bytealg.IndexByteString", "internal/bytealg.IndexString"], named := ["internal/bytealg.MaxLen"], apart := false }
def FnFindInvalidSegmentMatchesBackwardScanSaid : Prop := fnFindInvalidSegmentMatchesBackwardScanRow.holds Try.pinned (OpenSpec.ofChange fnFindInvalidSegmentMatchesBackwardScanSpec)

/-- ITS FALSE NEIGHBOUR: 'it returns false'. Refute it at one input. -/
def fnFindInvalidSegmentMatchesBackwardScanWrong : ChangeSpec := { name := "fnFindInvalidSegmentMatchesBackwardScan", fn := fun _ => fun
  | [d] => { results := [.lit (.bool false)], args := [d] }
  | _ => none }
def FnFindInvalidSegmentMatchesBackwardScanWrongFalsely : Prop := fnFindInvalidSegmentMatchesBackwardScanRow.holds Try.pinned (OpenSpec.ofChange fnFindInvalidSegmentMatchesBackwardScanWrong)

/-- 'n011_262.FnStripDirPrefixAcceptedRebuildsRefusedIsEmpty': WHATEVER THE INPUT: true; the input reads as it did. -/
def fnStripDirPrefixAcceptedRebuildsRefusedIsEmptySpec : ChangeSpec := { name := "fnStripDirPrefixAcceptedRebuildsRefusedIsEmpty", fn := fun _ => fun
  | [d1, d2, d3] => { results := [.lit (.bool true)], args := [d1, d2, d3] }
  | _ => none }
def fnStripDirPrefixAcceptedRebuildsRefusedIsEmptyRow : OpenClaim := { program := "ytanponbjfbgigab", sum := "215519cb896f4811263b8428ec258bfd0bd80a5f35a537acdb63875c87d29ac1", func := "github.com/evanw/esbuild/n011_262.FnStripDirPrefixAcceptedRebuildsRefusedIsEmpty", spec := "fnStripDirPrefixAcceptedRebuildsRefusedIsEmpty", inPlace := ["internal/bytealg.IndexByteString"], apart := false }
def FnStripDirPrefixAcceptedRebuildsRefusedIsEmptySaid : Prop := fnStripDirPrefixAcceptedRebuildsRefusedIsEmptyRow.holds Try.pinned (OpenSpec.ofChange fnStripDirPrefixAcceptedRebuildsRefusedIsEmptySpec)

/-- ITS FALSE NEIGHBOUR: 'it returns false'. Refute it at one input. -/
def fnStripDirPrefixAcceptedRebuildsRefusedIsEmptyWrong : ChangeSpec := { name := "fnStripDirPrefixAcceptedRebuildsRefusedIsEmpty", fn := fun _ => fun
  | [d1, d2, d3] => { results := [.lit (.bool false)], args := [d1, d2, d3] }
  | _ => none }
def FnStripDirPrefixAcceptedRebuildsRefusedIsEmptyWrongFalsely : Prop := fnStripDirPrefixAcceptedRebuildsRefusedIsEmptyRow.holds Try.pinned (OpenSpec.ofChange fnStripDirPrefixAcceptedRebuildsRefusedIsEmptyWrong)

/- THE SECOND FORM. 'bulk': how many values and letters a reading holds, each counted each time it is reached (what is shared counts as often as it is met; a slice's spare places count too). A statement '..UptoSaid' is the law's where the arguments, and the package variables that the reading takes, are together of bulk at most 1048576: NARROWER than '..Said'. Prove '..Said' where nothing that the law and all that it calls make is longer than what came in: it says more and counts as full. Else prove '..UptoSaid'. A law counts once. -/
mutual
def uptoBulk {H : Type} : DataW H → Nat
  | .lit (.string bytes) => bytes.length + 1
  | .lit _ => 1
  | .nil => 1
  | .ptr d => uptoBulk d + 1
  | .slice elems spare => uptoBulkAll elems + uptoBulkAll spare + 1
  | .agg parts => uptoBulkAll parts + 1
  | .iface _ d => uptoBulk d + 1
  | .map entries => uptoBulkEntries entries + 1
  | .held _ => 1
def uptoBulkAll {H : Type} : List (DataW H) → Nat
  | [] => 0
  | d :: r => uptoBulk d + uptoBulkAll r
def uptoBulkEntries {H : Type} : List (Lit × DataW H) → Nat
  | [] => 0
  | x :: r => uptoBulkEntry x + uptoBulkEntries r
def uptoBulkEntry {H : Type} : Lit × DataW H → Nat
  | (.string bytes, d) => bytes.length + uptoBulk d + 1
  | (_, d) => uptoBulk d + 1
 end
def uptoSmall : (H : Type) → List (DataW H) → Bool := fun _ ds => decide (uptoBulkAll ds ≤ 1048576)
def OpenSpec.upto (s : _root_.Go.ChangeSpec) : _root_.Go.OpenSpec := { _root_.Go.OpenSpec.ofChange s with cond := some uptoSmall }

/-- 'n011_7.FnParseRangeIntMonotoneInMax', WHERE WHAT IT READS IS OF BULK AT MOST 1048576: true; the input reads as it did. -/
def fnParseRangeIntMonotoneInMaxUptoRow : OpenClaim := { program := "ytanponbjfbgigab", sum := "215519cb896f4811263b8428ec258bfd0bd80a5f35a537acdb63875c87d29ac1", func := "github.com/evanw/esbuild/n011_7.FnParseRangeIntMonotoneInMax", spec := "fnParseRangeIntMonotoneInMax", apart := false, narrowed := true }
def FnParseRangeIntMonotoneInMaxUptoSaid : Prop := fnParseRangeIntMonotoneInMaxUptoRow.holds Try.pinned (OpenSpec.upto fnParseRangeIntMonotoneInMaxSpec)

/-- 'n011_289.FnIsPackagePathFixedByDirectoryPart', WHERE WHAT IT READS IS OF BULK AT MOST 1048576: true; the input reads as it did. -/
def fnIsPackagePathFixedByDirectoryPartUptoRow : OpenClaim := { program := "ytanponbjfbgigab", sum := "215519cb896f4811263b8428ec258bfd0bd80a5f35a537acdb63875c87d29ac1", func := "github.com/evanw/esbuild/n011_289.FnIsPackagePathFixedByDirectoryPart", spec := "fnIsPackagePathFixedByDirectoryPart", apart := false, narrowed := true }
def FnIsPackagePathFixedByDirectoryPartUptoSaid : Prop := fnIsPackagePathFixedByDirectoryPartUptoRow.holds Try.pinned (OpenSpec.upto fnIsPackagePathFixedByDirectoryPartSpec)

/-- 'n011_278.FnFindInvalidSegmentMatchesBackwardScan', WHERE WHAT IT READS IS OF BULK AT MOST 1048576: true; the input reads as it did. -/
def fnFindInvalidSegmentMatchesBackwardScanUptoRow : OpenClaim := { program := "ytanponbjfbgigab", sum := "215519cb896f4811263b8428ec258bfd0bd80a5f35a537acdb63875c87d29ac1", func := "github.com/evanw/esbuild/n011_278.FnFindInvalidSegmentMatchesBackwardScan", spec := "fnFindInvalidSegmentMatchesBackwardScan", inPlace := ["internal/bytealg.IndexByteString", "internal/bytealg.IndexString"], named := ["internal/bytealg.MaxLen"], apart := false, narrowed := true }
def FnFindInvalidSegmentMatchesBackwardScanUptoSaid : Prop := fnFindInvalidSegmentMatchesBackwardScanUptoRow.holds Try.pinned (OpenSpec.upto fnFindInvalidSegmentMatchesBackwardScanSpec)

/-- 'n011_262.FnStripDirPrefixAcceptedRebuildsRefusedIsEmpty', WHERE WHAT IT READS IS OF BULK AT MOST 1048576: true; the input reads as it did. -/
def fnStripDirPrefixAcceptedRebuildsRefusedIsEmptyUptoRow : OpenClaim := { program := "ytanponbjfbgigab", sum := "215519cb896f4811263b8428ec258bfd0bd80a5f35a537acdb63875c87d29ac1", func := "github.com/evanw/esbuild/n011_262.FnStripDirPrefixAcceptedRebuildsRefusedIsEmpty", spec := "fnStripDirPrefixAcceptedRebuildsRefusedIsEmpty", inPlace := ["internal/bytealg.IndexByteString"], apart := false, narrowed := true }
def FnStripDirPrefixAcceptedRebuildsRefusedIsEmptyUptoSaid : Prop := fnStripDirPrefixAcceptedRebuildsRefusedIsEmptyUptoRow.holds Try.pinned (OpenSpec.upto fnStripDirPrefixAcceptedRebuildsRefusedIsEmptySpec)

end Rows
end Go.Proofs.Ytanponbjfbgigab
