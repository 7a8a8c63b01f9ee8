/-
  No cell of these rows narrows 'for every input' (looked for: loops, veiled, ifaces, maps, wideKeys, modest, calm, conditions, laid).
  DERIVED. THE GIVEN ROWS OF THIS SEAT. 2 by the template 'for every input the law returns true; each argument reads behind the call as it read before'; 0 by the template 'total and deterministic' (their statements: YtkkhfhbmcdpboaaTotals.lean).
  GIVEN WITH THE SEED: the statements are not yours to turn. If you find one false, say at which input.
  Laid BY PROGRAM, IN A SANDBOX (cutbox-rows.mjs): the forced cells as the released guide's own fill.sh prints them over the translation acb08d89bf565e71… (all of the seat's roots in one cut). By AI agents, Wed Nov 11 2026. No macro, syntax, notation, axiom, sorry.
-/
import Derived.Test.YtkkhfhbmcdpboaaChecked
import GoSem.Claim
import GoSem.ClaimJoined
import GoSem.ClaimMapViews
import Derived.JoinedTies
import Derived.KernelRfl
namespace Go.Proofs.Ytkkhfhbmcdpboaa
/- THE CELL 'sum', in the pinned program and in every row, IS THE sha256 OF THE DUMP (.gsa) THAT YtkkhfhbmcdpboaaProg.lean LOADS. Nothing in Lean hashes anything: it is a label: what it is worth is what the hold of that sum in a sandbox is worth. -/
noncomputable def Try.pinned : Pinned := { name := "ytkkhfhbmcdpboaa", sum := "acb08d89bf565e715f850951cc70fccb7d40e3ae2af7b9d84a3fef6dc8de2d69", checked := Try.checked }
namespace Rows
def none {H : Type} : Left H := { results := [], args := [] }

/-- 'n011_236.FnGetWritesLandInOneSharedCell': WHATEVER THE INPUT: true; the input reads as it did. -/
def fnGetWritesLandInOneSharedCellSpec : ChangeSpec := { name := "fnGetWritesLandInOneSharedCell", fn := fun _ => fun
  | [d1, d2, d3] => { results := [.lit (.bool true)], args := [d1, d2, d3] }
  | _ => none }
def fnGetWritesLandInOneSharedCellRow : OpenClaim := { program := "ytkkhfhbmcdpboaa", sum := "acb08d89bf565e715f850951cc70fccb7d40e3ae2af7b9d84a3fef6dc8de2d69", func := "github.com/evanw/esbuild/n011_236.FnGetWritesLandInOneSharedCell", spec := "fnGetWritesLandInOneSharedCell", apart := false }
def FnGetWritesLandInOneSharedCellSaid : Prop := fnGetWritesLandInOneSharedCellRow.holds Try.pinned (OpenSpec.ofChange fnGetWritesLandInOneSharedCellSpec)

/-- ITS FALSE NEIGHBOUR: 'it returns false'. Refute it at one input. -/
def fnGetWritesLandInOneSharedCellWrong : ChangeSpec := { name := "fnGetWritesLandInOneSharedCell", fn := fun _ => fun
  | [d1, d2, d3] => { results := [.lit (.bool false)], args := [d1, d2, d3] }
  | _ => none }
def FnGetWritesLandInOneSharedCellWrongFalsely : Prop := fnGetWritesLandInOneSharedCellRow.holds Try.pinned (OpenSpec.ofChange fnGetWritesLandInOneSharedCellWrong)

/-- 'n011_278.FnFindInvalidSegmentMatchesBackwardScan': WHATEVER THE INPUT: true; the input reads as it did. -/
def fnFindInvalidSegmentMatchesBackwardScanSpec : ChangeSpec := { name := "fnFindInvalidSegmentMatchesBackwardScan", fn := fun _ => fun
  | [d] => { results := [.lit (.bool true)], args := [d] }
  | _ => none }
def fnFindInvalidSegmentMatchesBackwardScanRow : OpenClaim := { program := "ytkkhfhbmcdpboaa", sum := "acb08d89bf565e715f850951cc70fccb7d40e3ae2af7b9d84a3fef6dc8de2d69", func := "github.com/evanw/esbuild/n011_278.FnFindInvalidSegmentMatchesBackwardScan", spec := "fnFindInvalidSegmentMatchesBackwardScan", inPlace := ["internal/bytealg.IndexByteString", "internal/bytealg.IndexString"], named := ["internal/bytealg.MaxLen"], apart := false }
def FnFindInvalidSegmentMatchesBackwardScanSaid : Prop := fnFindInvalidSegmentMatchesBackwardScanRow.holds Try.pinned (OpenSpec.ofChange fnFindInvalidSegmentMatchesBackwardScanSpec)

/-- ITS FALSE NEIGHBOUR: 'it returns false'. Refute it at one input. -/
def fnFindInvalidSegmentMatchesBackwardScanWrong : ChangeSpec := { name := "fnFindInvalidSegmentMatchesBackwardScan", fn := fun _ => fun
  | [d] => { results := [.lit (.bool false)], args := [d] }
  | _ => none }
def FnFindInvalidSegmentMatchesBackwardScanWrongFalsely : Prop := fnFindInvalidSegmentMatchesBackwardScanRow.holds Try.pinned (OpenSpec.ofChange fnFindInvalidSegmentMatchesBackwardScanWrong)

/- THE SECOND FORM. 'bulk': how many values and letters a reading holds, each counted each time it is reached (what is shared counts as often as it is met; a slice's spare places count too). A statement '..UptoSaid' is the law's where the arguments, and the package variables that the reading takes, are together of bulk at most 1048576: NARROWER than '..Said'. Prove '..Said' where nothing that the law and all that it calls make is longer than what came in: it says more and counts as full. Else prove '..UptoSaid'. A law counts once. -/
mutual
def uptoBulk {H : Type} : DataW H → Nat
  | .lit (.string bytes) => bytes.length + 1
  | .lit _ => 1
  | .nil => 1
  | .ptr d => uptoBulk d + 1
  | .slice elems spare => uptoBulkAll elems + uptoBulkAll spare + 1
  | .agg parts => uptoBulkAll parts + 1
  | .iface _ d => uptoBulk d + 1
  | .map entries => uptoBulkEntries entries + 1
  | .held _ => 1
def uptoBulkAll {H : Type} : List (DataW H) → Nat
  | [] => 0
  | d :: r => uptoBulk d + uptoBulkAll r
def uptoBulkEntries {H : Type} : List (Lit × DataW H) → Nat
  | [] => 0
  | x :: r => uptoBulkEntry x + uptoBulkEntries r
def uptoBulkEntry {H : Type} : Lit × DataW H → Nat
  | (.string bytes, d) => bytes.length + uptoBulk d + 1
  | (_, d) => uptoBulk d + 1
 end
def uptoSmall : (H : Type) → List (DataW H) → Bool := fun _ ds => decide (uptoBulkAll ds ≤ 1048576)
def OpenSpec.upto (s : _root_.Go.ChangeSpec) : _root_.Go.OpenSpec := { _root_.Go.OpenSpec.ofChange s with cond := some uptoSmall }

/-- 'n011_236.FnGetWritesLandInOneSharedCell', WHERE WHAT IT READS IS OF BULK AT MOST 1048576: true; the input reads as it did. -/
def fnGetWritesLandInOneSharedCellUptoRow : OpenClaim := { program := "ytkkhfhbmcdpboaa", sum := "acb08d89bf565e715f850951cc70fccb7d40e3ae2af7b9d84a3fef6dc8de2d69", func := "github.com/evanw/esbuild/n011_236.FnGetWritesLandInOneSharedCell", spec := "fnGetWritesLandInOneSharedCell", apart := false, narrowed := true }
def FnGetWritesLandInOneSharedCellUptoSaid : Prop := fnGetWritesLandInOneSharedCellUptoRow.holds Try.pinned (OpenSpec.upto fnGetWritesLandInOneSharedCellSpec)

/-- 'n011_278.FnFindInvalidSegmentMatchesBackwardScan', WHERE WHAT IT READS IS OF BULK AT MOST 1048576: true; the input reads as it did. -/
def fnFindInvalidSegmentMatchesBackwardScanUptoRow : OpenClaim := { program := "ytkkhfhbmcdpboaa", sum := "acb08d89bf565e715f850951cc70fccb7d40e3ae2af7b9d84a3fef6dc8de2d69", func := "github.com/evanw/esbuild/n011_278.FnFindInvalidSegmentMatchesBackwardScan", spec := "fnFindInvalidSegmentMatchesBackwardScan", inPlace := ["internal/bytealg.IndexByteString", "internal/bytealg.IndexString"], named := ["internal/bytealg.MaxLen"], apart := false, narrowed := true }
def FnFindInvalidSegmentMatchesBackwardScanUptoSaid : Prop := fnFindInvalidSegmentMatchesBackwardScanUptoRow.holds Try.pinned (OpenSpec.upto fnFindInvalidSegmentMatchesBackwardScanSpec)

end Rows
end Go.Proofs.Ytkkhfhbmcdpboaa
