/-
  No cell of these rows narrows 'for every input' (looked for: loops, veiled, ifaces, maps, wideKeys, modest, calm, conditions, laid).
  DERIVED. THE GIVEN ROWS OF THIS SEAT. 4 by the template 'for every input the law returns true; each argument reads behind the call as it read before'; 0 by the template 'total and deterministic' (their statements: YtpgchpfdeefloabTotals.lean).
  GIVEN WITH THE SEED: the statements are not yours to turn. If you find one false, say at which input.
  Laid BY PROGRAM, IN A SANDBOX (cutbox-rows.mjs): the forced cells as the released guide's own fill.sh prints them over the translation 5ce46daf22583568… (all of the seat's roots in one cut). By AI agents, Wed Nov 11 2026. No macro, syntax, notation, axiom, sorry.
-/
import Derived.Test.YtpgchpfdeefloabChecked
import GoSem.Claim
import GoSem.ClaimJoined
import GoSem.ClaimMapViews
import Derived.JoinedTies
import Derived.KernelRfl
namespace Go.Proofs.Ytpgchpfdeefloab
/- THE CELL 'sum', in the pinned program and in every row, IS THE sha256 OF THE DUMP (.gsa) THAT YtpgchpfdeefloabProg.lean LOADS. Nothing in Lean hashes anything: it is a label: what it is worth is what the hold of that sum in a sandbox is worth. -/
noncomputable def Try.pinned : Pinned := { name := "ytpgchpfdeefloab", sum := "5ce46daf225835686279176c48351d1105db166229777f393b19dcf0a8857d11", checked := Try.checked }
namespace Rows
def none {H : Type} : Left H := { results := [], args := [] }

/-- 'n011_273.FnGetBoolAnswersOnlyBooleans': WHATEVER THE INPUT: true; the input reads as it did. -/
def fnGetBoolAnswersOnlyBooleansSpec : ChangeSpec := { name := "fnGetBoolAnswersOnlyBooleans", fn := fun _ => fun
  | [d1, d2, d3, d4] => { results := [.lit (.bool true)], args := [d1, d2, d3, d4] }
  | _ => none }
def fnGetBoolAnswersOnlyBooleansRow : OpenClaim := { program := "ytpgchpfdeefloab", sum := "5ce46daf225835686279176c48351d1105db166229777f393b19dcf0a8857d11", func := "github.com/evanw/esbuild/n011_273.FnGetBoolAnswersOnlyBooleans", spec := "fnGetBoolAnswersOnlyBooleans", plainKeys := false, apart := false }
def FnGetBoolAnswersOnlyBooleansSaid : Prop := fnGetBoolAnswersOnlyBooleansRow.holds Try.pinned (OpenSpec.ofChange fnGetBoolAnswersOnlyBooleansSpec)

/-- ITS FALSE NEIGHBOUR: 'it returns false'. Refute it at one input. -/
def fnGetBoolAnswersOnlyBooleansWrong : ChangeSpec := { name := "fnGetBoolAnswersOnlyBooleans", fn := fun _ => fun
  | [d1, d2, d3, d4] => { results := [.lit (.bool false)], args := [d1, d2, d3, d4] }
  | _ => none }
def FnGetBoolAnswersOnlyBooleansWrongFalsely : Prop := fnGetBoolAnswersOnlyBooleansRow.holds Try.pinned (OpenSpec.ofChange fnGetBoolAnswersOnlyBooleansWrong)

/-- 'n011_69.FnIsIdentOrNumCaseTable': WHATEVER THE INPUT: true; the input reads as it did. -/
def fnIsIdentOrNumCaseTableSpec : ChangeSpec := { name := "fnIsIdentOrNumCaseTable", fn := fun _ => fun
  | [d1, d2, d3] => { results := [.lit (.bool true)], args := [d1, d2, d3] }
  | _ => none }
def fnIsIdentOrNumCaseTableRow : OpenClaim := { program := "ytpgchpfdeefloab", sum := "5ce46daf225835686279176c48351d1105db166229777f393b19dcf0a8857d11", func := "github.com/evanw/esbuild/n011_69.FnIsIdentOrNumCaseTable", spec := "fnIsIdentOrNumCaseTable", inPlace := ["math.Float64bits", "math.Float64frombits"], plainKeys := false, apart := false }
def FnIsIdentOrNumCaseTableSaid : Prop := fnIsIdentOrNumCaseTableRow.holds Try.pinned (OpenSpec.ofChange fnIsIdentOrNumCaseTableSpec)

/-- ITS FALSE NEIGHBOUR: 'it returns false'. Refute it at one input. -/
def fnIsIdentOrNumCaseTableWrong : ChangeSpec := { name := "fnIsIdentOrNumCaseTable", fn := fun _ => fun
  | [d1, d2, d3] => { results := [.lit (.bool false)], args := [d1, d2, d3] }
  | _ => none }
def FnIsIdentOrNumCaseTableWrongFalsely : Prop := fnIsIdentOrNumCaseTableRow.holds Try.pinned (OpenSpec.ofChange fnIsIdentOrNumCaseTableWrong)

/-- 'n011_221.FnLocationRoundTripThroughInternal': WHATEVER THE INPUT: true; the input reads as it did. -/
def fnLocationRoundTripThroughInternalSpec : ChangeSpec := { name := "fnLocationRoundTripThroughInternal", fn := fun _ => fun
  | [d1, d2, d3, d4, d5, d6, d7, d8, d9, d10] => { results := [.lit (.bool true)], args := [d1, d2, d3, d4, d5, d6, d7, d8, d9, d10] }
  | _ => none }
def fnLocationRoundTripThroughInternalRow : OpenClaim := { program := "ytpgchpfdeefloab", sum := "5ce46daf225835686279176c48351d1105db166229777f393b19dcf0a8857d11", func := "github.com/evanw/esbuild/n011_221.FnLocationRoundTripThroughInternal", spec := "fnLocationRoundTripThroughInternal", plainKeys := false, apart := false }
def FnLocationRoundTripThroughInternalSaid : Prop := fnLocationRoundTripThroughInternalRow.holds Try.pinned (OpenSpec.ofChange fnLocationRoundTripThroughInternalSpec)

/-- ITS FALSE NEIGHBOUR: 'it returns false'. Refute it at one input. -/
def fnLocationRoundTripThroughInternalWrong : ChangeSpec := { name := "fnLocationRoundTripThroughInternal", fn := fun _ => fun
  | [d1, d2, d3, d4, d5, d6, d7, d8, d9, d10] => { results := [.lit (.bool false)], args := [d1, d2, d3, d4, d5, d6, d7, d8, d9, d10] }
  | _ => none }
def FnLocationRoundTripThroughInternalWrongFalsely : Prop := fnLocationRoundTripThroughInternalRow.holds Try.pinned (OpenSpec.ofChange fnLocationRoundTripThroughInternalWrong)

/-- 'n011_24.FnNotifyRequestTimeMonotoneAndHooklessIgnoresRequest': WHATEVER THE INPUT: true; the input reads as it did. -/
def fnNotifyRequestTimeMonotoneAndHooklessIgnoresRequestSpec : ChangeSpec := { name := "fnNotifyRequestTimeMonotoneAndHooklessIgnoresRequest", fn := fun _ => fun
  | [d1, d2, d3] => { results := [.lit (.bool true)], args := [d1, d2, d3] }
  | _ => none }
def fnNotifyRequestTimeMonotoneAndHooklessIgnoresRequestRow : OpenClaim := { program := "ytpgchpfdeefloab", sum := "5ce46daf225835686279176c48351d1105db166229777f393b19dcf0a8857d11", func := "github.com/evanw/esbuild/n011_24.FnNotifyRequestTimeMonotoneAndHooklessIgnoresRequest", spec := "fnNotifyRequestTimeMonotoneAndHooklessIgnoresRequest", unfollowed := true, recurses := true, plainKeys := false, apart := false }
def FnNotifyRequestTimeMonotoneAndHooklessIgnoresRequestSaid : Prop := fnNotifyRequestTimeMonotoneAndHooklessIgnoresRequestRow.holds Try.pinned (OpenSpec.ofChange fnNotifyRequestTimeMonotoneAndHooklessIgnoresRequestSpec)

/-- ITS FALSE NEIGHBOUR: 'it returns false'. Refute it at one input. -/
def fnNotifyRequestTimeMonotoneAndHooklessIgnoresRequestWrong : ChangeSpec := { name := "fnNotifyRequestTimeMonotoneAndHooklessIgnoresRequest", fn := fun _ => fun
  | [d1, d2, d3] => { results := [.lit (.bool false)], args := [d1, d2, d3] }
  | _ => none }
def FnNotifyRequestTimeMonotoneAndHooklessIgnoresRequestWrongFalsely : Prop := fnNotifyRequestTimeMonotoneAndHooklessIgnoresRequestRow.holds Try.pinned (OpenSpec.ofChange fnNotifyRequestTimeMonotoneAndHooklessIgnoresRequestWrong)

/- THE SECOND FORM. 'bulk': how many values and letters a reading holds, each counted each time it is reached (what is shared counts as often as it is met; a slice's spare places count too). A statement '..UptoSaid' is the law's where the arguments, and the package variables that the reading takes, are together of bulk at most 1048576: NARROWER than '..Said'. Prove '..Said' where nothing that the law and all that it calls make is longer than what came in: it says more and counts as full. Else prove '..UptoSaid'. A law counts once. -/
mutual
def uptoBulk {H : Type} : DataW H → Nat
  | .lit (.string bytes) => bytes.length + 1
  | .lit _ => 1
  | .nil => 1
  | .ptr d => uptoBulk d + 1
  | .slice elems spare => uptoBulkAll elems + uptoBulkAll spare + 1
  | .agg parts => uptoBulkAll parts + 1
  | .iface _ d => uptoBulk d + 1
  | .map entries => uptoBulkEntries entries + 1
  | .held _ => 1
def uptoBulkAll {H : Type} : List (DataW H) → Nat
  | [] => 0
  | d :: r => uptoBulk d + uptoBulkAll r
def uptoBulkEntries {H : Type} : List (Lit × DataW H) → Nat
  | [] => 0
  | x :: r => uptoBulkEntry x + uptoBulkEntries r
def uptoBulkEntry {H : Type} : Lit × DataW H → Nat
  | (.string bytes, d) => bytes.length + uptoBulk d + 1
  | (_, d) => uptoBulk d + 1
 end
def uptoSmall : (H : Type) → List (DataW H) → Bool := fun _ ds => decide (uptoBulkAll ds ≤ 1048576)
def OpenSpec.upto (s : _root_.Go.ChangeSpec) : _root_.Go.OpenSpec := { _root_.Go.OpenSpec.ofChange s with cond := some uptoSmall }

/-- 'n011_273.FnGetBoolAnswersOnlyBooleans', WHERE WHAT IT READS IS OF BULK AT MOST 1048576: true; the input reads as it did. -/
def fnGetBoolAnswersOnlyBooleansUptoRow : OpenClaim := { program := "ytpgchpfdeefloab", sum := "5ce46daf225835686279176c48351d1105db166229777f393b19dcf0a8857d11", func := "github.com/evanw/esbuild/n011_273.FnGetBoolAnswersOnlyBooleans", spec := "fnGetBoolAnswersOnlyBooleans", plainKeys := false, apart := false, narrowed := true }
def FnGetBoolAnswersOnlyBooleansUptoSaid : Prop := fnGetBoolAnswersOnlyBooleansUptoRow.holds Try.pinned (OpenSpec.upto fnGetBoolAnswersOnlyBooleansSpec)

/-- 'n011_69.FnIsIdentOrNumCaseTable', WHERE WHAT IT READS IS OF BULK AT MOST 1048576: true; the input reads as it did. -/
def fnIsIdentOrNumCaseTableUptoRow : OpenClaim := { program := "ytpgchpfdeefloab", sum := "5ce46daf225835686279176c48351d1105db166229777f393b19dcf0a8857d11", func := "github.com/evanw/esbuild/n011_69.FnIsIdentOrNumCaseTable", spec := "fnIsIdentOrNumCaseTable", inPlace := ["math.Float64bits", "math.Float64frombits"], plainKeys := false, apart := false, narrowed := true }
def FnIsIdentOrNumCaseTableUptoSaid : Prop := fnIsIdentOrNumCaseTableUptoRow.holds Try.pinned (OpenSpec.upto fnIsIdentOrNumCaseTableSpec)

/-- 'n011_221.FnLocationRoundTripThroughInternal', WHERE WHAT IT READS IS OF BULK AT MOST 1048576: true; the input reads as it did. -/
def fnLocationRoundTripThroughInternalUptoRow : OpenClaim := { program := "ytpgchpfdeefloab", sum := "5ce46daf225835686279176c48351d1105db166229777f393b19dcf0a8857d11", func := "github.com/evanw/esbuild/n011_221.FnLocationRoundTripThroughInternal", spec := "fnLocationRoundTripThroughInternal", plainKeys := false, apart := false, narrowed := true }
def FnLocationRoundTripThroughInternalUptoSaid : Prop := fnLocationRoundTripThroughInternalUptoRow.holds Try.pinned (OpenSpec.upto fnLocationRoundTripThroughInternalSpec)

/-- 'n011_24.FnNotifyRequestTimeMonotoneAndHooklessIgnoresRequest', WHERE WHAT IT READS IS OF BULK AT MOST 1048576: true; the input reads as it did. -/
def fnNotifyRequestTimeMonotoneAndHooklessIgnoresRequestUptoRow : OpenClaim := { program := "ytpgchpfdeefloab", sum := "5ce46daf225835686279176c48351d1105db166229777f393b19dcf0a8857d11", func := "github.com/evanw/esbuild/n011_24.FnNotifyRequestTimeMonotoneAndHooklessIgnoresRequest", spec := "fnNotifyRequestTimeMonotoneAndHooklessIgnoresRequest", unfollowed := true, recurses := true, plainKeys := false, apart := false, narrowed := true }
def FnNotifyRequestTimeMonotoneAndHooklessIgnoresRequestUptoSaid : Prop := fnNotifyRequestTimeMonotoneAndHooklessIgnoresRequestUptoRow.holds Try.pinned (OpenSpec.upto fnNotifyRequestTimeMonotoneAndHooklessIgnoresRequestSpec)

end Rows
end Go.Proofs.Ytpgchpfdeefloab
