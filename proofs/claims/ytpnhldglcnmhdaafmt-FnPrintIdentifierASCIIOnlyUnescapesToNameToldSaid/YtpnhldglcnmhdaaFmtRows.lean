/-
  No cell of these rows narrows 'for every input' (looked for: loops, veiled, ifaces, maps, wideKeys, modest, calm, conditions, laid).
  DERIVED. THE GIVEN ROWS OF THIS SEAT. 1 by the template 'for every input the law returns true; each argument reads behind the call as it read before'; 0 by the template 'total and deterministic' (their statements: YtpnhldglcnmhdaaFmtTotals.lean).
  GIVEN WITH THE SEED: the statements are not yours to turn. If you find one false, say at which input.
  Laid BY PROGRAM, IN A SANDBOX (cutbox-rows.mjs): the forced cells as the released guide's own fill.sh prints them over the translation 45c05260a04361bc… (all of the seat's roots in one cut). By AI agents, Wed Nov 11 2026. No macro, syntax, notation, axiom, sorry.
-/
import Derived.Test.YtpnhldglcnmhdaaFmtChecked
import GoSem.Claim
import GoSem.ClaimJoined
import GoSem.ClaimMapViews
import Derived.JoinedTies
import Derived.KernelRfl
namespace Go.Proofs.YtpnhldglcnmhdaaFmt
/- THE CELL 'sum', in the pinned program and in every row, IS THE sha256 OF THE DUMP (.gsa) THAT YtpnhldglcnmhdaaFmtProg.lean LOADS. Nothing in Lean hashes anything: it is a label: what it is worth is what the hold of that sum in a sandbox is worth. -/
noncomputable def Tryf.pinned : Pinned := { name := "ytpnhldglcnmhdaafmt", sum := "45c05260a04361bccd907950f306e2c739bbbdef7886de5b773671c2a853211b", checked := Tryf.checked }
namespace Rows
def none {H : Type} : Left H := { results := [], args := [] }

/-- 'n011_208.FnPrintIdentifierASCIIOnlyUnescapesToName': WHATEVER THE INPUT: true; the input reads as it did. -/
def fnPrintIdentifierASCIIOnlyUnescapesToNameSpec : ChangeSpec := { name := "fnPrintIdentifierASCIIOnlyUnescapesToName", fn := fun _ => fun
  | [d] => { results := [.lit (.bool true)], args := [d] }
  | _ => none }
def fnPrintIdentifierASCIIOnlyUnescapesToNameRow : OpenClaim := { program := "ytpnhldglcnmhdaafmt", sum := "45c05260a04361bccd907950f306e2c739bbbdef7886de5b773671c2a853211b", func := "github.com/evanw/esbuild/n011_208.FnPrintIdentifierASCIIOnlyUnescapesToName", spec := "fnPrintIdentifierASCIIOnlyUnescapesToName", stops := ["fmt.Sprintf"], inPlace := ["fmt.Sprintf"], plainKeys := false, apart := false }
/-- NO THEOREM (fmt's text is open here; it may be false): for the released tool's asking of the row's closed facts alone. THE STATEMENT IS 'FnPrintIdentifierASCIIOnlyUnescapesToNameToldSaid' (YtpnhldglcnmhdaaFmtCards.lean). -/
def FnPrintIdentifierASCIIOnlyUnescapesToNameFormAsk : Prop := fnPrintIdentifierASCIIOnlyUnescapesToNameRow.holds Tryf.pinned (OpenSpec.ofChange fnPrintIdentifierASCIIOnlyUnescapesToNameSpec)

/-- ITS FALSE NEIGHBOUR: 'it returns false'. Refute it at one input. -/
def fnPrintIdentifierASCIIOnlyUnescapesToNameWrong : ChangeSpec := { name := "fnPrintIdentifierASCIIOnlyUnescapesToName", fn := fun _ => fun
  | [d] => { results := [.lit (.bool false)], args := [d] }
  | _ => none }
def FnPrintIdentifierASCIIOnlyUnescapesToNameWrongFormAsk : Prop := fnPrintIdentifierASCIIOnlyUnescapesToNameRow.holds Tryf.pinned (OpenSpec.ofChange fnPrintIdentifierASCIIOnlyUnescapesToNameWrong)

end Rows
end Go.Proofs.YtpnhldglcnmhdaaFmt
