/-
  No cell of these rows narrows 'for every input' (looked for: loops, veiled, ifaces, maps, wideKeys, modest, calm, conditions, laid).
  DERIVED. THE GIVEN ROWS OF THIS SEAT. 1 by the template 'for every input the law returns true; each argument reads behind the call as it read before'; 0 by the template 'total and deterministic' (their statements: YtngflfjgappgmaaFmtTotals.lean).
  GIVEN WITH THE SEED: the statements are not yours to turn. If you find one false, say at which input.
  Laid BY PROGRAM, IN A SANDBOX (cutbox-rows.mjs): the forced cells as the released guide's own fill.sh prints them over the translation eb37234e90f5bf84… (all of the seat's roots in one cut). By AI agents, Wed Nov 11 2026. No macro, syntax, notation, axiom, sorry.
-/
import Derived.Test.YtngflfjgappgmaaFmtChecked
import GoSem.Claim
import GoSem.ClaimJoined
import GoSem.ClaimMapViews
import Derived.JoinedTies
import Derived.KernelRfl
namespace Go.Proofs.YtngflfjgappgmaaFmt
/- THE CELL 'sum', in the pinned program and in every row, IS THE sha256 OF THE DUMP (.gsa) THAT YtngflfjgappgmaaFmtProg.lean LOADS. Nothing in Lean hashes anything: it is a label: what it is worth is what the hold of that sum in a sandbox is worth. -/
noncomputable def Tryf.pinned : Pinned := { name := "ytngflfjgappgmaafmt", sum := "eb37234e90f5bf84358acbd185414bc5d137f924c03fd66c70f2ca25b3d0fbf8", checked := Tryf.checked }
namespace Rows
def none {H : Type} : Left H := { results := [], args := [] }

/-- 'n011_284.FnIsExternalOrderFreeAndMonotone': WHATEVER THE INPUT: true; the input reads as it did. -/
def fnIsExternalOrderFreeAndMonotoneSpec : ChangeSpec := { name := "fnIsExternalOrderFreeAndMonotone", fn := fun _ => fun
  | [d1, d2, d3, d4, d5, d6, d7] => { results := [.lit (.bool true)], args := [d1, d2, d3, d4, d5, d6, d7] }
  | _ => none }
def fnIsExternalOrderFreeAndMonotoneRow : OpenClaim := { program := "ytngflfjgappgmaafmt", sum := "eb37234e90f5bf84358acbd185414bc5d137f924c03fd66c70f2ca25b3d0fbf8", func := "github.com/evanw/esbuild/n011_284.FnIsExternalOrderFreeAndMonotone", spec := "fnIsExternalOrderFreeAndMonotone", stops := ["fmt.Sprintf"], inPlace := ["fmt.Sprintf"], plainKeys := false, apart := false }
/-- NO THEOREM (fmt's text is open here; it may be false): for the released tool's asking of the row's closed facts alone. THE STATEMENT IS 'FnIsExternalOrderFreeAndMonotoneToldSaid' (YtngflfjgappgmaaFmtCards.lean). -/
def FnIsExternalOrderFreeAndMonotoneFormAsk : Prop := fnIsExternalOrderFreeAndMonotoneRow.holds Tryf.pinned (OpenSpec.ofChange fnIsExternalOrderFreeAndMonotoneSpec)

/-- ITS FALSE NEIGHBOUR: 'it returns false'. Refute it at one input. -/
def fnIsExternalOrderFreeAndMonotoneWrong : ChangeSpec := { name := "fnIsExternalOrderFreeAndMonotone", fn := fun _ => fun
  | [d1, d2, d3, d4, d5, d6, d7] => { results := [.lit (.bool false)], args := [d1, d2, d3, d4, d5, d6, d7] }
  | _ => none }
def FnIsExternalOrderFreeAndMonotoneWrongFormAsk : Prop := fnIsExternalOrderFreeAndMonotoneRow.holds Tryf.pinned (OpenSpec.ofChange fnIsExternalOrderFreeAndMonotoneWrong)

end Rows
end Go.Proofs.YtngflfjgappgmaaFmt
