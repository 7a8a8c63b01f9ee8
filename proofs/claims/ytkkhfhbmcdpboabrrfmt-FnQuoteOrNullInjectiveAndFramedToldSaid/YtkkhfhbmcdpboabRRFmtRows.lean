/-
  No cell of these rows narrows 'for every input' (looked for: loops, veiled, ifaces, maps, wideKeys, modest, calm, conditions, laid).
  DERIVED. THE GIVEN ROWS OF THIS SEAT. 1 by the template 'for every input the law returns true; each argument reads behind the call as it read before'; 0 by the template 'total and deterministic' (their statements: YtkkhfhbmcdpboabRRFmtTotals.lean).
  GIVEN WITH THE SEED: the statements are not yours to turn. If you find one false, say at which input.
  Laid BY PROGRAM, IN A SANDBOX (cutbox-rows.mjs): the forced cells as the released guide's own fill.sh prints them over the translation c11375756f3afe40… (all of the seat's roots in one cut). By AI agents, Wed Nov 11 2026. No macro, syntax, notation, axiom, sorry.
-/
import Derived.Test.YtkkhfhbmcdpboabRRFmtChecked
import GoSem.Claim
import GoSem.ClaimJoined
import GoSem.ClaimMapViews
import Derived.JoinedTies
import Derived.KernelRfl
namespace Go.Proofs.YtkkhfhbmcdpboabRRFmt
/- THE CELL 'sum', in the pinned program and in every row, IS THE sha256 OF THE DUMP (.gsa) THAT YtkkhfhbmcdpboabRRFmtProg.lean LOADS. Nothing in Lean hashes anything: it is a label: what it is worth is what the hold of that sum in a sandbox is worth. -/
noncomputable def Tryf.pinned : Pinned := { name := "ytkkhfhbmcdpboabrrfmt", sum := "c11375756f3afe4018475fde2905c6b27ce7a664736edef15ae1dba1f3853549", checked := Tryf.checked }
namespace Rows
def none {H : Type} : Left H := { results := [], args := [] }

/-- 'n011_255.FnQuoteOrNullInjectiveAndFramed': WHATEVER THE INPUT: true; the input reads as it did. -/
def fnQuoteOrNullInjectiveAndFramedSpec : ChangeSpec := { name := "fnQuoteOrNullInjectiveAndFramed", fn := fun _ => fun
  | [d1, d2] => { results := [.lit (.bool true)], args := [d1, d2] }
  | _ => none }
def fnQuoteOrNullInjectiveAndFramedRow : OpenClaim := { program := "ytkkhfhbmcdpboabrrfmt", sum := "c11375756f3afe4018475fde2905c6b27ce7a664736edef15ae1dba1f3853549", func := "github.com/evanw/esbuild/n011_255.FnQuoteOrNullInjectiveAndFramed", spec := "fnQuoteOrNullInjectiveAndFramed", stops := ["fmt.Sprintf"], inPlace := ["fmt.Sprintf"], apart := false }
/-- NO THEOREM (fmt's text is open here; it may be false): for the released tool's asking of the row's closed facts alone. THE STATEMENT IS 'FnQuoteOrNullInjectiveAndFramedToldSaid' (YtkkhfhbmcdpboabRRFmtCards.lean). -/
def FnQuoteOrNullInjectiveAndFramedFormAsk : Prop := fnQuoteOrNullInjectiveAndFramedRow.holds Tryf.pinned (OpenSpec.ofChange fnQuoteOrNullInjectiveAndFramedSpec)

/-- ITS FALSE NEIGHBOUR: 'it returns false'. Refute it at one input. -/
def fnQuoteOrNullInjectiveAndFramedWrong : ChangeSpec := { name := "fnQuoteOrNullInjectiveAndFramed", fn := fun _ => fun
  | [d1, d2] => { results := [.lit (.bool false)], args := [d1, d2] }
  | _ => none }
def FnQuoteOrNullInjectiveAndFramedWrongFormAsk : Prop := fnQuoteOrNullInjectiveAndFramedRow.holds Tryf.pinned (OpenSpec.ofChange fnQuoteOrNullInjectiveAndFramedWrong)

end Rows
end Go.Proofs.YtkkhfhbmcdpboabRRFmt
