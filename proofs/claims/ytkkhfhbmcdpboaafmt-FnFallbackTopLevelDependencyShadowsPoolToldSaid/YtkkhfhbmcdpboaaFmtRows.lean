/-
  No cell of these rows narrows 'for every input' (looked for: loops, veiled, ifaces, maps, wideKeys, modest, calm, conditions, laid).
  DERIVED. THE GIVEN ROWS OF THIS SEAT. 1 by the template 'for every input the law returns true; each argument reads behind the call as it read before'; 0 by the template 'total and deterministic' (their statements: YtkkhfhbmcdpboaaFmtTotals.lean).
  GIVEN WITH THE SEED: the statements are not yours to turn. If you find one false, say at which input.
  Laid BY PROGRAM, IN A SANDBOX (cutbox-rows.mjs): the forced cells as the released guide's own fill.sh prints them over the translation d58035c3b4887f4a… (all of the seat's roots in one cut). By AI agents, Wed Nov 11 2026. No macro, syntax, notation, axiom, sorry.
-/
import Derived.Test.YtkkhfhbmcdpboaaFmtChecked
import GoSem.Claim
import GoSem.ClaimJoined
import GoSem.ClaimMapViews
import Derived.JoinedTies
import Derived.KernelRfl
namespace Go.Proofs.YtkkhfhbmcdpboaaFmt
/- THE CELL 'sum', in the pinned program and in every row, IS THE sha256 OF THE DUMP (.gsa) THAT YtkkhfhbmcdpboaaFmtProg.lean LOADS. Nothing in Lean hashes anything: it is a label: what it is worth is what the hold of that sum in a sandbox is worth. -/
noncomputable def Tryf.pinned : Pinned := { name := "ytkkhfhbmcdpboaafmt", sum := "d58035c3b4887f4ab39b9092d2f4730a3c3889a63715ad121f6c37b37b12ab87", checked := Tryf.checked }
namespace Rows
def none {H : Type} : Left H := { results := [], args := [] }

/-- 'n011_255.FnFallbackTopLevelDependencyShadowsPool': WHATEVER THE INPUT: true; the input reads as it did. -/
def fnFallbackTopLevelDependencyShadowsPoolSpec : ChangeSpec := { name := "fnFallbackTopLevelDependencyShadowsPool", fn := fun _ => fun
  | [d1, d2, d3, d4, d5] => { results := [.lit (.bool true)], args := [d1, d2, d3, d4, d5] }
  | _ => none }
def fnFallbackTopLevelDependencyShadowsPoolRow : OpenClaim := { program := "ytkkhfhbmcdpboaafmt", sum := "d58035c3b4887f4ab39b9092d2f4730a3c3889a63715ad121f6c37b37b12ab87", func := "github.com/evanw/esbuild/n011_255.FnFallbackTopLevelDependencyShadowsPool", spec := "fnFallbackTopLevelDependencyShadowsPool", stops := ["fmt.Sprintf"], inPlace := ["fmt.Sprintf"], plainKeys := false, apart := false }
/-- NO THEOREM (fmt's text is open here; it may be false): for the released tool's asking of the row's closed facts alone. THE STATEMENT IS 'FnFallbackTopLevelDependencyShadowsPoolToldSaid' (YtkkhfhbmcdpboaaFmtCards.lean). -/
def FnFallbackTopLevelDependencyShadowsPoolFormAsk : Prop := fnFallbackTopLevelDependencyShadowsPoolRow.holds Tryf.pinned (OpenSpec.ofChange fnFallbackTopLevelDependencyShadowsPoolSpec)

/-- ITS FALSE NEIGHBOUR: 'it returns false'. Refute it at one input. -/
def fnFallbackTopLevelDependencyShadowsPoolWrong : ChangeSpec := { name := "fnFallbackTopLevelDependencyShadowsPool", fn := fun _ => fun
  | [d1, d2, d3, d4, d5] => { results := [.lit (.bool false)], args := [d1, d2, d3, d4, d5] }
  | _ => none }
def FnFallbackTopLevelDependencyShadowsPoolWrongFormAsk : Prop := fnFallbackTopLevelDependencyShadowsPoolRow.holds Tryf.pinned (OpenSpec.ofChange fnFallbackTopLevelDependencyShadowsPoolWrong)

end Rows
end Go.Proofs.YtkkhfhbmcdpboaaFmt
