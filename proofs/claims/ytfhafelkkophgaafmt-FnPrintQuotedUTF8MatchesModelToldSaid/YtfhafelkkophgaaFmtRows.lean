/-
  No cell of these rows narrows 'for every input' (looked for: loops, veiled, ifaces, maps, wideKeys, modest, calm, conditions, laid).
  DERIVED. THE GIVEN ROWS OF THIS SEAT. 3 by the template 'for every input the law returns true; each argument reads behind the call as it read before'; 0 by the template 'total and deterministic' (their statements: YtfhafelkkophgaaFmtTotals.lean).
  GIVEN WITH THE SEED: the statements are not yours to turn. If you find one false, say at which input.
  Laid BY PROGRAM, IN A SANDBOX (cutbox-rows.mjs): the forced cells as the released guide's own fill.sh prints them over the translation 80e61c5f3dd0a509… (all of the seat's roots in one cut). By AI agents, Wed Nov 11 2026. No macro, syntax, notation, axiom, sorry.
-/
import Derived.Test.YtfhafelkkophgaaFmtChecked
import GoSem.Claim
import GoSem.ClaimJoined
import GoSem.ClaimMapViews
import Derived.JoinedTies
import Derived.KernelRfl
namespace Go.Proofs.YtfhafelkkophgaaFmt
/- THE CELL 'sum', in the pinned program and in every row, IS THE sha256 OF THE DUMP (.gsa) THAT YtfhafelkkophgaaFmtProg.lean LOADS. Nothing in Lean hashes anything: it is a label: what it is worth is what the hold of that sum in a sandbox is worth. -/
noncomputable def Tryf.pinned : Pinned := { name := "ytfhafelkkophgaafmt", sum := "80e61c5f3dd0a5099e40a16ee2a7963ecdb30e0cc9abdee50a06cc6a01ba85a2", checked := Tryf.checked }
namespace Rows
def none {H : Type} : Left H := { results := [], args := [] }

/-- 'n011_220.FnQuotedUTF16PicksCheapestQuote': WHATEVER THE INPUT: true; the input reads as it did. -/
def fnQuotedUTF16PicksCheapestQuoteSpec : ChangeSpec := { name := "fnQuotedUTF16PicksCheapestQuote", fn := fun _ => fun
  | [d1, d2, d3, d4] => { results := [.lit (.bool true)], args := [d1, d2, d3, d4] }
  | _ => none }
def fnQuotedUTF16PicksCheapestQuoteRow : OpenClaim := { program := "ytfhafelkkophgaafmt", sum := "80e61c5f3dd0a5099e40a16ee2a7963ecdb30e0cc9abdee50a06cc6a01ba85a2", func := "github.com/evanw/esbuild/n011_220.FnQuotedUTF16PicksCheapestQuote", spec := "fnQuotedUTF16PicksCheapestQuote", stops := ["fmt.Sprintf"], inPlace := ["fmt.Sprintf"], plainKeys := false, apart := false }
/-- NO THEOREM (fmt's text is open here; it may be false): for the released tool's asking of the row's closed facts alone. THE STATEMENT IS 'FnQuotedUTF16PicksCheapestQuoteToldSaid' (YtfhafelkkophgaaFmtCards.lean). -/
def FnQuotedUTF16PicksCheapestQuoteFormAsk : Prop := fnQuotedUTF16PicksCheapestQuoteRow.holds Tryf.pinned (OpenSpec.ofChange fnQuotedUTF16PicksCheapestQuoteSpec)

/-- ITS FALSE NEIGHBOUR: 'it returns false'. Refute it at one input. -/
def fnQuotedUTF16PicksCheapestQuoteWrong : ChangeSpec := { name := "fnQuotedUTF16PicksCheapestQuote", fn := fun _ => fun
  | [d1, d2, d3, d4] => { results := [.lit (.bool false)], args := [d1, d2, d3, d4] }
  | _ => none }
def FnQuotedUTF16PicksCheapestQuoteWrongFormAsk : Prop := fnQuotedUTF16PicksCheapestQuoteRow.holds Tryf.pinned (OpenSpec.ofChange fnQuotedUTF16PicksCheapestQuoteWrong)

/-- 'n011_297.FnUnquotedUTF16StaysInsideItsQuotes': WHATEVER THE INPUT: true; the input reads as it did. -/
def fnUnquotedUTF16StaysInsideItsQuotesSpec : ChangeSpec := { name := "fnUnquotedUTF16StaysInsideItsQuotes", fn := fun _ => fun
  | [d1, d2, d3, d4, d5, d6, d7] => { results := [.lit (.bool true)], args := [d1, d2, d3, d4, d5, d6, d7] }
  | _ => none }
def fnUnquotedUTF16StaysInsideItsQuotesRow : OpenClaim := { program := "ytfhafelkkophgaafmt", sum := "80e61c5f3dd0a5099e40a16ee2a7963ecdb30e0cc9abdee50a06cc6a01ba85a2", func := "github.com/evanw/esbuild/n011_297.FnUnquotedUTF16StaysInsideItsQuotes", spec := "fnUnquotedUTF16StaysInsideItsQuotes", stops := ["fmt.Sprintf"], inPlace := ["fmt.Sprintf"], plainKeys := false, apart := false }
/-- NO THEOREM (fmt's text is open here; it may be false): for the released tool's asking of the row's closed facts alone. THE STATEMENT IS 'FnUnquotedUTF16StaysInsideItsQuotesToldSaid' (YtfhafelkkophgaaFmtCards.lean). -/
def FnUnquotedUTF16StaysInsideItsQuotesFormAsk : Prop := fnUnquotedUTF16StaysInsideItsQuotesRow.holds Tryf.pinned (OpenSpec.ofChange fnUnquotedUTF16StaysInsideItsQuotesSpec)

/-- ITS FALSE NEIGHBOUR: 'it returns false'. Refute it at one input. -/
def fnUnquotedUTF16StaysInsideItsQuotesWrong : ChangeSpec := { name := "fnUnquotedUTF16StaysInsideItsQuotes", fn := fun _ => fun
  | [d1, d2, d3, d4, d5, d6, d7] => { results := [.lit (.bool false)], args := [d1, d2, d3, d4, d5, d6, d7] }
  | _ => none }
def FnUnquotedUTF16StaysInsideItsQuotesWrongFormAsk : Prop := fnUnquotedUTF16StaysInsideItsQuotesRow.holds Tryf.pinned (OpenSpec.ofChange fnUnquotedUTF16StaysInsideItsQuotesWrong)

/-- 'n011_144.FnPrintQuotedUTF8MatchesModel': WHATEVER THE INPUT: true; the input reads as it did. -/
def fnPrintQuotedUTF8MatchesModelSpec : ChangeSpec := { name := "fnPrintQuotedUTF8MatchesModel", fn := fun _ => fun
  | [d1, d2, d3, d4] => { results := [.lit (.bool true)], args := [d1, d2, d3, d4] }
  | _ => none }
def fnPrintQuotedUTF8MatchesModelRow : OpenClaim := { program := "ytfhafelkkophgaafmt", sum := "80e61c5f3dd0a5099e40a16ee2a7963ecdb30e0cc9abdee50a06cc6a01ba85a2", func := "github.com/evanw/esbuild/n011_144.FnPrintQuotedUTF8MatchesModel", spec := "fnPrintQuotedUTF8MatchesModel", stops := ["fmt.Sprintf"], inPlace := ["fmt.Sprintf"], plainKeys := false, apart := false }
/-- NO THEOREM (fmt's text is open here; it may be false): for the released tool's asking of the row's closed facts alone. THE STATEMENT IS 'FnPrintQuotedUTF8MatchesModelToldSaid' (YtfhafelkkophgaaFmtCards.lean). -/
def FnPrintQuotedUTF8MatchesModelFormAsk : Prop := fnPrintQuotedUTF8MatchesModelRow.holds Tryf.pinned (OpenSpec.ofChange fnPrintQuotedUTF8MatchesModelSpec)

/-- ITS FALSE NEIGHBOUR: 'it returns false'. Refute it at one input. -/
def fnPrintQuotedUTF8MatchesModelWrong : ChangeSpec := { name := "fnPrintQuotedUTF8MatchesModel", fn := fun _ => fun
  | [d1, d2, d3, d4] => { results := [.lit (.bool false)], args := [d1, d2, d3, d4] }
  | _ => none }
def FnPrintQuotedUTF8MatchesModelWrongFormAsk : Prop := fnPrintQuotedUTF8MatchesModelRow.holds Tryf.pinned (OpenSpec.ofChange fnPrintQuotedUTF8MatchesModelWrong)

end Rows
end Go.Proofs.YtfhafelkkophgaaFmt
