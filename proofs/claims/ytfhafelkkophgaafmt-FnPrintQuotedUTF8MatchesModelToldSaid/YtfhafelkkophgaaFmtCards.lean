/-
  DERIVED. GIVEN WITH THE SEED: THE CARDS: each row of YtfhafelkkophgaaFmtRows.lean that lists a variable, with what it lists TIED to the program's text (the seventh form; the later family's looks); each row that meets fmt, with fmt's text TOLD by the authors' own Lean function (tested against real Go, not proved from fmt's source: count such statements apart). THE CARD IS WHAT COUNTS. Prove the row's statement (the work); the ties are given (YtfhafelkkophgaaFmtTie.lean); close each card by the builder's one call (the guide's Derived/Test/ToyasCard.lean, 'card_holds'). Laid BY PROGRAM, IN A SANDBOX (cutbox-door.mjs). By AI agents, Wed Nov 11 2026. No macro, syntax, notation, axiom, sorry.
-/
import Derived.Test.YtfhafelkkophgaaFmtRows
import GoSem.ClaimSeven
namespace Go.Proofs.YtfhafelkkophgaaFmt
namespace Rows

/-- THE TOLD CARD OF 'n011_220.FnQuotedUTF16PicksCheapestQuote'. -/
def fnQuotedUTF16PicksCheapestQuoteCard : Claim7 := { stood := { row := fnQuotedUTF16PicksCheapestQuoteRow, standIns := [], harness := (true, "84558036ed7ac441edd856dbc8cbeec1c18467dadf6ba1cbf2a39668f648034b"), looks := false }, told := true, goes := false }
def FnQuotedUTF16PicksCheapestQuoteToldSaid : Prop := Claim7.holds Tryf.pinned (.plain (OpenSpec.ofChange fnQuotedUTF16PicksCheapestQuoteSpec)) fnQuotedUTF16PicksCheapestQuoteCard
/-- ITS FALSE NEIGHBOUR. Refute it at one input. -/
def FnQuotedUTF16PicksCheapestQuoteToldWrongFalsely : Prop := Claim7.holds Tryf.pinned (.plain (OpenSpec.ofChange fnQuotedUTF16PicksCheapestQuoteWrong)) fnQuotedUTF16PicksCheapestQuoteCard

/-- THE TOLD CARD OF 'n011_297.FnUnquotedUTF16StaysInsideItsQuotes'. -/
def fnUnquotedUTF16StaysInsideItsQuotesCard : Claim7 := { stood := { row := fnUnquotedUTF16StaysInsideItsQuotesRow, standIns := [], harness := (true, "84558036ed7ac441edd856dbc8cbeec1c18467dadf6ba1cbf2a39668f648034b"), looks := false }, told := true, goes := false }
def FnUnquotedUTF16StaysInsideItsQuotesToldSaid : Prop := Claim7.holds Tryf.pinned (.plain (OpenSpec.ofChange fnUnquotedUTF16StaysInsideItsQuotesSpec)) fnUnquotedUTF16StaysInsideItsQuotesCard
/-- ITS FALSE NEIGHBOUR. Refute it at one input. -/
def FnUnquotedUTF16StaysInsideItsQuotesToldWrongFalsely : Prop := Claim7.holds Tryf.pinned (.plain (OpenSpec.ofChange fnUnquotedUTF16StaysInsideItsQuotesWrong)) fnUnquotedUTF16StaysInsideItsQuotesCard

/-- THE TOLD CARD OF 'n011_144.FnPrintQuotedUTF8MatchesModel'. -/
def fnPrintQuotedUTF8MatchesModelCard : Claim7 := { stood := { row := fnPrintQuotedUTF8MatchesModelRow, standIns := [], harness := (true, "84558036ed7ac441edd856dbc8cbeec1c18467dadf6ba1cbf2a39668f648034b"), looks := false }, told := true, goes := false }
def FnPrintQuotedUTF8MatchesModelToldSaid : Prop := Claim7.holds Tryf.pinned (.plain (OpenSpec.ofChange fnPrintQuotedUTF8MatchesModelSpec)) fnPrintQuotedUTF8MatchesModelCard
/-- ITS FALSE NEIGHBOUR. Refute it at one input. -/
def FnPrintQuotedUTF8MatchesModelToldWrongFalsely : Prop := Claim7.holds Tryf.pinned (.plain (OpenSpec.ofChange fnPrintQuotedUTF8MatchesModelWrong)) fnPrintQuotedUTF8MatchesModelCard
end Rows
end Go.Proofs.YtfhafelkkophgaaFmt
