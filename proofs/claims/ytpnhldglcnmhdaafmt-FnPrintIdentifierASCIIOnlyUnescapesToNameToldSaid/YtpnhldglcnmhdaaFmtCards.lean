/-
  DERIVED. GIVEN WITH THE SEED: THE CARDS: each row of YtpnhldglcnmhdaaFmtRows.lean that lists a variable, with what it lists TIED to the program's text (the seventh form; the later family's looks); each row that meets fmt, with fmt's text TOLD by the authors' own Lean function (tested against real Go, not proved from fmt's source: count such statements apart). THE CARD IS WHAT COUNTS. Prove the row's statement (the work); the ties are given (YtpnhldglcnmhdaaFmtTie.lean); close each card by the builder's one call (the guide's Derived/Test/ToyasCard.lean, 'card_holds'). Laid BY PROGRAM, IN A SANDBOX (cutbox-door.mjs). By AI agents, Wed Nov 11 2026. No macro, syntax, notation, axiom, sorry.
-/
import Derived.Test.YtpnhldglcnmhdaaFmtRows
import GoSem.ClaimSeven
namespace Go.Proofs.YtpnhldglcnmhdaaFmt
namespace Rows

/-- THE TOLD CARD OF 'n011_208.FnPrintIdentifierASCIIOnlyUnescapesToName'. -/
def fnPrintIdentifierASCIIOnlyUnescapesToNameCard : Claim7 := { stood := { row := fnPrintIdentifierASCIIOnlyUnescapesToNameRow, standIns := [], harness := (true, "d894967e79d436a28e66653eb5a657c2b5d64163dcfb650e531d0975433854a8"), looks := false }, told := true, goes := false }
def FnPrintIdentifierASCIIOnlyUnescapesToNameToldSaid : Prop := Claim7.holds Tryf.pinned (.plain (OpenSpec.ofChange fnPrintIdentifierASCIIOnlyUnescapesToNameSpec)) fnPrintIdentifierASCIIOnlyUnescapesToNameCard
/-- ITS FALSE NEIGHBOUR. Refute it at one input. -/
def FnPrintIdentifierASCIIOnlyUnescapesToNameToldWrongFalsely : Prop := Claim7.holds Tryf.pinned (.plain (OpenSpec.ofChange fnPrintIdentifierASCIIOnlyUnescapesToNameWrong)) fnPrintIdentifierASCIIOnlyUnescapesToNameCard
end Rows
end Go.Proofs.YtpnhldglcnmhdaaFmt
