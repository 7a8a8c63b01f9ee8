/-
  DERIVED. GIVEN WITH THE SEED: THE CARDS: each row of YtkkhfhbmcdpboabRRFmtRows.lean that lists a variable, with what it lists TIED to the program's text (the seventh form; the later family's looks); each row that meets fmt, with fmt's text TOLD by the authors' own Lean function (tested against real Go, not proved from fmt's source: count such statements apart). THE CARD IS WHAT COUNTS. Prove the row's statement (the work); the ties are given (YtkkhfhbmcdpboabRRFmtTie.lean); close each card by the builder's one call (the guide's Derived/Test/ToyasCard.lean, 'card_holds'). Laid BY PROGRAM, IN A SANDBOX (cutbox-door.mjs). By AI agents, Wed Nov 11 2026. No macro, syntax, notation, axiom, sorry.
-/
import Derived.Test.YtkkhfhbmcdpboabRRFmtRows
import GoSem.ClaimSeven
namespace Go.Proofs.YtkkhfhbmcdpboabRRFmt
namespace Rows

/-- THE TOLD CARD OF 'n011_255.FnQuoteOrNullInjectiveAndFramed'. -/
def fnQuoteOrNullInjectiveAndFramedCard : Claim7 := { stood := { row := fnQuoteOrNullInjectiveAndFramedRow, standIns := [], harness := (true, "cdbb806fc290206c28f3aa6424c1ec08f1fec4eef410be3fa076d9be76766be8"), looks := false }, told := true, goes := false }
def FnQuoteOrNullInjectiveAndFramedToldSaid : Prop := Claim7.holds Tryf.pinned (.plain (OpenSpec.ofChange fnQuoteOrNullInjectiveAndFramedSpec)) fnQuoteOrNullInjectiveAndFramedCard
/-- ITS FALSE NEIGHBOUR. Refute it at one input. -/
def FnQuoteOrNullInjectiveAndFramedToldWrongFalsely : Prop := Claim7.holds Tryf.pinned (.plain (OpenSpec.ofChange fnQuoteOrNullInjectiveAndFramedWrong)) fnQuoteOrNullInjectiveAndFramedCard
end Rows
end Go.Proofs.YtkkhfhbmcdpboabRRFmt
