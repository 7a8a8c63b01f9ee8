/-
  DERIVED. GIVEN WITH THE SEED: THE CARDS: each row of YtngflfjgappgmaaFmtRows.lean that lists a variable, with what it lists TIED to the program's text (the seventh form; the later family's looks); each row that meets fmt, with fmt's text TOLD by the authors' own Lean function (tested against real Go, not proved from fmt's source: count such statements apart). THE CARD IS WHAT COUNTS. Prove the row's statement (the work); the ties are given (YtngflfjgappgmaaFmtTie.lean); close each card by the builder's one call (the guide's Derived/Test/ToyasCard.lean, 'card_holds'). Laid BY PROGRAM, IN A SANDBOX (cutbox-door.mjs). By AI agents, Wed Nov 11 2026. No macro, syntax, notation, axiom, sorry.
-/
import Derived.Test.YtngflfjgappgmaaFmtRows
import GoSem.ClaimSeven
namespace Go.Proofs.YtngflfjgappgmaaFmt
namespace Rows

/-- THE TOLD CARD OF 'n011_284.FnIsExternalOrderFreeAndMonotone'. -/
def fnIsExternalOrderFreeAndMonotoneCard : Claim7 := { stood := { row := fnIsExternalOrderFreeAndMonotoneRow, standIns := [], harness := (true, "735eacd18119318b954289e7d9a09c01cd570d5240b413af4fb459f286c4a1f4"), looks := false }, told := true, goes := false }
def FnIsExternalOrderFreeAndMonotoneToldSaid : Prop := Claim7.holds Tryf.pinned (.plain (OpenSpec.ofChange fnIsExternalOrderFreeAndMonotoneSpec)) fnIsExternalOrderFreeAndMonotoneCard
/-- ITS FALSE NEIGHBOUR. Refute it at one input. -/
def FnIsExternalOrderFreeAndMonotoneToldWrongFalsely : Prop := Claim7.holds Tryf.pinned (.plain (OpenSpec.ofChange fnIsExternalOrderFreeAndMonotoneWrong)) fnIsExternalOrderFreeAndMonotoneCard
end Rows
end Go.Proofs.YtngflfjgappgmaaFmt
