/-
  DERIVED. GIVEN WITH THE SEED: THE CARDS: each row of YtkkhfhbmcdpboaaFmtRows.lean that lists a variable, with what it lists TIED to the program's text (the seventh form; the later family's looks); each row that meets fmt, with fmt's text TOLD by the authors' own Lean function (tested against real Go, not proved from fmt's source: count such statements apart). THE CARD IS WHAT COUNTS. Prove the row's statement (the work); the ties are given (YtkkhfhbmcdpboaaFmtTie.lean); close each card by the builder's one call (the guide's Derived/Test/ToyasCard.lean, 'card_holds'). Laid BY PROGRAM, IN A SANDBOX (cutbox-door.mjs). By AI agents, Wed Nov 11 2026. No macro, syntax, notation, axiom, sorry.
-/
import Derived.Test.YtkkhfhbmcdpboaaFmtRows
import GoSem.ClaimSeven
namespace Go.Proofs.YtkkhfhbmcdpboaaFmt
namespace Rows

/-- THE TOLD CARD OF 'n011_255.FnFallbackTopLevelDependencyShadowsPool'. -/
def fnFallbackTopLevelDependencyShadowsPoolCard : Claim7 := { stood := { row := fnFallbackTopLevelDependencyShadowsPoolRow, standIns := [], harness := (true, "f10c74e423b097d7d6fd3c09b5cad28f41fb1e832f9a11f21847bb357e776612"), looks := false }, told := true, goes := false }
def FnFallbackTopLevelDependencyShadowsPoolToldSaid : Prop := Claim7.holds Tryf.pinned (.plain (OpenSpec.ofChange fnFallbackTopLevelDependencyShadowsPoolSpec)) fnFallbackTopLevelDependencyShadowsPoolCard
/-- ITS FALSE NEIGHBOUR. Refute it at one input. -/
def FnFallbackTopLevelDependencyShadowsPoolToldWrongFalsely : Prop := Claim7.holds Tryf.pinned (.plain (OpenSpec.ofChange fnFallbackTopLevelDependencyShadowsPoolWrong)) fnFallbackTopLevelDependencyShadowsPoolCard
end Rows
end Go.Proofs.YtkkhfhbmcdpboaaFmt
