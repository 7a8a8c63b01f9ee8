/-
  DERIVED. GIVEN WITH THE SEED: THE CARDS: each row of YtbjgakgenclopaaDoorRows.lean that lists a variable, with what it lists TIED to the program's text (the seventh form; the later family's looks); each row that meets fmt, with fmt's text TOLD by the authors' own Lean function (tested against real Go, not proved from fmt's source: count such statements apart). THE CARD IS WHAT COUNTS. Prove the row's statement (the work); the ties are given (YtbjgakgenclopaaDoorTie.lean); close each card by the builder's one call (the guide's Derived/Test/ToyasCard.lean, 'card_holds'). Laid BY PROGRAM, IN A SANDBOX (cutbox-door.mjs). By AI agents, Wed Nov 11 2026. No macro, syntax, notation, axiom, sorry.
-/
import Derived.Test.YtbjgakgenclopaaDoorRows
import GoSem.ClaimSeven
namespace Go.Proofs.YtbjgakgenclopaaDoor
namespace Rows

/-- THE TIED CARD OF 'n011_88.FnIsUnboundEvalIdentifierStable'. -/
def fnIsUnboundEvalIdentifierStableCard : Claim7 := { stood := { row := fnIsUnboundEvalIdentifierStableRow, standIns := [], harness := (true, "28371353afd5889bfa6e5715b2a7803cb5d467a3a413a80b6e50679348c3287f"), looks := true }, kinds := [], alts := [], laidByText := true, laidKinds := [.data], laidTests := true, laidLooks := .later }
def FnIsUnboundEvalIdentifierStableCardSaid : Prop := Claim7.holds Tryd.pinned (.plain (OpenSpec.ofChange fnIsUnboundEvalIdentifierStableSpec)) fnIsUnboundEvalIdentifierStableCard

/-- THE SECOND FORM's CARD OF 'n011_88.FnIsUnboundEvalIdentifierStable'. -/
def fnIsUnboundEvalIdentifierStableUptoCard : Claim7 := { stood := { row := fnIsUnboundEvalIdentifierStableUptoRow, standIns := [], harness := (true, "28371353afd5889bfa6e5715b2a7803cb5d467a3a413a80b6e50679348c3287f"), looks := true }, kinds := [], alts := [], laidByText := true, laidKinds := [.data], laidTests := true, laidLooks := .later }
def FnIsUnboundEvalIdentifierStableUptoCardSaid : Prop := Claim7.holds Tryd.pinned (.plain (OpenSpec.upto fnIsUnboundEvalIdentifierStableSpec)) fnIsUnboundEvalIdentifierStableUptoCard
end Rows
end Go.Proofs.YtbjgakgenclopaaDoor
