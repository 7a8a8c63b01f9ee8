/-
  DERIVED. GIVEN WITH THE SEED: THE CARDS: each row of YtghhhnlijolblaaDoorRows.lean that lists a variable, with what it lists TIED to the program's text (the seventh form; the later family's looks); each row that meets fmt, with fmt's text TOLD by the authors' own Lean function (tested against real Go, not proved from fmt's source: count such statements apart). THE CARD IS WHAT COUNTS. Prove the row's statement (the work); the ties are given (YtghhhnlijolblaaDoorTie.lean); close each card by the builder's one call (the guide's Derived/Test/ToyasCard.lean, 'card_holds'). Laid BY PROGRAM, IN A SANDBOX (cutbox-door.mjs). By AI agents, Wed Nov 11 2026. No macro, syntax, notation, axiom, sorry.
-/
import Derived.Test.YtghhhnlijolblaaDoorRows
import GoSem.ClaimSeven
namespace Go.Proofs.YtghhhnlijolblaaDoor
namespace Rows

/-- THE TIED CARD OF 'n011_135.FnMoveBeforeExportIgnoresTextAfterIndex'. -/
def fnMoveBeforeExportIgnoresTextAfterIndexCard : Claim7 := { stood := { row := fnMoveBeforeExportIgnoresTextAfterIndexRow, standIns := [], harness := (true, "5f8cebe1d1675af7b2d31303ad5513ed546e43931c8cb67c6fb7fc1b063fa93f"), looks := false }, kinds := [], alts := [], laidByText := true, laidKinds := [.data, .pinned], laidTests := true, laidLooks := .later }
def FnMoveBeforeExportIgnoresTextAfterIndexCardSaid : Prop := Claim7.holds Tryd.pinned (.plain (OpenSpec.ofChange fnMoveBeforeExportIgnoresTextAfterIndexSpec)) fnMoveBeforeExportIgnoresTextAfterIndexCard

/-- THE SECOND FORM's CARD OF 'n011_135.FnMoveBeforeExportIgnoresTextAfterIndex'. -/
def fnMoveBeforeExportIgnoresTextAfterIndexUptoCard : Claim7 := { stood := { row := fnMoveBeforeExportIgnoresTextAfterIndexUptoRow, standIns := [], harness := (true, "5f8cebe1d1675af7b2d31303ad5513ed546e43931c8cb67c6fb7fc1b063fa93f"), looks := false }, kinds := [], alts := [], laidByText := true, laidKinds := [.data, .pinned], laidTests := true, laidLooks := .later }
def FnMoveBeforeExportIgnoresTextAfterIndexUptoCardSaid : Prop := Claim7.holds Tryd.pinned (.plain (OpenSpec.upto fnMoveBeforeExportIgnoresTextAfterIndexSpec)) fnMoveBeforeExportIgnoresTextAfterIndexUptoCard
end Rows
end Go.Proofs.YtghhhnlijolblaaDoor
