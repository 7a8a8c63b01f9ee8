/-
  DERIVED. GIVEN WITH THE SEED: THE CARDS: each row of YtljkjogjnbconaaDoorRows.lean that lists a variable, with what it lists TIED to the program's text (the seventh form; the later family's looks); each row that meets fmt, with fmt's text TOLD by the authors' own Lean function (tested against real Go, not proved from fmt's source: count such statements apart). THE CARD IS WHAT COUNTS. Prove the row's statement (the work); the ties are given (YtljkjogjnbconaaDoorTie.lean); close each card by the builder's one call (the guide's Derived/Test/ToyasCard.lean, 'card_holds'). Laid BY PROGRAM, IN A SANDBOX (cutbox-door.mjs). By AI agents, Wed Nov 11 2026. No macro, syntax, notation, axiom, sorry.
-/
import Derived.Test.YtljkjogjnbconaaDoorRows
import GoSem.ClaimSeven
namespace Go.Proofs.YtljkjogjnbconaaDoor
namespace Rows

/-- THE TIED CARD OF 'n011_236.FnFollowAllSymbolsLeavesNothingToWrite'. -/
def fnFollowAllSymbolsLeavesNothingToWriteCard : Claim7 := { stood := { row := fnFollowAllSymbolsLeavesNothingToWriteRow, standIns := [], harness := (true, "f2ffdb14fd23fd0ab4f18750b411f141710a7744d61968e79c5cef3c36151c8f"), looks := false }, kinds := [], alts := [], laidByText := true, laidKinds := [.data], laidTests := true, laidLooks := .later }
def FnFollowAllSymbolsLeavesNothingToWriteCardSaid : Prop := Claim7.holds Tryd.pinned (.plain (OpenSpec.ofChange fnFollowAllSymbolsLeavesNothingToWriteSpec)) fnFollowAllSymbolsLeavesNothingToWriteCard

/-- THE SECOND FORM's CARD OF 'n011_236.FnFollowAllSymbolsLeavesNothingToWrite'. -/
def fnFollowAllSymbolsLeavesNothingToWriteUptoCard : Claim7 := { stood := { row := fnFollowAllSymbolsLeavesNothingToWriteUptoRow, standIns := [], harness := (true, "f2ffdb14fd23fd0ab4f18750b411f141710a7744d61968e79c5cef3c36151c8f"), looks := false }, kinds := [], alts := [], laidByText := true, laidKinds := [.data], laidTests := true, laidLooks := .later }
def FnFollowAllSymbolsLeavesNothingToWriteUptoCardSaid : Prop := Claim7.holds Tryd.pinned (.plain (OpenSpec.upto fnFollowAllSymbolsLeavesNothingToWriteSpec)) fnFollowAllSymbolsLeavesNothingToWriteUptoCard
end Rows
end Go.Proofs.YtljkjogjnbconaaDoor
