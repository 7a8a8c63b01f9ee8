/-
  DERIVED. GIVEN WITH THE SEED: THE CARDS: each row of YtholgianfiolnaaDoorRows.lean that lists a variable, with what it lists TIED to the program's text (the seventh form; the later family's looks); each row that meets fmt, with fmt's text TOLD by the authors' own Lean function (tested against real Go, not proved from fmt's source: count such statements apart). THE CARD IS WHAT COUNTS. Prove the row's statement (the work); the ties are given (YtholgianfiolnaaDoorTie.lean); close each card by the builder's one call (the guide's Derived/Test/ToyasCard.lean, 'card_holds'). Laid BY PROGRAM, IN A SANDBOX (cutbox-door.mjs). By AI agents, Wed Nov 11 2026. No macro, syntax, notation, axiom, sorry.
-/
import Derived.Test.YtholgianfiolnaaDoorRows
import GoSem.ClaimSeven
namespace Go.Proofs.YtholgianfiolnaaDoor
namespace Rows

/-- THE TIED CARD OF 'n011_301.FnMangledPropNameStableAlongAliasChain'. -/
def fnMangledPropNameStableAlongAliasChainCard : Claim7 := { stood := { row := fnMangledPropNameStableAlongAliasChainRow, standIns := [], harness := (true, "be0d18f1a77b609c7be61094a63c729a0d97c4cf57afad008eeddf9cfc20d3b1"), looks := false }, kinds := [], alts := [], laidByText := true, laidKinds := [.data], laidTests := true, laidLooks := .later }
def FnMangledPropNameStableAlongAliasChainCardSaid : Prop := Claim7.holds Tryd.pinned (.plain (OpenSpec.ofChange fnMangledPropNameStableAlongAliasChainSpec)) fnMangledPropNameStableAlongAliasChainCard

/-- THE SECOND FORM's CARD OF 'n011_301.FnMangledPropNameStableAlongAliasChain'. -/
def fnMangledPropNameStableAlongAliasChainUptoCard : Claim7 := { stood := { row := fnMangledPropNameStableAlongAliasChainUptoRow, standIns := [], harness := (true, "be0d18f1a77b609c7be61094a63c729a0d97c4cf57afad008eeddf9cfc20d3b1"), looks := false }, kinds := [], alts := [], laidByText := true, laidKinds := [.data], laidTests := true, laidLooks := .later }
def FnMangledPropNameStableAlongAliasChainUptoCardSaid : Prop := Claim7.holds Tryd.pinned (.plain (OpenSpec.upto fnMangledPropNameStableAlongAliasChainSpec)) fnMangledPropNameStableAlongAliasChainUptoCard
end Rows
end Go.Proofs.YtholgianfiolnaaDoor
