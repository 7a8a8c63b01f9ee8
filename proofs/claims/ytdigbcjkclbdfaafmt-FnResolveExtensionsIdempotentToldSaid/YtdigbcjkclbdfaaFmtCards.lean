/-
  DERIVED. GIVEN WITH THE SEED: THE CARDS: each row of YtdigbcjkclbdfaaFmtRows.lean that lists a variable, with what it lists TIED to the program's text (the seventh form; the later family's looks); each row that meets fmt, with fmt's text TOLD by the authors' own Lean function (tested against real Go, not proved from fmt's source: count such statements apart). THE CARD IS WHAT COUNTS. Prove the row's statement (the work); the ties are given (YtdigbcjkclbdfaaFmtTie.lean); close each card by the builder's one call (the guide's Derived/Test/ToyasCard.lean, 'card_holds'). Laid BY PROGRAM, IN A SANDBOX (cutbox-door.mjs). By AI agents, Wed Nov 11 2026. No macro, syntax, notation, axiom, sorry.
-/
import Derived.Test.YtdigbcjkclbdfaaFmtRows
import GoSem.ClaimSeven
namespace Go.Proofs.YtdigbcjkclbdfaaFmt
namespace Rows

/-- THE TOLD AND TIED CARD OF 'n011_243.FnResolveExtensionsAgreesWithIsValidExtension'. -/
def fnResolveExtensionsAgreesWithIsValidExtensionCard : Claim7 := { stood := { row := fnResolveExtensionsAgreesWithIsValidExtensionRow, standIns := [], harness := (true, "9cc7fe041787c53d1551cc9944bd3a5ccdec8105a972e9f941c24caad64f7f49"), looks := false }, told := true, laidByText := true, laidKinds := [.data, .pinned], laidTests := true, laidLooks := .later, goes := false }
def FnResolveExtensionsAgreesWithIsValidExtensionToldSaid : Prop := Claim7.holds Tryf.pinned (.plain (OpenSpec.ofChange fnResolveExtensionsAgreesWithIsValidExtensionSpec)) fnResolveExtensionsAgreesWithIsValidExtensionCard
/-- ITS FALSE NEIGHBOUR. Refute it at one input. -/
def FnResolveExtensionsAgreesWithIsValidExtensionToldWrongFalsely : Prop := Claim7.holds Tryf.pinned (.plain (OpenSpec.ofChange fnResolveExtensionsAgreesWithIsValidExtensionWrong)) fnResolveExtensionsAgreesWithIsValidExtensionCard

/-- THE TOLD AND TIED CARD OF 'n011_33.FnResolveExtensionsIdempotent'. -/
def fnResolveExtensionsIdempotentCard : Claim7 := { stood := { row := fnResolveExtensionsIdempotentRow, standIns := [], harness := (true, "9cc7fe041787c53d1551cc9944bd3a5ccdec8105a972e9f941c24caad64f7f49"), looks := false }, told := true, laidByText := true, laidKinds := [.data, .pinned], laidTests := true, laidLooks := .later, goes := false }
def FnResolveExtensionsIdempotentToldSaid : Prop := Claim7.holds Tryf.pinned (.plain (OpenSpec.ofChange fnResolveExtensionsIdempotentSpec)) fnResolveExtensionsIdempotentCard
/-- ITS FALSE NEIGHBOUR. Refute it at one input. -/
def FnResolveExtensionsIdempotentToldWrongFalsely : Prop := Claim7.holds Tryf.pinned (.plain (OpenSpec.ofChange fnResolveExtensionsIdempotentWrong)) fnResolveExtensionsIdempotentCard
end Rows
end Go.Proofs.YtdigbcjkclbdfaaFmt
