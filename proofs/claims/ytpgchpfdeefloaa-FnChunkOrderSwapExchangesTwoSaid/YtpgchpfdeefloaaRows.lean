/-
  No cell of these rows narrows 'for every input' (looked for: loops, veiled, ifaces, maps, wideKeys, modest, calm, conditions, laid).
  DERIVED. THE GIVEN ROWS OF THIS SEAT. 4 by the template 'for every input the law returns true; each argument reads behind the call as it read before'; 0 by the template 'total and deterministic' (their statements: YtpgchpfdeefloaaTotals.lean).
  GIVEN WITH THE SEED: the statements are not yours to turn. If you find one false, say at which input.
  Laid BY PROGRAM, IN A SANDBOX (cutbox-rows.mjs): the forced cells as the released guide's own fill.sh prints them over the translation 3dd003b0b0a94316… (all of the seat's roots in one cut). By AI agents, Wed Nov 11 2026. No macro, syntax, notation, axiom, sorry.
-/
import Derived.Test.YtpgchpfdeefloaaChecked
import GoSem.Claim
import GoSem.ClaimJoined
import GoSem.ClaimMapViews
import Derived.JoinedTies
import Derived.KernelRfl
namespace Go.Proofs.Ytpgchpfdeefloaa
/- THE CELL 'sum', in the pinned program and in every row, IS THE sha256 OF THE DUMP (.gsa) THAT YtpgchpfdeefloaaProg.lean LOADS. Nothing in Lean hashes anything: it is a label: what it is worth is what the hold of that sum in a sandbox is worth. -/
noncomputable def Try.pinned : Pinned := { name := "ytpgchpfdeefloaa", sum := "3dd003b0b0a943163af5e1dba873883c7c2e5e6d75fa52c95d409b59bd18ac93", checked := Try.checked }
namespace Rows
def none {H : Type} : Left H := { results := [], args := [] }

/-- 'n011_265.FnSpaceBeforeOperatorSpec': WHATEVER THE INPUT: true; the input reads as it did. -/
def fnSpaceBeforeOperatorSpecSpec : ChangeSpec := { name := "fnSpaceBeforeOperatorSpec", fn := fun _ => fun
  | [d1, d2, d3, d4] => { results := [.lit (.bool true)], args := [d1, d2, d3, d4] }
  | _ => none }
def fnSpaceBeforeOperatorSpecRow : OpenClaim := { program := "ytpgchpfdeefloaa", sum := "3dd003b0b0a943163af5e1dba873883c7c2e5e6d75fa52c95d409b59bd18ac93", func := "github.com/evanw/esbuild/n011_265.FnSpaceBeforeOperatorSpec", spec := "fnSpaceBeforeOperatorSpec", plainKeys := false, apart := false }
def FnSpaceBeforeOperatorSpecSaid : Prop := fnSpaceBeforeOperatorSpecRow.holds Try.pinned (OpenSpec.ofChange fnSpaceBeforeOperatorSpecSpec)

/-- ITS FALSE NEIGHBOUR: 'it returns false'. Refute it at one input. -/
def fnSpaceBeforeOperatorSpecWrong : ChangeSpec := { name := "fnSpaceBeforeOperatorSpec", fn := fun _ => fun
  | [d1, d2, d3, d4] => { results := [.lit (.bool false)], args := [d1, d2, d3, d4] }
  | _ => none }
def FnSpaceBeforeOperatorSpecWrongFalsely : Prop := fnSpaceBeforeOperatorSpecRow.holds Try.pinned (OpenSpec.ofChange fnSpaceBeforeOperatorSpecWrong)

/-- 'n011_144.FnPrintBytesAgreesWithPrint': WHATEVER THE INPUT: true; the input reads as it did. -/
def fnPrintBytesAgreesWithPrintSpec : ChangeSpec := { name := "fnPrintBytesAgreesWithPrint", fn := fun _ => fun
  | [d1, d2] => { results := [.lit (.bool true)], args := [d1, d2] }
  | _ => none }
def fnPrintBytesAgreesWithPrintRow : OpenClaim := { program := "ytpgchpfdeefloaa", sum := "3dd003b0b0a943163af5e1dba873883c7c2e5e6d75fa52c95d409b59bd18ac93", func := "github.com/evanw/esbuild/n011_144.FnPrintBytesAgreesWithPrint", spec := "fnPrintBytesAgreesWithPrint", plainKeys := false, apart := false }
def FnPrintBytesAgreesWithPrintSaid : Prop := fnPrintBytesAgreesWithPrintRow.holds Try.pinned (OpenSpec.ofChange fnPrintBytesAgreesWithPrintSpec)

/-- ITS FALSE NEIGHBOUR: 'it returns false'. Refute it at one input. -/
def fnPrintBytesAgreesWithPrintWrong : ChangeSpec := { name := "fnPrintBytesAgreesWithPrint", fn := fun _ => fun
  | [d1, d2] => { results := [.lit (.bool false)], args := [d1, d2] }
  | _ => none }
def FnPrintBytesAgreesWithPrintWrongFalsely : Prop := fnPrintBytesAgreesWithPrintRow.holds Try.pinned (OpenSpec.ofChange fnPrintBytesAgreesWithPrintWrong)

/-- 'n011_139.FnChunkOrderSwapExchangesTwo': WHATEVER THE INPUT: true; the input reads as it did. -/
def fnChunkOrderSwapExchangesTwoSpec : ChangeSpec := { name := "fnChunkOrderSwapExchangesTwo", fn := fun _ => fun
  | [d1, d2, d3, d4, d5] => { results := [.lit (.bool true)], args := [d1, d2, d3, d4, d5] }
  | _ => none }
def fnChunkOrderSwapExchangesTwoRow : OpenClaim := { program := "ytpgchpfdeefloaa", sum := "3dd003b0b0a943163af5e1dba873883c7c2e5e6d75fa52c95d409b59bd18ac93", func := "github.com/evanw/esbuild/n011_139.FnChunkOrderSwapExchangesTwo", spec := "fnChunkOrderSwapExchangesTwo", plainKeys := false, apart := false }
def FnChunkOrderSwapExchangesTwoSaid : Prop := fnChunkOrderSwapExchangesTwoRow.holds Try.pinned (OpenSpec.ofChange fnChunkOrderSwapExchangesTwoSpec)

/-- ITS FALSE NEIGHBOUR: 'it returns false'. Refute it at one input. -/
def fnChunkOrderSwapExchangesTwoWrong : ChangeSpec := { name := "fnChunkOrderSwapExchangesTwo", fn := fun _ => fun
  | [d1, d2, d3, d4, d5] => { results := [.lit (.bool false)], args := [d1, d2, d3, d4, d5] }
  | _ => none }
def FnChunkOrderSwapExchangesTwoWrongFalsely : Prop := fnChunkOrderSwapExchangesTwoRow.holds Try.pinned (OpenSpec.ofChange fnChunkOrderSwapExchangesTwoWrong)

/-- 'n011_5.FnParseSmallIntOrderMatchesDigits': WHATEVER THE INPUT: true; the input reads as it did. -/
def fnParseSmallIntOrderMatchesDigitsSpec : ChangeSpec := { name := "fnParseSmallIntOrderMatchesDigits", fn := fun _ => fun
  | [d1, d2] => { results := [.lit (.bool true)], args := [d1, d2] }
  | _ => none }
def fnParseSmallIntOrderMatchesDigitsRow : OpenClaim := { program := "ytpgchpfdeefloaa", sum := "3dd003b0b0a943163af5e1dba873883c7c2e5e6d75fa52c95d409b59bd18ac93", func := "github.com/evanw/esbuild/n011_5.FnParseSmallIntOrderMatchesDigits", spec := "fnParseSmallIntOrderMatchesDigits", plainKeys := false, apart := false }
def FnParseSmallIntOrderMatchesDigitsSaid : Prop := fnParseSmallIntOrderMatchesDigitsRow.holds Try.pinned (OpenSpec.ofChange fnParseSmallIntOrderMatchesDigitsSpec)

/-- ITS FALSE NEIGHBOUR: 'it returns false'. Refute it at one input. -/
def fnParseSmallIntOrderMatchesDigitsWrong : ChangeSpec := { name := "fnParseSmallIntOrderMatchesDigits", fn := fun _ => fun
  | [d1, d2] => { results := [.lit (.bool false)], args := [d1, d2] }
  | _ => none }
def FnParseSmallIntOrderMatchesDigitsWrongFalsely : Prop := fnParseSmallIntOrderMatchesDigitsRow.holds Try.pinned (OpenSpec.ofChange fnParseSmallIntOrderMatchesDigitsWrong)

/- THE SECOND FORM. 'bulk': how many values and letters a reading holds, each counted each time it is reached (what is shared counts as often as it is met; a slice's spare places count too). A statement '..UptoSaid' is the law's where the arguments, and the package variables that the reading takes, are together of bulk at most 1048576: NARROWER than '..Said'. Prove '..Said' where nothing that the law and all that it calls make is longer than what came in: it says more and counts as full. Else prove '..UptoSaid'. A law counts once. -/
mutual
def uptoBulk {H : Type} : DataW H → Nat
  | .lit (.string bytes) => bytes.length + 1
  | .lit _ => 1
  | .nil => 1
  | .ptr d => uptoBulk d + 1
  | .slice elems spare => uptoBulkAll elems + uptoBulkAll spare + 1
  | .agg parts => uptoBulkAll parts + 1
  | .iface _ d => uptoBulk d + 1
  | .map entries => uptoBulkEntries entries + 1
  | .held _ => 1
def uptoBulkAll {H : Type} : List (DataW H) → Nat
  | [] => 0
  | d :: r => uptoBulk d + uptoBulkAll r
def uptoBulkEntries {H : Type} : List (Lit × DataW H) → Nat
  | [] => 0
  | x :: r => uptoBulkEntry x + uptoBulkEntries r
def uptoBulkEntry {H : Type} : Lit × DataW H → Nat
  | (.string bytes, d) => bytes.length + uptoBulk d + 1
  | (_, d) => uptoBulk d + 1
 end
def uptoSmall : (H : Type) → List (DataW H) → Bool := fun _ ds => decide (uptoBulkAll ds ≤ 1048576)
def OpenSpec.upto (s : _root_.Go.ChangeSpec) : _root_.Go.OpenSpec := { _root_.Go.OpenSpec.ofChange s with cond := some uptoSmall }

/-- 'n011_265.FnSpaceBeforeOperatorSpec', WHERE WHAT IT READS IS OF BULK AT MOST 1048576: true; the input reads as it did. -/
def fnSpaceBeforeOperatorSpecUptoRow : OpenClaim := { program := "ytpgchpfdeefloaa", sum := "3dd003b0b0a943163af5e1dba873883c7c2e5e6d75fa52c95d409b59bd18ac93", func := "github.com/evanw/esbuild/n011_265.FnSpaceBeforeOperatorSpec", spec := "fnSpaceBeforeOperatorSpec", plainKeys := false, apart := false, narrowed := true }
def FnSpaceBeforeOperatorSpecUptoSaid : Prop := fnSpaceBeforeOperatorSpecUptoRow.holds Try.pinned (OpenSpec.upto fnSpaceBeforeOperatorSpecSpec)

/-- 'n011_144.FnPrintBytesAgreesWithPrint', WHERE WHAT IT READS IS OF BULK AT MOST 1048576: true; the input reads as it did. -/
def fnPrintBytesAgreesWithPrintUptoRow : OpenClaim := { program := "ytpgchpfdeefloaa", sum := "3dd003b0b0a943163af5e1dba873883c7c2e5e6d75fa52c95d409b59bd18ac93", func := "github.com/evanw/esbuild/n011_144.FnPrintBytesAgreesWithPrint", spec := "fnPrintBytesAgreesWithPrint", plainKeys := false, apart := false, narrowed := true }
def FnPrintBytesAgreesWithPrintUptoSaid : Prop := fnPrintBytesAgreesWithPrintUptoRow.holds Try.pinned (OpenSpec.upto fnPrintBytesAgreesWithPrintSpec)

/-- 'n011_139.FnChunkOrderSwapExchangesTwo', WHERE WHAT IT READS IS OF BULK AT MOST 1048576: true; the input reads as it did. -/
def fnChunkOrderSwapExchangesTwoUptoRow : OpenClaim := { program := "ytpgchpfdeefloaa", sum := "3dd003b0b0a943163af5e1dba873883c7c2e5e6d75fa52c95d409b59bd18ac93", func := "github.com/evanw/esbuild/n011_139.FnChunkOrderSwapExchangesTwo", spec := "fnChunkOrderSwapExchangesTwo", plainKeys := false, apart := false, narrowed := true }
def FnChunkOrderSwapExchangesTwoUptoSaid : Prop := fnChunkOrderSwapExchangesTwoUptoRow.holds Try.pinned (OpenSpec.upto fnChunkOrderSwapExchangesTwoSpec)

/-- 'n011_5.FnParseSmallIntOrderMatchesDigits', WHERE WHAT IT READS IS OF BULK AT MOST 1048576: true; the input reads as it did. -/
def fnParseSmallIntOrderMatchesDigitsUptoRow : OpenClaim := { program := "ytpgchpfdeefloaa", sum := "3dd003b0b0a943163af5e1dba873883c7c2e5e6d75fa52c95d409b59bd18ac93", func := "github.com/evanw/esbuild/n011_5.FnParseSmallIntOrderMatchesDigits", spec := "fnParseSmallIntOrderMatchesDigits", plainKeys := false, apart := false, narrowed := true }
def FnParseSmallIntOrderMatchesDigitsUptoSaid : Prop := fnParseSmallIntOrderMatchesDigitsUptoRow.holds Try.pinned (OpenSpec.upto fnParseSmallIntOrderMatchesDigitsSpec)

end Rows
end Go.Proofs.Ytpgchpfdeefloaa
