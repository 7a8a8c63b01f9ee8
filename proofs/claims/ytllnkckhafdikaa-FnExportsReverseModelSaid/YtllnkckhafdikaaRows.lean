/-
  No cell of these rows narrows 'for every input' (looked for: loops, veiled, ifaces, maps, wideKeys, modest, calm, conditions, laid).
  DERIVED. THE GIVEN ROWS OF THIS SEAT. 3 by the template 'for every input the law returns true; each argument reads behind the call as it read before'; 0 by the template 'total and deterministic' (their statements: YtllnkckhafdikaaTotals.lean).
  GIVEN WITH THE SEED: the statements are not yours to turn. If you find one false, say at which input.
  Laid BY PROGRAM, IN A SANDBOX (cutbox-rows.mjs): the forced cells as the released guide's own fill.sh prints them over the translation 26196043d82c90b0… (all of the seat's roots in one cut). By AI agents, Wed Nov 11 2026. No macro, syntax, notation, axiom, sorry.
-/
import Derived.Test.YtllnkckhafdikaaChecked
import GoSem.Claim
import GoSem.ClaimJoined
import GoSem.ClaimMapViews
import Derived.JoinedTies
import Derived.KernelRfl
namespace Go.Proofs.Ytllnkckhafdikaa
/- THE CELL 'sum', in the pinned program and in every row, IS THE sha256 OF THE DUMP (.gsa) THAT YtllnkckhafdikaaProg.lean LOADS. Nothing in Lean hashes anything: it is a label: what it is worth is what the hold of that sum in a sandbox is worth. -/
noncomputable def Try.pinned : Pinned := { name := "ytllnkckhafdikaa", sum := "26196043d82c90b02029a7048f7abeb0489e5096f593a546d19b98bf1d739b00", checked := Try.checked }
namespace Rows
def none {H : Type} : Left H := { results := [], args := [] }

/-- 'n011_78.FnTargetReverseInvertsSubstitution': WHATEVER THE INPUT: true; the input reads as it did. -/
def fnTargetReverseInvertsSubstitutionSpec : ChangeSpec := { name := "fnTargetReverseInvertsSubstitution", fn := fun _ => fun
  | [d1, d2, d3, d4, d5, d6] => { results := [.lit (.bool true)], args := [d1, d2, d3, d4, d5, d6] }
  | _ => none }
def fnTargetReverseInvertsSubstitutionRow : OpenClaim := { program := "ytllnkckhafdikaa", sum := "26196043d82c90b02029a7048f7abeb0489e5096f593a546d19b98bf1d739b00", func := "github.com/evanw/esbuild/n011_78.FnTargetReverseInvertsSubstitution", spec := "fnTargetReverseInvertsSubstitution", inPlace := ["internal/bytealg.IndexByteString", "internal/bytealg.IndexString"], recurses := true, named := ["internal/bytealg.MaxLen"], plainKeys := false, apart := false }
def FnTargetReverseInvertsSubstitutionSaid : Prop := fnTargetReverseInvertsSubstitutionRow.holds Try.pinned (OpenSpec.ofChange fnTargetReverseInvertsSubstitutionSpec)

/-- ITS FALSE NEIGHBOUR: 'it returns false'. Refute it at one input. -/
def fnTargetReverseInvertsSubstitutionWrong : ChangeSpec := { name := "fnTargetReverseInvertsSubstitution", fn := fun _ => fun
  | [d1, d2, d3, d4, d5, d6] => { results := [.lit (.bool false)], args := [d1, d2, d3, d4, d5, d6] }
  | _ => none }
def FnTargetReverseInvertsSubstitutionWrongFalsely : Prop := fnTargetReverseInvertsSubstitutionRow.holds Try.pinned (OpenSpec.ofChange fnTargetReverseInvertsSubstitutionWrong)

/-- 'n011_78.FnExportsReverseModel': WHATEVER THE INPUT: true; the input reads as it did. -/
def fnExportsReverseModelSpec : ChangeSpec := { name := "fnExportsReverseModel", fn := fun _ => fun
  | [d1, d2, d3] => { results := [.lit (.bool true)], args := [d1, d2, d3] }
  | _ => none }
def fnExportsReverseModelRow : OpenClaim := { program := "ytllnkckhafdikaa", sum := "26196043d82c90b02029a7048f7abeb0489e5096f593a546d19b98bf1d739b00", func := "github.com/evanw/esbuild/n011_78.FnExportsReverseModel", spec := "fnExportsReverseModel", inPlace := ["internal/bytealg.IndexByteString", "internal/bytealg.IndexString"], recurses := true, named := ["internal/bytealg.MaxLen"], plainKeys := false, apart := false }
def FnExportsReverseModelSaid : Prop := fnExportsReverseModelRow.holds Try.pinned (OpenSpec.ofChange fnExportsReverseModelSpec)

/-- ITS FALSE NEIGHBOUR: 'it returns false'. Refute it at one input. -/
def fnExportsReverseModelWrong : ChangeSpec := { name := "fnExportsReverseModel", fn := fun _ => fun
  | [d1, d2, d3] => { results := [.lit (.bool false)], args := [d1, d2, d3] }
  | _ => none }
def FnExportsReverseModelWrongFalsely : Prop := fnExportsReverseModelRow.holds Try.pinned (OpenSpec.ofChange fnExportsReverseModelWrong)

/-- 'n011_65.FnDecodeMIMETypeIgnoresParameters': WHATEVER THE INPUT: true; the input reads as it did. -/
def fnDecodeMIMETypeIgnoresParametersSpec : ChangeSpec := { name := "fnDecodeMIMETypeIgnoresParameters", fn := fun _ => fun
  | [d1, d2, d3, d4] => { results := [.lit (.bool true)], args := [d1, d2, d3, d4] }
  | _ => none }
def fnDecodeMIMETypeIgnoresParametersRow : OpenClaim := { program := "ytllnkckhafdikaa", sum := "26196043d82c90b02029a7048f7abeb0489e5096f593a546d19b98bf1d739b00", func := "github.com/evanw/esbuild/n011_65.FnDecodeMIMETypeIgnoresParameters", spec := "fnDecodeMIMETypeIgnoresParameters", inPlace := ["internal/bytealg.IndexByteString"], plainKeys := false, apart := false }
def FnDecodeMIMETypeIgnoresParametersSaid : Prop := fnDecodeMIMETypeIgnoresParametersRow.holds Try.pinned (OpenSpec.ofChange fnDecodeMIMETypeIgnoresParametersSpec)

/-- ITS FALSE NEIGHBOUR: 'it returns false'. Refute it at one input. -/
def fnDecodeMIMETypeIgnoresParametersWrong : ChangeSpec := { name := "fnDecodeMIMETypeIgnoresParameters", fn := fun _ => fun
  | [d1, d2, d3, d4] => { results := [.lit (.bool false)], args := [d1, d2, d3, d4] }
  | _ => none }
def FnDecodeMIMETypeIgnoresParametersWrongFalsely : Prop := fnDecodeMIMETypeIgnoresParametersRow.holds Try.pinned (OpenSpec.ofChange fnDecodeMIMETypeIgnoresParametersWrong)

/- THE SECOND FORM. 'bulk': how many values and letters a reading holds, each counted each time it is reached (what is shared counts as often as it is met; a slice's spare places count too). A statement '..UptoSaid' is the law's where the arguments, and the package variables that the reading takes, are together of bulk at most 1048576: NARROWER than '..Said'. Prove '..Said' where nothing that the law and all that it calls make is longer than what came in: it says more and counts as full. Else prove '..UptoSaid'. A law counts once. -/
mutual
def uptoBulk {H : Type} : DataW H → Nat
  | .lit (.string bytes) => bytes.length + 1
  | .lit _ => 1
  | .nil => 1
  | .ptr d => uptoBulk d + 1
  | .slice elems spare => uptoBulkAll elems + uptoBulkAll spare + 1
  | .agg parts => uptoBulkAll parts + 1
  | .iface _ d => uptoBulk d + 1
  | .map entries => uptoBulkEntries entries + 1
  | .held _ => 1
def uptoBulkAll {H : Type} : List (DataW H) → Nat
  | [] => 0
  | d :: r => uptoBulk d + uptoBulkAll r
def uptoBulkEntries {H : Type} : List (Lit × DataW H) → Nat
  | [] => 0
  | x :: r => uptoBulkEntry x + uptoBulkEntries r
def uptoBulkEntry {H : Type} : Lit × DataW H → Nat
  | (.string bytes, d) => bytes.length + uptoBulk d + 1
  | (_, d) => uptoBulk d + 1
 end
def uptoSmall : (H : Type) → List (DataW H) → Bool := fun _ ds => decide (uptoBulkAll ds ≤ 1048576)
def OpenSpec.upto (s : _root_.Go.ChangeSpec) : _root_.Go.OpenSpec := { _root_.Go.OpenSpec.ofChange s with cond := some uptoSmall }

/-- 'n011_78.FnTargetReverseInvertsSubstitution', WHERE WHAT IT READS IS OF BULK AT MOST 1048576: true; the input reads as it did. -/
def fnTargetReverseInvertsSubstitutionUptoRow : OpenClaim := { program := "ytllnkckhafdikaa", sum := "26196043d82c90b02029a7048f7abeb0489e5096f593a546d19b98bf1d739b00", func := "github.com/evanw/esbuild/n011_78.FnTargetReverseInvertsSubstitution", spec := "fnTargetReverseInvertsSubstitution", inPlace := ["internal/bytealg.IndexByteString", "internal/bytealg.IndexString"], recurses := true, named := ["internal/bytealg.MaxLen"], plainKeys := false, apart := false, narrowed := true }
def FnTargetReverseInvertsSubstitutionUptoSaid : Prop := fnTargetReverseInvertsSubstitutionUptoRow.holds Try.pinned (OpenSpec.upto fnTargetReverseInvertsSubstitutionSpec)

/-- 'n011_78.FnExportsReverseModel', WHERE WHAT IT READS IS OF BULK AT MOST 1048576: true; the input reads as it did. -/
def fnExportsReverseModelUptoRow : OpenClaim := { program := "ytllnkckhafdikaa", sum := "26196043d82c90b02029a7048f7abeb0489e5096f593a546d19b98bf1d739b00", func := "github.com/evanw/esbuild/n011_78.FnExportsReverseModel", spec := "fnExportsReverseModel", inPlace := ["internal/bytealg.IndexByteString", "internal/bytealg.IndexString"], recurses := true, named := ["internal/bytealg.MaxLen"], plainKeys := false, apart := false, narrowed := true }
def FnExportsReverseModelUptoSaid : Prop := fnExportsReverseModelUptoRow.holds Try.pinned (OpenSpec.upto fnExportsReverseModelSpec)

/-- 'n011_65.FnDecodeMIMETypeIgnoresParameters', WHERE WHAT IT READS IS OF BULK AT MOST 1048576: true; the input reads as it did. -/
def fnDecodeMIMETypeIgnoresParametersUptoRow : OpenClaim := { program := "ytllnkckhafdikaa", sum := "26196043d82c90b02029a7048f7abeb0489e5096f593a546d19b98bf1d739b00", func := "github.com/evanw/esbuild/n011_65.FnDecodeMIMETypeIgnoresParameters", spec := "fnDecodeMIMETypeIgnoresParameters", inPlace := ["internal/bytealg.IndexByteString"], plainKeys := false, apart := false, narrowed := true }
def FnDecodeMIMETypeIgnoresParametersUptoSaid : Prop := fnDecodeMIMETypeIgnoresParametersUptoRow.holds Try.pinned (OpenSpec.upto fnDecodeMIMETypeIgnoresParametersSpec)

end Rows
end Go.Proofs.Ytllnkckhafdikaa
