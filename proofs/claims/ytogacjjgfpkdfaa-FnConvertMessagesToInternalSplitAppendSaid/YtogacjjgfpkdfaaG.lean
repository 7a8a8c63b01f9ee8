/- Contracts of functions that the law of this seat reaches, and plain facts; no condition. -/
import Derived.Test.YtogacjjgfpkdfaaProg
import Derived.WalkKit
import Derived.ProofKit
import Derived.OpenShut
import Derived.ShutString
import Derived.Test.YtogacjjgfpkdfaaAid
import Derived.Test.YtogacjjgfpkdfaaFl
import Derived.Test.YtogacjjgfpkdfaaStr
import Derived.Test.YtogacjjgfpkdfaaPb
import Derived.Test.YtogacjjgfpkdfaaQd
import Derived.Test.YtogacjjgfpkdfaaAm
import Derived.Test.YtogacjjgfpkdfaaMp
import Derived.Test.YtogacjjgfpkdfaaF
import Derived.Test.YtogacjjgfpkdfaaAid
import Derived.Maps.RangeRun
import Derived.Carry
import Derived.Laws.IdiomRangeMap
import Derived.ArgAppend
import Derived.Maps.Own
import Derived.WalkSmall
import Derived.WalkSpells
import Derived.Laws.Externs
import Derived.WalkLawsBesides
import Derived.LoopTactic
import Derived.Deep.CutBlock
import Derived.Deep.DeepCutAuto
import Derived.IntWalk
import Derived.Outline
import Derived.Deep.QuietTactic
import Derived.BigQuiet
import Derived.RegionTactic
import Derived.Deep.RegionHeld3
import Derived.Deep.MidRow
import Derived.StillTailTactics
import Derived.BigRegion
import Derived.Laws.OwnMore
import Derived.Laws.Rows
namespace Go.Proofs.Ytogacjjgfpkdfaa.Aux
open Go.ChangeShapes Go.WideShapes Go.ChangeAt Go.RowKit
open Go.ChangeMaps (open_string shut_string)
set_option linter.unusedVariables false
set_option linter.unusedSimpArgs false
open Fl Str Pb Qd Am Mp PlainAid Aux
open Go.ChangeMaps
theorem MsgsIn.block {w : World} {a : Option Addr} {n : Nat} {M : Nat → MD} (h : MsgsIn w a n M) (hn : 0 < n) : ∃ b o, a = some ⟨b, o, none⟩ ∧ ∀ i, i < n → ∃ na nc, At w b (o + i * 12) ((M i).cells na nc) ∧ NotesIn w na (M i).nl (M i).nd := by
  obtain ⟨b, o, _, _, e, _⟩ := h.2 0 hn
  refine ⟨b, o, e, fun i hi => ?_⟩
  obtain ⟨b', o', na, nc, e', hA, hN⟩ := h.2 i hi
  rw [e] at e'
  injection e' with e'
  injection e' with e1 e2
  subst e1 e2
  exact ⟨na, nc, hA, hN⟩
theorem NotesIn.block {w : World} {a : Option Addr} {n : Nat} {nd : Nat → NoteD} (h : NotesIn w a n nd) (hn : 0 < n) : ∃ b o, a = some ⟨b, o, none⟩ ∧ ∀ i, i < n → At w b (o + i * 9) (nd i).cells := by
  obtain ⟨b, o, e, _⟩ := h.2 0 hn
  refine ⟨b, o, e, fun i hi => ?_⟩
  obtain ⟨b', o', e', hA⟩ := h.2 i hi
  rw [e] at e'
  injection e' with e'
  injection e' with e1 e2
  subst e1 e2
  exact hA
end Go.Proofs.Ytogacjjgfpkdfaa.Aux
