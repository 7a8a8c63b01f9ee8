/- Contracts of functions that the law of this seat reaches, and plain facts; no condition. -/
import Derived.Test.YtogacjjgfpkdfaaProg
import Derived.WalkKit
import Derived.ProofKit
import Derived.OpenShut
import Derived.ShutString
import Derived.Test.YtogacjjgfpkdfaaAid
import Derived.Test.YtogacjjgfpkdfaaFl
import Derived.Test.YtogacjjgfpkdfaaStr
import Derived.Test.YtogacjjgfpkdfaaPb
import Derived.Test.YtogacjjgfpkdfaaQd
import Derived.Test.YtogacjjgfpkdfaaAm
import Derived.Test.YtogacjjgfpkdfaaMp
import Derived.Test.YtogacjjgfpkdfaaI
import Derived.Test.YtogacjjgfpkdfaaAid
import Derived.Maps.RangeRun
import Derived.Carry
import Derived.Laws.IdiomRangeMap
import Derived.ArgAppend
import Derived.Maps.Own
import Derived.WalkSmall
import Derived.WalkSpells
import Derived.Laws.Externs
import Derived.WalkLawsBesides
import Derived.LoopTactic
import Derived.Deep.CutBlock
import Derived.Deep.DeepCutAuto
import Derived.IntWalk
import Derived.Outline
import Derived.Deep.QuietTactic
import Derived.BigQuiet
import Derived.RegionTactic
import Derived.Deep.RegionHeld3
import Derived.Deep.MidRow
import Derived.StillTailTactics
import Derived.BigRegion
import Derived.Laws.OwnMore
import Derived.Laws.Rows
namespace Go.Proofs.Ytogacjjgfpkdfaa.Aux
open Go.ChangeShapes Go.WideShapes Go.ChangeAt Go.RowKit
open Go.ChangeMaps (open_string shut_string)
set_option linter.unusedVariables false
set_option linter.unusedSimpArgs false
open Fl Str Pb Qd Am Mp PlainAid Aux
open Go.ChangeMaps
/-- Cells stored one after another. -/
def putL (w : World) (b o : Nat) : List Value → World
  | [] => w
  | v :: vs => putL (w.setCell ⟨b, o, none⟩ v) b (o + 1) vs
/-- Block b, made by the call, of n cells. -/
def Blk (w : World) (b : Nat) (t : TypeId) (n : Nat) : Prop := ∃ cur : Array Value, w.heap[b]? = some (.cells cur t (0, 0)) ∧ cur.size = n
theorem Blk.set {w : World} {b n : Nat} {t : TypeId} (h : Blk w b t n) (o : Nat) (v : Value) : Blk (w.setCell ⟨b, o, none⟩ v) b t n := by
  obtain ⟨cur, h1, h2⟩ := h
  exact ⟨_, heap_setCell_same _ _ _ _ _ _ h1, by simpa using h2⟩
theorem Blk.cell_set {w : World} {b n : Nat} {t : TypeId} (h : Blk w b t n) {o : Nat} (ho : o < n) (v : Value) : (w.setCell ⟨b, o, none⟩ v).cell? ⟨b, o, none⟩ = some v := by
  obtain ⟨cur, h1, h2⟩ := h
  rw [cell_of_row _ _ o _ _ _ (heap_setCell_same _ _ _ _ _ _ h1)]
  simp [h2, ho]
theorem put_other {b : Nat} {p : Addr} : ∀ (vs : List Value) (w : World) (o : Nat), (p.block ≠ b ∨ p.off < o ∨ o + vs.length ≤ p.off) → (putL w b o vs).cell? p = w.cell? p := by
  intro vs
  induction vs with
  | nil => intro w o _; rfl
  | cons v vs ih =>
    intro w o h
    rw [putL, ih _ _ (by rcases h with h | h | h; exact .inl h; exact .inr (.inl (by omega)); exact .inr (.inr (by simp at h; omega)))]
    exact World.cell?_setCell_other w ⟨b, o, none⟩ _ v (fun e => by subst e; simp at h; omega)
theorem put_at {b n : Nat} {t : TypeId} : ∀ (vs : List Value) (w : World) (o : Nat), Blk w b t n → o + vs.length ≤ n → At (putL w b o vs) b o vs ∧ Blk (putL w b o vs) b t n := by
  intro vs
  induction vs with
  | nil => intro w o h _; exact ⟨fun j v hj => (by simp at hj), h⟩
  | cons v vs ih =>
    intro w o h hn
    simp only [List.length_cons] at hn
    obtain ⟨h1, h2⟩ := ih (w.setCell ⟨b, o, none⟩ v) (o + 1) (h.set o v) (by omega)
    rw [putL]
    refine ⟨fun j u hj => ?_, h2⟩
    cases j with
    | zero =>
      cases hj
      rw [Nat.add_zero, put_other vs _ _ (.inr (.inl (by simp)))]
      exact h.cell_set (by omega) _
    | succ j =>
      have := h1 j u (by simpa using hj)
      rwa [show o + (j + 1) = o + 1 + j by omega]
theorem put_size {b : Nat} : ∀ (vs : List Value) (w : World) (o : Nat), (putL w b o vs).heap.size = w.heap.size := by
  intro vs
  induction vs with
  | nil => intro w o; rfl
  | cons v vs ih => intro w o; rw [putL, ih]; simp [World.setCell]
end Go.Proofs.Ytogacjjgfpkdfaa.Aux
