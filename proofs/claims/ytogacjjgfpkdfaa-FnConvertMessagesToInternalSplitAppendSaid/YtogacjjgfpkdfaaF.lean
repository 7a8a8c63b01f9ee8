/- Contracts of functions that the law of this seat reaches, and plain facts; no condition. -/
import Derived.Test.YtogacjjgfpkdfaaProg
import Derived.WalkKit
import Derived.ProofKit
import Derived.OpenShut
import Derived.ShutString
import Derived.Test.YtogacjjgfpkdfaaAid
import Derived.Test.YtogacjjgfpkdfaaFl
import Derived.Test.YtogacjjgfpkdfaaStr
import Derived.Test.YtogacjjgfpkdfaaPb
import Derived.Test.YtogacjjgfpkdfaaQd
import Derived.Test.YtogacjjgfpkdfaaAm
import Derived.Test.YtogacjjgfpkdfaaMp
import Derived.Test.YtogacjjgfpkdfaaE
import Derived.Test.YtogacjjgfpkdfaaAid
import Derived.Maps.RangeRun
import Derived.Carry
import Derived.Laws.IdiomRangeMap
import Derived.ArgAppend
import Derived.Maps.Own
import Derived.WalkSmall
import Derived.WalkSpells
import Derived.Laws.Externs
import Derived.WalkLawsBesides
import Derived.LoopTactic
import Derived.Deep.CutBlock
import Derived.Deep.DeepCutAuto
import Derived.IntWalk
import Derived.Outline
import Derived.Deep.QuietTactic
import Derived.BigQuiet
import Derived.RegionTactic
import Derived.Deep.RegionHeld3
import Derived.Deep.MidRow
import Derived.StillTailTactics
import Derived.BigRegion
import Derived.Laws.OwnMore
import Derived.Laws.Rows
namespace Go.Proofs.Ytogacjjgfpkdfaa.Aux
open Go.ChangeShapes Go.WideShapes Go.ChangeAt Go.RowKit
open Go.ChangeMaps (open_string shut_string)
set_option linter.unusedVariables false
set_option linter.unusedSimpArgs false
open Fl Str Pb Qd Am Mp PlainAid Aux
open Go.ChangeMaps
/-- A note as it is handed in. -/
structure NoteD where
  text : ByteArray
  loc : ZL
/-- A message as it is handed in. -/
structure MD where
  id : ByteArray
  plug : ByteArray
  text : ByteArray
  loc : ZL
  nl : Nat
  nd : Nat → NoteD
def NoteD.cells (x : NoteD) : List Value := .string x.text :: x.loc.cells
def MD.cells (m : MD) (na : Option Addr) (nc : Nat) : List Value := .string m.id :: .string m.plug :: .string m.text :: (m.loc.cells ++ [.slice na m.nl nc])
/-- The cells lie from o on in block b. -/
def At (w : World) (b o : Nat) (cs : List Value) : Prop := ∀ j v, cs[j]? = some v → w.cell? ⟨b, o + j, none⟩ = some v
def NotesIn (w : World) (a : Option Addr) (n : Nat) (nd : Nat → NoteD) : Prop := (a = none → n = 0) ∧ ∀ i, i < n → ∃ b o, a = some ⟨b, o, none⟩ ∧ At w b (o + i * 9) (nd i).cells
def MsgsIn (w : World) (a : Option Addr) (n : Nat) (M : Nat → MD) : Prop :=
  (a = none → n = 0) ∧ ∀ i, i < n → ∃ b o na nc, a = some ⟨b, o, none⟩ ∧ At w b (o + i * 12) ((M i).cells na nc) ∧ NotesIn w na (M i).nl (M i).nd
theorem len1 {cs : List Value} (h : cs.length = 1) : ∃ a, cs = [a] := by
  match cs, h with
  | [a], _ => exact ⟨a, rfl⟩
theorem len8 {cs : List Value} (h : cs.length = 8) : ∃ a b c d e f g i, cs = [a, b, c, d, e, f, g, i] := by
  match cs, h with
  | [a, b, c, d, e, f, g, i], _ => exact ⟨a, b, c, d, e, f, g, i, rfl⟩
theorem len9 {cs : List Value} (h : cs.length = 9) : ∃ a t, cs = a :: t ∧ t.length = 8 := by
  match cs, h with
  | a :: t, h => exact ⟨a, t, rfl, by simpa using h⟩
theorem len12 {cs : List Value} (h : cs.length = 12) : ∃ a b c d e f g i j k l m, cs = [a, b, c, d, e, f, g, i, j, k, l, m] := by
  match cs, h with
  | [a, b, c, d, e, f, g, i, j, k, l, m], _ => exact ⟨a, b, c, d, e, f, g, i, j, k, l, m, rfl⟩
section
variable {H : Type} {enc : TypeId × Value → H} {w : World} {base : Nat} {held : Bool} {sp : Nat → Bool}
theorem open_fld {P : Program} {fs : Array Field} {xs : List (DataW H × List MemPlace)} {n : Nat} {cs : List Value} (hl : xs.length = fs.size)
    (hx : ∀ (i : Nat) (f : Field), fs[i]? = some f → DataW.trod enc P w base sp held n f.type ((cs.drop f.offset).take (P.cellsOf f.type)) = xs[i]?) (i t o c : Nat) (hf : ∃ f, fs[i]? = some f ∧ f.type = t ∧ f.offset = o) (hc : P.cellsOf t = c) :
    ∃ y, DataW.trod enc P w base sp held n t ((cs.drop o).take c) = some y := by
  obtain ⟨f, h1, rfl, rfl⟩ := hf
  subst hc
  have hi : i < xs.length := by
    rw [hl]
    exact (Array.getElem?_eq_some_iff.1 h1).1
  exact ⟨xs[i], (hx i f h1).trans (List.getElem?_eq_getElem hi)⟩
theorem open_loc {n : Nat} {cs : List Value} {x : DataW H × List MemPlace} (h : DataW.trod enc Try.prog w base sp held n 39 cs = some x) : ∃ z : ZL, cs = z.cells := by
  obtain ⟨xs, n, _, _, hlen, hl, hx⟩ := DataW.trod_struct Try.underlying39 h
  rw [show Try.prog.cellsOf 39 = 8 by kernel_rfl] at hlen
  obtain ⟨c0, c1, c2, c3, c4, c5, c6, c7, rfl⟩ := len8 hlen
  have kb : Try.prog.cellsOf 4 = 1 := by kernel_rfl
  have ks : Try.prog.cellsOf 9 = 1 := by kernel_rfl
  have ki : Try.prog.cellsOf 3 = 1 := by kernel_rfl
  obtain ⟨_, h0⟩ := open_fld hl hx 0 4 0 1 ⟨_, rfl, rfl, rfl⟩ kb
  obtain ⟨_, h1⟩ := open_fld hl hx 1 9 1 1 ⟨_, rfl, rfl, rfl⟩ ks
  obtain ⟨_, h2⟩ := open_fld hl hx 2 9 2 1 ⟨_, rfl, rfl, rfl⟩ ks
  obtain ⟨_, h3⟩ := open_fld hl hx 3 3 3 1 ⟨_, rfl, rfl, rfl⟩ ki
  obtain ⟨_, h4⟩ := open_fld hl hx 4 3 4 1 ⟨_, rfl, rfl, rfl⟩ ki
  obtain ⟨_, h5⟩ := open_fld hl hx 5 3 5 1 ⟨_, rfl, rfl, rfl⟩ ki
  obtain ⟨_, h6⟩ := open_fld hl hx 6 9 6 1 ⟨_, rfl, rfl, rfl⟩ ks
  obtain ⟨_, h7⟩ := open_fld hl hx 7 9 7 1 ⟨_, rfl, rfl, rfl⟩ ks
  obtain ⟨b, e0, _⟩ := DataW.trod_bool Try.underlying4 h0
  obtain ⟨s1, e1, _, _⟩ := DataW.trod_string Try.underlying9 h1
  obtain ⟨s2, e2, _, _⟩ := DataW.trod_string Try.underlying9 h2
  obtain ⟨i3, e3, _, _⟩ := DataW.trod_int Try.underlying3 h3
  obtain ⟨i4, e4, _, _⟩ := DataW.trod_int Try.underlying3 h4
  obtain ⟨i5, e5, _, _⟩ := DataW.trod_int Try.underlying3 h5
  obtain ⟨s6, e6, _, _⟩ := DataW.trod_string Try.underlying9 h6
  obtain ⟨s7, e7, _, _⟩ := DataW.trod_string Try.underlying9 h7
  simp at e0 e1 e2 e3 e4 e5 e6 e7
  subst e0 e1 e2 e3 e4 e5 e6 e7
  exact ⟨⟨b, ⟨s1, s2, i3, i4, i5, s6, s7⟩⟩, rfl⟩
theorem open_note {n : Nat} {cs : List Value} {x : DataW H × List MemPlace} (h : DataW.trod enc Try.prog w base sp held n 44 cs = some x) : ∃ z : NoteD, cs = z.cells := by
  obtain ⟨xs, n, _, _, hlen, hl, hx⟩ := DataW.trod_struct Try.underlying44 h
  rw [show Try.prog.cellsOf 44 = 9 by kernel_rfl] at hlen
  obtain ⟨c0, t, rfl, ht⟩ := len9 hlen
  obtain ⟨_, h0⟩ := open_fld hl hx 0 9 0 1 ⟨_, rfl, rfl, rfl⟩ (by kernel_rfl)
  obtain ⟨_, h1⟩ := open_fld hl hx 1 39 1 8 ⟨_, rfl, rfl, rfl⟩ (by kernel_rfl)
  obtain ⟨s, e0, _, _⟩ := DataW.trod_string Try.underlying9 h0
  simp only [List.drop_succ_cons, List.drop_zero, List.take_of_length_le (Nat.le_of_eq ht)] at h1
  obtain ⟨z, e1⟩ := open_loc h1
  simp at e0
  subst e0 e1
  exact ⟨⟨s, z⟩, rfl⟩
/-- The cells of an element that was read. -/
theorem at_of_cells {a : Addr} {k n : Nat} {cs : List Value} (hs : a.spot = none) (h : w.cells? base (a.add k) n = some cs) : At w a.block (a.off + k) cs := by
  obtain ⟨_, h1, h2⟩ := World.cells?_some h
  intro j v hj
  have hjn : j < n := by
    have := (List.getElem?_eq_some_iff.1 hj).1
    omega
  have := h2 j hjn
  rw [hj] at this
  obtain ⟨b, o, s⟩ := a
  simp only at hs
  subst hs
  have e : ∀ (o i : Nat), (⟨b, o, none⟩ : Addr).add i = ⟨b, o + i, none⟩ := fun o i => by unfold Addr.add; simp
  rw [e, e] at this
  exact this
theorem spot_of_cells {a : Addr} {n : Nat} {cs : List Value} (hn : 0 < n) (h : w.cells? base (a.add 0) n = some cs) : a.spot = none := by
  obtain ⟨_, h1, h2⟩ := World.cells?_some h
  have := h2 0 hn
  rw [List.getElem?_eq_getElem (by omega)] at this
  have hc := World.cell?_spot this
  obtain ⟨b, o, s⟩ := a
  simpa [Addr.add] using hc
theorem choose_lt {α : Type} (d : α) {n : Nat} {p : Nat → α → Prop} (h : ∀ i, i < n → ∃ x, p i x) : ∃ f : Nat → α, ∀ i, i < n → p i (f i) := by
  have : ∀ i, ∃ x, i < n → p i x := fun i => by
    by_cases hi : i < n
    · obtain ⟨x, hx⟩ := h i hi
      exact ⟨x, fun _ => hx⟩
    · exact ⟨d, fun h => absurd h hi⟩
  obtain ⟨f, hf⟩ := Classical.axiomOfChoice this
  exact ⟨f, hf⟩
def zl0 : ZL := ⟨false, ⟨⟨#[]⟩, ⟨#[]⟩, 0, 0, 0, ⟨#[]⟩, ⟨#[]⟩⟩⟩
theorem open_notes {n : Nat} {cs : List Value} {x : DataW H × List MemPlace} (h : DataW.trod enc Try.prog w base sp held n 40 cs = some x) :
    ∃ na nl nc nd, cs = [.slice na nl nc] ∧ NotesIn w na nl nd := by
  rcases DataW.trod_slice Try.underlying40 h with ⟨h0, _⟩ | ⟨a, len, cap, elems, rest, n, _, h0, _, _, _, _, hlen, hel, _, _⟩
  · exact ⟨none, 0, 0, fun _ => ⟨⟨#[]⟩, zl0⟩, h0, fun _ => rfl, fun i hi => absurd hi (Nat.not_lt_zero _)⟩
  · rw [show Try.prog.cellsOf 44 = 9 by kernel_rfl] at hel
    have each : ∀ i, i < len → ∃ z : NoteD, w.cells? base (a.add (i * 9)) 9 = some z.cells := by
      intro i hi
      have h1 := hel i hi
      rw [List.getElem?_eq_getElem (by omega), Option.bind_eq_some_iff] at h1
      obtain ⟨cs', hc, ht⟩ := h1
      obtain ⟨z, rfl⟩ := open_note ht
      exact ⟨z, hc⟩
    obtain ⟨nd, hnd⟩ := choose_lt ⟨⟨#[]⟩, zl0⟩ each
    refine ⟨some a, len, cap, nd, h0, (fun e => by cases e), fun i hi => ?_⟩
    have h00 := hnd 0 (by omega)
    rw [Nat.zero_mul] at h00
    have hs := spot_of_cells (by decide) h00
    refine ⟨a.block, a.off, ?_, at_of_cells hs (hnd i hi)⟩
    obtain ⟨b, o, s⟩ := a
    simp only at hs
    rw [hs]
theorem open_msg {n : Nat} {cs : List Value} {x : DataW H × List MemPlace} (h : DataW.trod enc Try.prog w base sp held n 42 cs = some x) :
    ∃ m : MD, ∃ na nc, cs = m.cells na nc ∧ NotesIn w na m.nl m.nd := by
  obtain ⟨xs, n, _, _, hlen, hl, hx⟩ := DataW.trod_struct Try.underlying42 h
  rw [show Try.prog.cellsOf 42 = 12 by kernel_rfl] at hlen
  obtain ⟨c0, c1, c2, c3, c4, c5, c6, c7, c8, c9, c10, c11, rfl⟩ := len12 hlen
  obtain ⟨_, h0⟩ := open_fld hl hx 0 9 0 1 ⟨_, rfl, rfl, rfl⟩ (by kernel_rfl)
  obtain ⟨_, h1⟩ := open_fld hl hx 1 9 1 1 ⟨_, rfl, rfl, rfl⟩ (by kernel_rfl)
  obtain ⟨_, h2⟩ := open_fld hl hx 2 9 2 1 ⟨_, rfl, rfl, rfl⟩ (by kernel_rfl)
  obtain ⟨_, h3⟩ := open_fld hl hx 3 39 3 8 ⟨_, rfl, rfl, rfl⟩ (by kernel_rfl)
  obtain ⟨_, h4⟩ := open_fld hl hx 4 40 11 1 ⟨_, rfl, rfl, rfl⟩ (by kernel_rfl)
  obtain ⟨s0, e0, _, _⟩ := DataW.trod_string Try.underlying9 h0
  obtain ⟨s1, e1, _, _⟩ := DataW.trod_string Try.underlying9 h1
  obtain ⟨s2, e2, _, _⟩ := DataW.trod_string Try.underlying9 h2
  obtain ⟨z, e3⟩ := open_loc h3
  obtain ⟨na, nl, nc, nd, e4, hn⟩ := open_notes h4
  simp at e0 e1 e2 e3 e4
  subst e0 e1 e2 e4
  refine ⟨⟨s0, s1, s2, z, nl, nd⟩, na, nc, ?_, hn⟩
  unfold MD.cells
  rw [← e3]
  rfl
theorem open_msgs {t : TypeId} (ht : t = 22) {a : Option Addr} {len cap : Nat} {d : DataW H} {p : List MemPlace}
    (h : DataW.Trod enc Try.prog w base sp held t (.slice a len cap) d p) : ∃ M, MsgsIn w a len M ∧ (a = none → cap = 0) ∧ len ≤ cap ∧ cap ≤ maxLen := by
  subst ht
  obtain ⟨fuel, hf⟩ := h
  rcases DataW.trod_slice Try.underlying22 hf with ⟨h0, _⟩ | ⟨x, l, c, elems, rest, n, _, h0, _, _, hlc, hcm, hlen, hel, _, _⟩
  · simp [Value.cells] at h0
    obtain ⟨rfl, rfl, rfl⟩ := h0
    exact ⟨fun _ => ⟨⟨#[]⟩, ⟨#[]⟩, ⟨#[]⟩, zl0, 0, fun _ => ⟨⟨#[]⟩, zl0⟩⟩, ⟨fun _ => rfl, fun i hi => absurd hi (Nat.not_lt_zero _)⟩, fun _ => rfl, Nat.le_refl _, Nat.zero_le _⟩
  · simp [Value.cells] at h0
    obtain ⟨rfl, rfl, rfl⟩ := h0
    rw [show Try.prog.cellsOf 42 = 12 by kernel_rfl] at hel
    have each : ∀ i, i < len → ∃ z : MD × Option Addr × Nat, w.cells? base (x.add (i * 12)) 12 = some (z.1.cells z.2.1 z.2.2) ∧ NotesIn w z.2.1 z.1.nl z.1.nd := by
      intro i hi
      have h1 := hel i hi
      rw [List.getElem?_eq_getElem (by omega), Option.bind_eq_some_iff] at h1
      obtain ⟨cs', hc, ht⟩ := h1
      obtain ⟨m, na, nc, rfl, hn⟩ := open_msg ht
      exact ⟨⟨m, na, nc⟩, hc, hn⟩
    obtain ⟨f, hnd⟩ := choose_lt ⟨⟨⟨#[]⟩, ⟨#[]⟩, ⟨#[]⟩, zl0, 0, fun _ => ⟨⟨#[]⟩, zl0⟩⟩, none, 0⟩ each
    refine ⟨fun i => (f i).1, ⟨(fun e => by cases e), fun i hi => ?_⟩, (fun e => by cases e), hlc, hcm⟩
    have h00 := (hnd 0 (by omega)).1
    rw [Nat.zero_mul] at h00
    have hs := spot_of_cells (by decide) h00
    refine ⟨x.block, x.off, (f i).2.1, (f i).2.2, ?_, at_of_cells hs (hnd i hi).1, (hnd i hi).2⟩
    obtain ⟨b, o, s⟩ := x
    simp only at hs
    rw [hs]
end
theorem At.lt {w : World} {b o : Nat} {v : Value} {cs : List Value} (h : At w b o (v :: cs)) : b < w.heap.size := lt_of_cell (h 0 v rfl)
theorem At.below {w w' : World} {b o : Nat} {cs : List Value} (h : At w b o cs) (hlt : b < w.heap.size) (hb : Below w.heap.size w w') : At w' b o cs := fun j v hj => (hb.cell (p := ⟨b, o + j, none⟩) hlt).trans (h j v hj)
theorem NotesIn.below {w w' : World} {a : Option Addr} {n : Nat} {nd : Nat → NoteD} (h : NotesIn w a n nd) (hb : Below w.heap.size w w') : NotesIn w' a n nd := by
  refine ⟨h.1, fun i hi => ?_⟩
  obtain ⟨b, o, e, hA⟩ := h.2 i hi
  exact ⟨b, o, e, hA.below (At.lt hA) hb⟩
theorem MsgsIn.below {w w' : World} {a : Option Addr} {n : Nat} {M : Nat → MD} (h : MsgsIn w a n M) (hb : Below w.heap.size w w') : MsgsIn w' a n M := by
  refine ⟨h.1, fun i hi => ?_⟩
  obtain ⟨b, o, na, nc, e, hA, hN⟩ := h.2 i hi
  exact ⟨b, o, na, nc, e, hA.below (At.lt hA) hb, hN.below hb⟩
end Go.Proofs.Ytogacjjgfpkdfaa.Aux
