/- Contracts of functions that the law of this seat reaches, and plain facts; no condition. -/
import Derived.Test.YtogacjjgfpkdfaaProg
import Derived.WalkKit
import Derived.ProofKit
import Derived.OpenShut
import Derived.ShutString
import Derived.Test.YtogacjjgfpkdfaaAid
import Derived.Test.YtogacjjgfpkdfaaFl
import Derived.Test.YtogacjjgfpkdfaaStr
import Derived.Test.YtogacjjgfpkdfaaPb
import Derived.Test.YtogacjjgfpkdfaaQd
import Derived.Test.YtogacjjgfpkdfaaAm
import Derived.Test.YtogacjjgfpkdfaaMp
import Derived.Test.YtogacjjgfpkdfaaC
import Derived.Maps.RangeRun
import Derived.Carry
import Derived.Laws.IdiomRangeMap
import Derived.ArgAppend
import Derived.Maps.Own
import Derived.WalkSmall
import Derived.WalkSpells
import Derived.Laws.Externs
import Derived.WalkLawsBesides
import Derived.LoopTactic
import Derived.Deep.CutBlock
import Derived.Deep.DeepCutAuto
import Derived.IntWalk
import Derived.Outline
import Derived.Deep.QuietTactic
import Derived.BigQuiet
import Derived.RegionTactic
import Derived.Deep.RegionHeld3
import Derived.Deep.MidRow
import Derived.StillTailTactics
import Derived.BigRegion
import Derived.Laws.OwnMore
import Derived.Laws.Rows
namespace Go.Proofs.Ytogacjjgfpkdfaa.Aux
open Go.ChangeShapes Go.WideShapes Go.ChangeAt Go.RowKit
open Go.ChangeMaps (open_string shut_string)
set_option linter.unusedVariables false
set_option linter.unusedSimpArgs false
open Fl Str Pb Qd Am Mp PlainAid Aux
open Go.ChangeMaps
/-- What a location says. -/
structure LocD where
  file : ByteArray
  ns : ByteArray
  line : Int
  col : Int
  len : Int
  lt : ByteArray
  sg : ByteArray
/-- A location as it is handed in. -/
structure ZL where
  p : Bool
  d : LocD
def ZL.cells (z : ZL) : List Value := [.bool z.p, .string z.d.file, .string z.d.ns, .int .i64 z.d.line, .int .i64 z.d.col, .int .i64 z.d.len, .string z.d.lt, .string z.d.sg]
def ZL.opt (z : ZL) : Option LocD := if z.p then some z.d else none
def aCells (d : LocD) : Array Value := #[.string d.file, .string d.ns, .int .i64 d.line, .int .i64 d.col, .int .i64 d.len, .string d.lt, .string d.sg]
def fileB : ByteArray := ⟨#[102, 105, 108, 101]⟩
def nsOf (d : LocD) : ByteArray := if d.ns.toList.isEmpty then fileB else d.ns
def iCells (d : LocD) : Array Value := #[.string d.file, .string d.file, .string (nsOf d), .string d.lt, .string d.sg, .int .i64 d.line, .int .i64 d.col, .int .i64 d.len]
/-- A public location in memory. -/
def ALoc (w : World) (v : Value) : Option LocD → Prop
  | none => v = .pointer none
  | some d => ∃ b, b < w.heap.size ∧ v = .pointer (some ⟨b, 0, none⟩) ∧ w.heap[b]? = some (.cells (aCells d) 57 (0, 0))
/-- An internal location in memory. -/
def ILoc (w : World) (v : Value) : Option LocD → Prop
  | none => v = .pointer none
  | some d => ∃ b, b < w.heap.size ∧ v = .pointer (some ⟨b, 0, none⟩) ∧ w.heap[b]? = some (.cells (iCells d) 61 (0, 0))
section
variable {w w' : World} {v : Value} {o : Option LocD}
theorem ALoc.below (h : ALoc w v o) (hb : Below w.heap.size w w') : ALoc w' v o := by
  cases o with
  | none => exact h
  | some d =>
    obtain ⟨b, h1, h2, h3⟩ := h
    exact ⟨b, Nat.lt_of_lt_of_le h1 hb.size, h2, (hb.block b h1).trans h3⟩
theorem ILoc.below (h : ILoc w v o) (hb : Below w.heap.size w w') : ILoc w' v o := by
  cases o with
  | none => exact h
  | some d =>
    obtain ⟨b, h1, h2, h3⟩ := h
    exact ⟨b, Nat.lt_of_lt_of_le h1 hb.size, h2, (hb.block b h1).trans h3⟩
end
theorem new2 (w : World) (o1 o2 : Obj) : ((w.alloc o1).alloc o2).heap[w.heap.size + 1]? = some o2 := by
  have := heap_alloc_new (w.alloc o1) o2
  simpa using this
def BL (z : ZL) (w : World) (e : Ending) (w' : World) : Prop := ∃ v, e = .returned v ∧ Hid (ALoc w' v z.opt) ∧ Hid (Below w.heap.size w w') ∧ v.oneCell' = true
set_option maxRecDepth 100000 in
set_option maxHeartbeats 4000000 in
theorem build12 (z : ZL) (w : World) : Calls Try.prog 12 #[.agg z.cells.toArray] w (BL z w) := by
  obtain ⟨p, ⟨file, ns, line, col, len, lt, sg⟩⟩ := z
  cases p with
  | false =>
    show Calls Try.prog 12 #[.agg #[.bool false, .string file, .string ns, .int .i64 line, .int .i64 col, .int .i64 len, .string lt, .string sg]] w _
    go_enter Try.func12, Try.ntmps12
    go_wp2_with fail
    go_ret
    exact ⟨.pointer none, rfl, Lib.hid rfl, Lib.hid ((Below.refl _ _).alloc (Nat.le_refl _) _), rfl⟩
  | true =>
    show Calls Try.prog 12 #[.agg #[.bool true, .string file, .string ns, .int .i64 line, .int .i64 col, .int .i64 len, .string lt, .string sg]] w _
    go_enter Try.func12, Try.ntmps12
    go_wp2_with fail
    go_ret
    refine ⟨_, rfl, Lib.hid ⟨_, ?_, rfl, new2 _ _ _⟩, Lib.hid (((Below.refl _ _).alloc (Nat.le_refl _) _).alloc (by simp) _), rfl⟩
    simp
/-- The four texts' lengths. -/
def LBp (w : World) (e : Ending) (w' : World) : Prop := ∃ n : Int, e = .returned (.int .i64 n) ∧ Hid (Below w.heap.size w w')
set_option maxRecDepth 100000 in
set_option maxHeartbeats 4000000 in
theorem locBytes10 (z : ZL) (w : World) : Calls Try.prog 10 #[.agg z.cells.toArray] w (LBp w) := by
  obtain ⟨p, ⟨file, ns, line, col, len, lt, sg⟩⟩ := z
  show Calls Try.prog 10 #[.agg #[.bool p, .string file, .string ns, .int .i64 line, .int .i64 col, .int .i64 len, .string lt, .string sg]] w _
  go_enter Try.func10, Try.ntmps10
  go_wp2_with fail
  go_ret
  exact ⟨_, rfl, Lib.hid ((Below.refl _ _).alloc (Nat.le_refl _) _)⟩
def CL (o : Option LocD) (w : World) (e : Ending) (w' : World) : Prop := ∃ v, e = .returned v ∧ Hid (ILoc w' v o) ∧ Hid (Below w.heap.size w w') ∧ v.oneCell' = true
theorem conv14 (o : Option LocD) (v : Value) (w : World) (h : ALoc w v o) : Calls Try.prog 14 #[v] w (CL o w) := by
  cases o with
  | none =>
    obtain rfl : v = .pointer none := h
    go_enter Try.func14, Try.ntmps14
    go_wp2_with fail
    go_ret
    exact ⟨.pointer none, rfl, Lib.hid rfl, Lib.hid (Below.refl _ _), rfl⟩
  | some d =>
    obtain ⟨b, hb, rfl, hd⟩ := h
    obtain ⟨file, ns, line, col, len, lt, sg⟩ := d
    have c0 : w.cell? ⟨b, 0, none⟩ = some (.string file) := by rw [cell_of_row _ _ 0 _ _ _ hd]; rfl
    have c1 : w.cell? ⟨b, 1, none⟩ = some (.string ns) := by rw [cell_of_row _ _ 1 _ _ _ hd]; rfl
    have c2 : w.cell? ⟨b, 2, none⟩ = some (.int .i64 line) := by rw [cell_of_row _ _ 2 _ _ _ hd]; rfl
    have c3 : w.cell? ⟨b, 3, none⟩ = some (.int .i64 col) := by rw [cell_of_row _ _ 3 _ _ _ hd]; rfl
    have c4 : w.cell? ⟨b, 4, none⟩ = some (.int .i64 len) := by rw [cell_of_row _ _ 4 _ _ _ hd]; rfl
    have c5 : w.cell? ⟨b, 5, none⟩ = some (.string lt) := by rw [cell_of_row _ _ 5 _ _ _ hd]; rfl
    have c6 : w.cell? ⟨b, 6, none⟩ = some (.string sg) := by rw [cell_of_row _ _ 6 _ _ _ hd]; rfl
    clear hd
    cases hn : ns.toList.isEmpty with
    | true =>
      have HN : Hid (nsOf ⟨file, ns, line, col, len, lt, sg⟩ = fileB) := Lib.hid (by unfold nsOf; exact if_pos hn)
      go_enter Try.func14, Try.ntmps14
      go_wp2_with fail
      go_still_tail 31, (by kernel_rfl)
      go_wp2_with fail
      go_ret
      refine ⟨_, rfl, Lib.hid ⟨_, ?_, rfl, ?_⟩, Lib.hid (((below_drew (Below.refl _ _))).alloc (Nat.le_refl _) _), rfl⟩
      · simp
      · unfold iCells; rw [HN.out]; exact heap_alloc_new w.drew _
    | false =>
      have HN : Hid (nsOf ⟨file, ns, line, col, len, lt, sg⟩ = ns) := Lib.hid (by unfold nsOf; exact if_neg (by rw [hn]; simp))
      go_enter Try.func14, Try.ntmps14
      go_wp2_with fail
      go_still_tail 31, (by kernel_rfl)
      go_wp2_with fail
      go_ret
      refine ⟨_, rfl, Lib.hid ⟨_, ?_, rfl, ?_⟩, Lib.hid (((below_drew (Below.refl _ _))).alloc (Nat.le_refl _) _), rfl⟩
      · simp
      · unfold iCells; rw [HN.out]; exact heap_alloc_new w.drew _
end Go.Proofs.Ytogacjjgfpkdfaa.Aux
