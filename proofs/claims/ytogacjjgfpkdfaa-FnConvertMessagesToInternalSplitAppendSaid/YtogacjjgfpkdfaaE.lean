/- Contracts of functions that the law of this seat reaches, and plain facts; no condition. -/
import Derived.Test.YtogacjjgfpkdfaaProg
import Derived.WalkKit
import Derived.ProofKit
import Derived.OpenShut
import Derived.ShutString
import Derived.Test.YtogacjjgfpkdfaaAid
import Derived.Test.YtogacjjgfpkdfaaFl
import Derived.Test.YtogacjjgfpkdfaaStr
import Derived.Test.YtogacjjgfpkdfaaPb
import Derived.Test.YtogacjjgfpkdfaaQd
import Derived.Test.YtogacjjgfpkdfaaAm
import Derived.Test.YtogacjjgfpkdfaaMp
import Derived.Test.YtogacjjgfpkdfaaD
import Derived.Maps.RangeRun
import Derived.Carry
import Derived.Laws.IdiomRangeMap
import Derived.ArgAppend
import Derived.Maps.Own
import Derived.WalkSmall
import Derived.WalkSpells
import Derived.Laws.Externs
import Derived.WalkLawsBesides
import Derived.LoopTactic
import Derived.Deep.CutBlock
import Derived.Deep.DeepCutAuto
import Derived.IntWalk
import Derived.Outline
import Derived.Deep.QuietTactic
import Derived.BigQuiet
import Derived.RegionTactic
import Derived.Deep.RegionHeld3
import Derived.Deep.MidRow
import Derived.StillTailTactics
import Derived.BigRegion
import Derived.Laws.OwnMore
import Derived.Laws.Rows
namespace Go.Proofs.Ytogacjjgfpkdfaa.Aux
open Go.ChangeShapes Go.WideShapes Go.ChangeAt Go.RowKit
open Go.ChangeMaps (open_string shut_string)
set_option linter.unusedVariables false
set_option linter.unusedSimpArgs false
open Fl Str Pb Qd Am Mp PlainAid Aux
open Go.ChangeMaps
/-- Two locations that say the same. -/
def Tru (w : World) (e : Ending) (w' : World) : Prop := e = .returned (.bool true) ∧ ∃ n, w' = w.drewN n
set_option maxRecDepth 100000 in
set_option maxHeartbeats 8000000 in
theorem locEq13 (o : Option LocD) (v u : Value) (w : World) (h : ILoc w v o) (h2 : ILoc w u o) : Calls Try.prog 13 #[v, u] w (Tru w) := by
  cases o with
  | none =>
    obtain rfl : v = .pointer none := h
    obtain rfl : u = .pointer none := h2
    go_enter Try.func13, Try.ntmps13
    go_wp2_with fail
    go_ret
    exact ⟨rfl, 0, rfl⟩
  | some d =>
    obtain ⟨b, hb, rfl, hd⟩ := h
    obtain ⟨c, hc, rfl, hd2⟩ := h2
    obtain ⟨ns', hns⟩ : ∃ n, nsOf d = n := ⟨_, rfl⟩
    unfold iCells at hd hd2
    rw [hns] at hd hd2
    obtain ⟨file, ns, line, col, len, lt, sg⟩ := d
    have c0 : w.cell? ⟨b, 0, none⟩ = some (.string file) := by rw [cell_of_row _ _ 0 _ _ _ hd]; rfl
    have c1 : w.cell? ⟨b, 1, none⟩ = some (.string file) := by rw [cell_of_row _ _ 1 _ _ _ hd]; rfl
    have c2 : w.cell? ⟨b, 2, none⟩ = some (.string ns') := by rw [cell_of_row _ _ 2 _ _ _ hd]; rfl
    have c3 : w.cell? ⟨b, 3, none⟩ = some (.string lt) := by rw [cell_of_row _ _ 3 _ _ _ hd]; rfl
    have c4 : w.cell? ⟨b, 4, none⟩ = some (.string sg) := by rw [cell_of_row _ _ 4 _ _ _ hd]; rfl
    have c5 : w.cell? ⟨b, 5, none⟩ = some (.int .i64 line) := by rw [cell_of_row _ _ 5 _ _ _ hd]; rfl
    have c6 : w.cell? ⟨b, 6, none⟩ = some (.int .i64 col) := by rw [cell_of_row _ _ 6 _ _ _ hd]; rfl
    have c7 : w.cell? ⟨b, 7, none⟩ = some (.int .i64 len) := by rw [cell_of_row _ _ 7 _ _ _ hd]; rfl
    have d0 : w.cell? ⟨c, 0, none⟩ = some (.string file) := by rw [cell_of_row _ _ 0 _ _ _ hd2]; rfl
    have d1 : w.cell? ⟨c, 1, none⟩ = some (.string file) := by rw [cell_of_row _ _ 1 _ _ _ hd2]; rfl
    have d2 : w.cell? ⟨c, 2, none⟩ = some (.string ns') := by rw [cell_of_row _ _ 2 _ _ _ hd2]; rfl
    have d3 : w.cell? ⟨c, 3, none⟩ = some (.string lt) := by rw [cell_of_row _ _ 3 _ _ _ hd2]; rfl
    have d4 : w.cell? ⟨c, 4, none⟩ = some (.string sg) := by rw [cell_of_row _ _ 4 _ _ _ hd2]; rfl
    have d5 : w.cell? ⟨c, 5, none⟩ = some (.int .i64 line) := by rw [cell_of_row _ _ 5 _ _ _ hd2]; rfl
    have d6 : w.cell? ⟨c, 6, none⟩ = some (.int .i64 col) := by rw [cell_of_row _ _ 6 _ _ _ hd2]; rfl
    have d7 : w.cell? ⟨c, 7, none⟩ = some (.int .i64 len) := by rw [cell_of_row _ _ 7 _ _ _ hd2]; rfl
    clear hd hd2 hns
    go_enter Try.func13, Try.ntmps13
    go_wp2_with fail
    go_quiet (fail)
    go_wp2_with fail
    go_ret
    exact ⟨by simp, _, rfl⟩
end Go.Proofs.Ytogacjjgfpkdfaa.Aux
