/- Contracts of functions that the law of this seat reaches, and plain facts; no condition. -/
import Derived.Test.YtpnhldglcnmhdaaFmtProg
import Derived.WalkKit
import Derived.ProofKit
import Derived.OpenShut
import Derived.ShutString
import Derived.Test.YtpnhldglcnmhdaaFmtAid
import Derived.Test.YtpnhldglcnmhdaaFmtFl
import Derived.Test.YtpnhldglcnmhdaaFmtD
import Derived.Test.YtpnhldglcnmhdaaFmtStr
import Derived.Test.YtpnhldglcnmhdaaFmtPb
import Derived.Test.YtpnhldglcnmhdaaFmtQd
import Derived.ArgAppend
import Derived.WalkSmall
import Derived.Lib.OthersKept
import Derived.Laws.RangeAny
import Derived.Laws.OwnMore
import Derived.WalkSpells
import Derived.LoopTactic
import Derived.IntWalk
import Derived.Outline
import Derived.Deep.QuietTactic
import Derived.BigQuiet
import Derived.Deep.RegionHeld3
import Derived.Deep.RegionLaw
import Derived.StillTailTactics
import Derived.OwnWalk
import Derived.RegionTactic
import Derived.Laws.BitsAllLaws
import Derived.Laws.BitsLemmas
import Derived.Lib.ConvBytes
import Derived.Lib.RuneBytes
import Derived.Maps.Own
namespace Go.Proofs.YtpnhldglcnmhdaaFmt.Aux
open Go.ChangeShapes Go.WideShapes Go.ChangeAt Go.RowKit
open Go.ChangeMaps (open_string shut_string)
set_option linter.unusedVariables false
set_option linter.unusedSimpArgs false
open Fl Str Pb Qd PlainAid Aux
noncomputable def optY : Array Value := match Tryf.prog.info? 49 with
  | some i => (match i.zero with | some (.agg cs) => cs | _ => #[])
  | none => #[]
theorem optY_zero : (Tryf.prog.info? 49).map (·.zero) = some (some (.agg optY)) := by kernel_rfl
theorem optY_run (w : World) : (zeroValue 49).run Tryf.prog w = .ok (.agg optY) w := by
  have h := optY_zero
  cases hi : Tryf.prog.info? 49 with
  | none => rw [hi] at h; cases h
  | some i =>
    rw [hi] at h
    simp only [Option.map_some, Option.some.injEq] at h
    simp [zeroValue, typeInfo, hi, h]
theorem optY_size : optY.size = 25 := by kernel_rfl
/-- The parts of a new printer. -/
noncomputable def npParts (m1 m2 : Value) : Array (Nat × Value) := #[(12, .agg (((optY.setIfInBounds 19 (.bool true)).setIfInBounds 16 (.bool false)).setIfInBounds 18 (.bool false))), (9, .slice none 0 0), (19, .int .i64 0), (5, m1), (6, m2),
  (15, .int .i64 (-1)), (16, .int .i64 (-1)), (17, .int .i64 (-1)), (18, .int .i64 (-1)), (20, .int .i64 (-1)), (21, .int .i64 (-1)), (22, .int .i64 (-1)), (23, .int .i64 (-1))]
noncomputable def npCells (m1 m2 : Value) : Array Value := (Tryf.prog.built 80 (npParts m1 m2).toList).getD #[]
theorem np_built (a b : Option Nat) : Tryf.prog.built 80 (npParts (.map a) (.map b)).toList = some (npCells (.map a) (.map b)) := by kernel_rfl
theorem np_9 (a b : Option Nat) : (npCells (.map a) (.map b))[9]? = some (.slice none 0 0) := by kernel_rfl
theorem np_24 (a b : Option Nat) : (npCells (.map a) (.map b))[24]? = some (.int .u64 0) := by kernel_rfl
theorem np_31 (a b : Option Nat) : (npCells (.map a) (.map b))[31]? = some (.bool true) := by kernel_rfl
theorem wpList_built {P : Program} {ops : Array Oper} {rest : List Oper} {o : Oper} {a : Act} {w : World} {Q : Exit → Act → World → Prop} (hg : o.guard = none) (t : TypeId) (parts : Array (Nat × Operand)) (ho : o.op = .build t parts) {vals : List (Nat × Value)} {cells : Array Value}
    (he : (parts.map fun (i, x) => (i, a.eval x)).toList = vals) (hf : P.built t vals = some cells) (h : wpList P ops Q rest (a.put o.dst (.agg cells)) w) : wpList P ops Q (o :: rest) a w := by
  subst he
  refine wpList_build hg t parts ho (by rw [hf]; rfl) ?_
  rw [hf]
  exact h
/-- What is known of the printer: its bytes' cell, the features, whether ASCII alone is written. -/
structure PS (w : World) (p : Nat) (v : Value) : Prop where
  c9 : w.cell? ⟨p, 9, none⟩ = some v
  f9 : w.frozen? ⟨p, 9, none⟩ = false
  c24 : w.cell? ⟨p, 24, none⟩ = some (.int .u64 0)
  c31 : w.cell? ⟨p, 31, none⟩ = some (.bool true)
def NpB (w : World) (e : Ending) (w' : World) : Prop := ∃ p : Nat, e = .returned (.pointer (some ⟨p, 0, none⟩)) ∧ Hid (PS w' p (.slice none 0 0)) ∧ Hid (Below w.heap.size w w') ∧ Hid (w.heap.size ≤ p ∧ p < w'.heap.size)
theorem np_fin (w : World) (W : World) (hb : Below w.heap.size w W) (a b : Option Nat) : NpB w (.returned (.pointer (some ⟨W.heap.size, 0, none⟩))) (W.alloc (.cells (npCells (.map a) (.map b)) 80)) := by
  have hr : (W.alloc (.cells (npCells (.map a) (.map b)) 80)).heap[W.heap.size]? = some (.cells (npCells (.map a) (.map b)) 80 (0, 0)) := heap_alloc_new _ _
  have hc : ∀ i, (W.alloc (.cells (npCells (.map a) (.map b)) 80)).cell? ⟨W.heap.size, i, none⟩ = (npCells (.map a) (.map b))[i]? := fun i => cell_of_row _ _ i _ _ _ hr
  exact ⟨_, rfl, Lib.hid ⟨by rw [hc]; exact np_9 a b, frozen_of_row _ _ _ _ _ hr, by rw [hc]; exact np_24 a b, by rw [hc]; exact np_31 a b⟩, Lib.hid (hb.alloc hb.size _), Lib.hid ⟨hb.size, by simp⟩⟩
set_option maxRecDepth 100000 in
set_option maxHeartbeats 8000000 in
theorem np6 (w : World) : Calls Tryf.prog 6 #[.bool true, .bool false, .bool false, .int .i64 0, .slice none 0 0] w (NpB w) := by
  have hz := optY_run
  have hsz := optY_size
  have hne : ¬ optY = #[] := by intro e; rw [e] at hsz; cases hsz
  have hmm : ∀ w : World, (Instr.makeMap 50 none).run Tryf.prog w = .ok (.map (some w.heap.size)) (w.alloc (.map #[] 0)) := fun w => run_makeMap 50 w
  have hmm2 : ∀ w : World, (Instr.makeMap 51 none).run Tryf.prog w = .ok (.map (some w.heap.size)) (w.alloc (.map #[] 0)) := fun w => run_makeMap 51 w
  have HF := Lib.hid (np_fin w _ (((Below.refl _ w).alloc (Nat.le_refl _) (.map #[] 0)).alloc (by simp) (.map #[] 0)) (some w.heap.size) (some (w.heap.size + 1)))
  go_enter Tryf.func6, Tryf.ntmps6
  go_wp2_with (refine wpList_built rfl 80 _ rfl (vals := (npParts (.map (some w.heap.size)) (.map (some (w.heap.size + 1)))).toList) ?ce (np_built _ _) ?_)
  case ce => simp only [npParts]
  go_ret
  simpa using HF.out
theorem js8 (p : Nat) (a : Option Addr) (n c : Nat) (w : World) (hc : w.cell? ⟨p, 9, none⟩ = some (.slice a n c)) : Calls Tryf.prog 8 #[.pointer (some ⟨p, 0, none⟩)] w fun e w' => e = .returned (.slice a n c) ∧ w' = w := by
  go_enter Tryf.func8, Tryf.ntmps8
  go_wp2_with fail
  go_ret
  exact ⟨rfl, rfl⟩
theorem gd4 (s : ByteArray) (w : World) : Calls Tryf.prog 4 #[.string s] w fun e w' => w' = w ∧ ∃ v, e = .returned (.bool v) := by
  go_enter Tryf.func4, Tryf.ntmps4
  go_wp2_with fail
  all_goals go_ret
  all_goals exact ⟨rfl, _, rfl⟩
end Go.Proofs.YtpnhldglcnmhdaaFmt.Aux
