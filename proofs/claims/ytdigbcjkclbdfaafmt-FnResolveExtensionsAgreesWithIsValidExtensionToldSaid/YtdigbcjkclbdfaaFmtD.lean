/- Contracts of functions that the law of this seat reaches, and plain facts; no condition. -/
import Derived.Test.YtdigbcjkclbdfaaFmtProg
import Derived.WalkKit
import Derived.ProofKit
import Derived.OpenShut
import Derived.ShutString
import Derived.Test.YtdigbcjkclbdfaaFmtAid
import Derived.Test.YtdigbcjkclbdfaaFmtB
import Derived.Test.YtdigbcjkclbdfaaFmtC
import Derived.ArgAppend
import Derived.WalkSpells
import Derived.LoopTactic
import Derived.IntWalk
import Derived.Outline
import Derived.Deep.QuietTactic
import Derived.BigQuiet
import Derived.Deep.RegionHeld3
import Derived.Deep.RegionLaw
import Derived.StillTailTactics
import Derived.Defers
import Derived.Stop.CallBack
import Derived.Stop.IfaceNil
import GoSem.ClaimData
import Derived.Stop.Texts
import Derived.Stop.JoinedTold
import Derived.Stop.FmtTextKit
import Derived.Stop.FmtTextVerbs
namespace Go.Proofs.YtdigbcjkclbdfaaFmt.Aux
open Go.ChangeShapes Go.WideShapes Go.ChangeAt Go.RowKit
open Go.ChangeMaps (open_string shut_string)
set_option linter.unusedVariables false
open Fl Str Pb Qd PlainAid Aux
open Go.Extern.Stop Go.Stop Go.Extern Go.Kit
/-- The extensions of an absent list. -/
def defS : Nat → ByteArray
  | 0 => ⟨#[46, 116, 115, 120]⟩
  | 1 => ⟨#[46, 116, 115]⟩
  | 2 => ⟨#[46, 106, 115, 120]⟩
  | 3 => ⟨#[46, 106, 115]⟩
  | 4 => ⟨#[46, 99, 115, 115]⟩
  | _ => ⟨#[46, 106, 115, 111, 110]⟩
theorem defS_ok (i : Nat) (h : i < 6) : okx (defS i) = true := by
  rcases i with _ | _ | _ | _ | _ | _ | i
  · rfl
  · rfl
  · rfl
  · rfl
  · rfl
  · rfl
  · omega
theorem defS_size (i : Nat) : (defS i).size ≤ 5 := by
  rcases i with _ | _ | _ | _ | _ | i
  · decide
  · decide
  · decide
  · decide
  · decide
  · show (⟨#[46, 106, 115, 111, 110]⟩ : ByteArray).size ≤ 5
    decide
theorem defS_cnt : ∀ k, k ≤ 6 → cnt defS k = 0
  | 0, _ => rfl
  | k + 1, h => by simp only [cnt]; rw [if_pos (defS_ok k (by omega))]; exact defS_cnt k (by omega)
theorem def_sl (w : World) (s : Nat) (hs : w.heap.size = s) : Fsl (w.alloc (.cells #[.string ⟨#[46, 116, 115, 120]⟩, .string ⟨#[46, 116, 115]⟩, .string ⟨#[46, 106, 115, 120]⟩, .string ⟨#[46, 106, 115]⟩, .string ⟨#[46, 99, 115, 115]⟩, .string ⟨#[46, 106, 115, 111, 110]⟩] 9)) (some ⟨s, 0, none⟩) 6 (fun i => .string (defS i)) := by
  subst hs
  refine (Fblk.of_cells w 9 #[.string ⟨#[46, 116, 115, 120]⟩, .string ⟨#[46, 116, 115]⟩, .string ⟨#[46, 106, 115, 120]⟩, .string ⟨#[46, 106, 115]⟩, .string ⟨#[46, 99, 115, 115]⟩, .string ⟨#[46, 106, 115, 111, 110]⟩]).sl.congr fun i hi => ?_
  rcases i with _ | _ | _ | _ | _ | _ | i
  · rfl
  · rfl
  · rfl
  · rfl
  · rfl
  · rfl
  · simp at hi; omega
def V0 (w : World) (s : Nat) (e : Ending) (w' : World) : Prop := ∃ b, w.heap.size ≤ b ∧ e = .returned (.slice (some ⟨b, 0, none⟩) 6 6) ∧ Lg w' s [] (.slice none 0 0) ∧ Below w.heap.size w w' ∧ Fsl w' (some ⟨b, 0, none⟩) 6 (fun i => .string (defS i)) ∧ ∃ cs, w'.heap[b]? = some (.cells cs 9 (0, 0))
set_option maxRecDepth 100000 in
set_option maxHeartbeats 8000000 in
theorem vre0 (s : Nat) (w : World) (h : Lg w s [] (.slice none 0 0)) :
    Calls Tryf.prog 16 #[.agg #[.func (Fn.func 18) #[] #[.pointer (some ⟨s, 0, none⟩), .pointer (some ⟨s + 3, 0, none⟩), .pointer (some ⟨s + 4, 0, none⟩), .pointer (some ⟨s + 2, 0, none⟩)], .func (Fn.func 21) #[] #[.pointer (some ⟨s + 3, 0, none⟩), .pointer (some ⟨s + 4, 0, none⟩)],
  .func (Fn.func 22) #[] #[.pointer (some ⟨s + 3, 0, none⟩), .pointer (some ⟨s + 2, 0, none⟩)], .func (Fn.func 23) #[] #[.pointer (some ⟨s + 3, 0, none⟩), .pointer (some ⟨s + 2, 0, none⟩)], .int .i8 3, .map none], .slice none 0 0] w (V0 w s) := by
  have hnil : ∀ w : World, (binOp .eql 22 (.slice none 0 0) (.slice none 0 0)).run Tryf.prog w = .ok (.bool true) w := fun w => Lib.run_eql_slice_nil w 22 9 _ _ _ _ _ Tryf.underlying22
  have H := Lib.hid h
  clear h
  go_enter Tryf.func16, Tryf.ntmps16
  go_wp2_with fail
  go_ret
  exact ⟨w.heap.size + 1, by omega, rfl, H.out.below (by (repeat' (first | exact Below.refl _ _ | refine Below.drewR ?_ | (refine Below.alloc ?_ (by simp; omega) _) | (refine Below.alloc ?_ (by simp) _) | (refine Below.setCell ?_ (by simp; omega) _) | (refine Below.setCell ?_ (by simp) _)))), by (repeat' (first | exact Below.refl _ _ | refine Below.drewR ?_ | (refine Below.alloc ?_ (by simp; omega) _) | (refine Below.alloc ?_ (by simp) _) | (refine Below.setCell ?_ (by simp; omega) _) | (refine Below.setCell ?_ (by simp) _))), def_sl _ _ (by simp), _, at_alloc _ _ _ (by simp)⟩
theorem Rd.of {w : World} {s : Nat} {T : List ByteArray} {pa : Option Addr} {pc : Nat} (h : Lg w s T (.slice pa T.length pc)) : Rd w pa T.length := by
  intro i hi
  rcases id h.own.2 with ⟨e, e2⟩ | ⟨g, cap, cur, e, hb, hg, _⟩
  · omega
  · simp at e
    obtain ⟨rfl, rfl⟩ := e
    have hh := h.own
    refine ⟨g, T[i], rfl, lt_of_blk hg, ?_, ?_, ?_, ?_, ?_, ?_, ?_, ?_⟩
    · rw [hh.cellAt _ (by omega)]; exact mcs_at 0 (by omega) T i hi
    · rw [hh.cellAt _ (by omega)]; exact mcs_at 1 (by omega) T i hi
    · rw [hh.cellAt _ (by omega)]; exact mcs_at 2 (by omega) T i hi
    · rw [hh.cellAt _ (by omega)]; exact mcs_at 3 (by omega) T i hi
    · rw [hh.cellAt _ (by omega)]; exact mcs_at 4 (by omega) T i hi
    · rw [hh.cellAt _ (by omega)]; exact mcs_at 5 (by omega) T i hi
    · rw [hh.cellAt _ (by omega)]; exact mcs_at 6 (by omega) T i hi
    · rw [hh.cellAt _ (by omega)]; exact mcs_at 7 (by omega) T i hi
theorem Rd.locked {w : World} {s : Nat} {T : List ByteArray} {pa : Option Addr} {pc : Nat} (h : Lg w s T (.slice pa T.length pc)) : Rd (w.setCell ⟨s + 3, 0, none⟩ (.int .i32 1)) pa T.length := by
  intro i hi
  obtain ⟨b, t, e, hl, c0, c1, c2, c3, c4, c5, c6, c7⟩ := Rd.of h i hi
  have hb : s + 5 ≤ b := by subst e; exact (h.own.lt b rfl).1
  have q : ∀ o, (w.setCell ⟨s + 3, 0, none⟩ (.int .i32 1)).cell? ⟨b, o, none⟩ = w.cell? ⟨b, o, none⟩ := fun o => World.cell?_setCell_other _ _ _ _ (by intro e2; injection e2; omega)
  exact ⟨b, t, e, by simpa [World.setCell] using hl, by rw [q]; exact c0, by rw [q]; exact c1, by rw [q]; exact c2, by rw [q]; exact c3, by rw [q]; exact c4, by rw [q]; exact c5, by rw [q]; exact c6, by rw [q]; exact c7⟩
set_option maxRecDepth 100000 in
theorem done23 (s : Nat) (T : List ByteArray) (pa : Option Addr) (pc : Nat) (w : World) (h : Lg w s T (.slice pa T.length pc)) (hT : T.length ≤ 1048576) :
    Calls Tryf.prog 23 #[.pointer (some ⟨s + 3, 0, none⟩), .pointer (some ⟨s + 2, 0, none⟩)] w fun e w' => e = .returned (.slice pa T.length pc) ∧ Below s w w' ∧ Kp s w w' := by
  obtain ⟨c0, c2, c3, c4, z2, z3, z4, hl⟩ := h.cells
  have l0 : s < w.heap.size := by omega
  have l2 : s + 2 < w.heap.size := by omega
  have l3 : s + 3 < w.heap.size := by omega
  have HR := Lib.hid (fun (w' : World) hb => (h.relock (w' := w') hb).2)
  have HC := Lib.hid (srt pa T.length pc _ (Rd.locked h) hT)
  have hz : (w.setCell ⟨s + 3, 0, none⟩ (.int .i32 1)).heap.size = w.heap.size := by simp [World.setCell]
  have e2 : (w.setCell ⟨s + 3, 0, none⟩ (.int .i32 1)).cell? ⟨s + 2, 0, none⟩ = some (.slice pa T.length pc) := by rw [World.cell?_setCell_other _ _ _ _ (by intro e2; injection e2; omega)]; exact c2
  have e3 : (w.setCell ⟨s + 3, 0, none⟩ (.int .i32 1)).cell? ⟨s + 3, 0, none⟩ = some (.int .i32 1) := by simp [go_sem, c3]
  have e4 : (w.setCell ⟨s + 3, 0, none⟩ (.int .i32 1)).frozen? ⟨s + 3, 0, none⟩ = false := by simpa using z3
  have E2 := Lib.hid e2
  have E3 := Lib.hid e3
  have E4 := Lib.hid e4
  clear h e2 e3 e4
  go_enter_defers Tryf.func23, Tryf.ntmps23
  go_wp2_with (first | (go_at_call 19; refine (lock_ _ _ c3 z3).mono ?_; rintro e w' ⟨rfl, rfl⟩) | (go_at_call 24; refine HC.out.mono ?_; rintro e w1 ⟨rfl, hb⟩; have d2 := (hb.cell (p := ⟨s + 2, 0, none⟩) (by rw [hz]; exact l2)).trans E2.out; have d3 := (hb.cell (p := ⟨s + 3, 0, none⟩) (by rw [hz]; exact l3)).trans E3.out; have d4 := (hb.frozen (p := ⟨s + 3, 0, none⟩) (by rw [hz]; exact l3)).trans E4.out; have HB : Hid (Below w.heap.size (w.setCell ⟨s + 3, 0, none⟩ (.int .i32 1)) w1) := Lib.hid (by rw [hz] at hb; exact hb); clear hb))
  refine leaves_cons (f := 20) (args := #[.pointer (some ⟨s + 3, 0, none⟩)]) (by simp) (by simp [go_sem]) ?_
  refine (unlock_deferred ⟨s + 3, 0, none⟩ .returning _ d3 d4).mono ?_
  rintro e u' w'' ⟨rfl, rfl, rfl⟩
  exact ⟨_, results_tmp rfl _ _ _, rfl, HR.out _ HB.out⟩
end Go.Proofs.YtdigbcjkclbdfaaFmt.Aux
