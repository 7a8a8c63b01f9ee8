/- Contracts of functions that the law of this seat reaches, and plain facts; no condition. -/
import Derived.Test.YtdigbcjkclbdfaaFmtProg
import Derived.WalkKit
import Derived.ProofKit
import Derived.OpenShut
import Derived.ShutString
import Derived.Test.YtdigbcjkclbdfaaFmtAid
import Derived.Test.YtdigbcjkclbdfaaFmtA
import Derived.ArgAppend
import Derived.WalkSpells
import Derived.LoopTactic
import Derived.IntWalk
import Derived.Outline
import Derived.Deep.QuietTactic
import Derived.BigQuiet
import Derived.Deep.RegionHeld3
import Derived.Deep.RegionLaw
import Derived.StillTailTactics
import Derived.Defers
import Derived.Stop.CallBack
import Derived.Stop.IfaceNil
import GoSem.ClaimData
import Derived.Stop.Texts
import Derived.Stop.JoinedTold
import Derived.Stop.FmtTextKit
import Derived.Stop.FmtTextVerbs
namespace Go.Proofs.YtdigbcjkclbdfaaFmt.Aux
open Go.ChangeShapes Go.WideShapes Go.ChangeAt Go.RowKit
open Go.ChangeMaps (open_string shut_string)
set_option linter.unusedVariables false
open Fl Str Pb Qd PlainAid Aux
open Go.Extern.Stop Go.Stop Go.Extern Go.Kit
def fmtT : ByteArray := ⟨#[73, 110, 118, 97, 108, 105, 100, 32, 102, 105, 108, 101, 32, 101, 120, 116, 101, 110, 115, 105, 111, 110, 58, 32, 37, 113]⟩
theorem callF (args : Array Value) (w : World) : (callFunc 26 args).run Tryf.prog w = ((FmtStop.sprintf #[9, 124] #[9] args).run Tryf.prog w).andThen fun v w' => .ok (.value v) w' :=
  run_callFunc_extern Tryf.func26 (by kernel_rfl) (by kernel_rfl) (by kernel_rfl) (by kernel_rfl) args w
theorem guardN (name : String) (w : World) : (FmtStop.guard name).run Tryf.prog w = .ok () w := by kernel_rfl
theorem fmtq : FmtStop.printed? ⟨#[73, 110, 118, 97, 108, 105, 100, 32, 102, 105, 108, 101, 32, 101, 120, 116, 101, 110, 115, 105, 111, 110, 58, 32, 37, 113]⟩ 1 = some [(0, 113, false)] := by kernel_rfl
theorem fmtqr (w : World) : (FmtDoors.printed ⟨#[73, 110, 118, 97, 108, 105, 100, 32, 102, 105, 108, 101, 32, 101, 120, 116, 101, 110, 115, 105, 111, 110, 58, 32, 37, 113]⟩ 1).run Tryf.prog w = .ok [(0, 113, false)] w := by kernel_rfl
def shape9 : List UInt8 := [12, 6, 0, 0, 0, 0, 0, 0, 0, 115, 116, 114, 105, 110, 103]
theorem op9 (name : String) (x : ByteArray) (w : World) : (FmtStop.operand name false 113 false (.iface 9 (.string x))).run Tryf.prog w = .ok (shape9, FmtStop.pack x.data.toList) w := by kernel_rfl
/-- How many of the first k are refused. -/
def cnt (S : Nat → ByteArray) : Nat → Nat
  | 0 => 0
  | k + 1 => if okx (S k) then cnt S k else cnt S k + 1
theorem cnt_le (S : Nat → ByteArray) : ∀ k, cnt S k ≤ k
  | 0 => Nat.le_refl _
  | k + 1 => by
    have := cnt_le S k
    simp only [cnt]
    split <;> omega
/-- The log box's cells. -/
def Bx (s bx : Nat) (w : World) : Prop := w.heap[bx]? = some (.cells (logV s) 40 (0, 0))
/-- Where the checker stands: k looked at. -/
def Vs (w : World) (s bx : Nat) (S : Nat → ByteArray) (k : Nat) (wr : World) : Prop := ∃ T pa pc, Lg wr s T (.slice pa T.length pc) ∧ T.length = cnt S k ∧ Below s w wr ∧ Bx s bx wr ∧ Kp s w wr
theorem Bx.cells {s bx : Nat} {w : World} (h : Bx s bx w) : w.cell? ⟨bx, 0, none⟩ = some (.func (Fn.func 18) #[] #[.pointer (some ⟨s, 0, none⟩), .pointer (some ⟨s + 3, 0, none⟩), .pointer (some ⟨s + 4, 0, none⟩), .pointer (some ⟨s + 2, 0, none⟩)]) ∧
    w.cell? ⟨bx, 1, none⟩ = some (.func (Fn.func 21) #[] #[.pointer (some ⟨s + 3, 0, none⟩), .pointer (some ⟨s + 4, 0, none⟩)]) ∧ w.cell? ⟨bx, 2, none⟩ = some (.func (Fn.func 22) #[] #[.pointer (some ⟨s + 3, 0, none⟩), .pointer (some ⟨s + 2, 0, none⟩)]) ∧
    w.cell? ⟨bx, 3, none⟩ = some (.func (Fn.func 23) #[] #[.pointer (some ⟨s + 3, 0, none⟩), .pointer (some ⟨s + 2, 0, none⟩)]) ∧ w.cell? ⟨bx, 4, none⟩ = some (.int .i8 3) ∧ w.cell? ⟨bx, 5, none⟩ = some (.map none) ∧ bx < w.heap.size :=
  ⟨by rw [cell_of_row w bx 0 _ _ _ h]; rfl, by rw [cell_of_row w bx 1 _ _ _ h]; rfl, by rw [cell_of_row w bx 2 _ _ _ h]; rfl, by rw [cell_of_row w bx 3 _ _ _ h]; rfl, by rw [cell_of_row w bx 4 _ _ _ h]; rfl, by rw [cell_of_row w bx 5 _ _ _ h]; rfl, lt_of_blk h⟩
theorem Vs.start {w : World} {s : Nat} {S : Nat → ByteArray} (h : Lg w s [] (.slice none 0 0)) : Vs w s w.heap.size S 0 (w.alloc (.cells (logV s) 40)) := by
  have hb : Below w.heap.size w (w.alloc (.cells (logV s) 40)) := by (repeat' (first | exact Below.refl _ _ | refine Below.drewR ?_ | (refine Below.alloc ?_ (by simp; omega) _) | (refine Below.alloc ?_ (by simp) _) | (refine Below.setCell ?_ (by simp; omega) _) | (refine Below.setCell ?_ (by simp) _)))
  have := lt_of_blk h.he
  exact ⟨[], none, 0, h.below hb, rfl, hb.mono (by omega), heap_alloc_new _ _, Kp.of_below hb⟩
theorem Vs.ok {w wr : World} {s bx : Nat} {S : Nat → ByteArray} {k : Nat} (h : Vs w s bx S k wr) (ho : okx (S k) = true) : Vs w s bx S (k + 1) wr := by
  obtain ⟨T, pa, pc, h1, h2, h3, h4, h5⟩ := h
  exact ⟨T, pa, pc, h1, by simp only [cnt, ho]; exact h2, h3, h4, h5⟩
/-- What a refused one does. -/
theorem Vs.no {w wr w1 w2 : World} {s bx : Nat} {S : Nat → ByteArray} {k : Nat} {T : List ByteArray} {t : ByteArray} {pv' : Value} (h2 : T.length = cnt S k) (h3 : Below s w wr) (hkp : Kp s w wr) (hbx : Bx s bx wr) (hs : s + 5 ≤ bx) (hsz : s ≤ wr.heap.size) (hb : Below wr.heap.size wr w1) (hl : Lg w2 s (T ++ [t]) pv') (hb2 : Below s w1 w2) (hk : Kp s w1 w2) (ho : okx (S k) = false) : Vs w s bx S (k + 1) w2 := by
  obtain ⟨pa, pc, rfl⟩ := hl.slice
  have e1 := hb.block bx (lt_of_blk hbx)
  refine ⟨T ++ [t], pa, pc, hl, by simp [cnt, ho, h2], (h3.trans (hb.mono hsz)).trans hb2, ?_, (hkp.trans (Kp.of_below hb)).trans hk⟩
  exact ((hk bx _ _ hs (e1.trans hbx) (by decide)).trans e1).trans hbx
/-- What the checker leaves. -/
def Ve (w : World) (s : Nat) (S : Nat → ByteArray) (n : Nat) (w' : World) : Prop := ∃ T pa pc, Lg w' s T (.slice pa T.length pc) ∧ T.length = cnt S n ∧ Below s w w' ∧ Kp s w w'
set_option maxRecDepth 100000 in
set_option maxHeartbeats 8000000 in
theorem vreN (F : Interp) (s : Nat) (x : Addr) (n c : Nat) (S : Nat → ByteArray) (w : World) (hF : F.told.answers w.tape) (h : Lg w s [] (.slice none 0 0)) (hsl : Fsl w (some x) n (fun j => .string (S j))) (hx : x.block < s) (hn : n ≤ 1048576) (hS : ∀ j, j < n → (S j).size ≤ 1048576) :
    Calls Tryf.prog 16 #[.agg #[.func (Fn.func 18) #[] #[.pointer (some ⟨s, 0, none⟩), .pointer (some ⟨s + 3, 0, none⟩), .pointer (some ⟨s + 4, 0, none⟩), .pointer (some ⟨s + 2, 0, none⟩)], .func (Fn.func 21) #[] #[.pointer (some ⟨s + 3, 0, none⟩), .pointer (some ⟨s + 4, 0, none⟩)],
  .func (Fn.func 22) #[] #[.pointer (some ⟨s + 3, 0, none⟩), .pointer (some ⟨s + 2, 0, none⟩)], .func (Fn.func 23) #[] #[.pointer (some ⟨s + 3, 0, none⟩), .pointer (some ⟨s + 2, 0, none⟩)], .int .i8 3, .map none], .slice (some x) n c] w
      fun e w' => e = .returned (.slice (some x) n c) ∧ Ve w s S n w' := by
  have hnil : ∀ w : World, (binOp .eql 22 (.slice (some x) n c) (.slice none 0 0)).run Tryf.prog w = .ok (.bool false) w := fun w => Lib.run_eql_slice_nil w 22 9 _ _ _ _ _ Tryf.underlying22
  have H0 := Lib.hid h
  have HV := Lib.hid (Vs.start (S := S) h)
  have HS := Lib.hid hS
  have HT := Lib.hid hF
  have hlw := lt_of_blk h.he
  have HL := Lib.hid hsl
  have HX := Lib.hid hx
  clear hF h hsl hS hx
  go_enter Tryf.func16, Tryf.ntmps16
  go_wp2_with fail
  go_loopw [6, 12] (fun _ i wr => ∃ k : Nat, k ≤ n ∧ i = .int .i64 k ∧ Hid (Vs w s w.heap.size S k wr)) (fun _ i _ => n - (intOf i).toNat)
  case atStart => exact ⟨0, Nat.zero_le _, rfl, HV⟩
  case round =>
    obtain ⟨k, hk, rfl, HV⟩ := hrel
    obtain ⟨T, pa, pc, hlg, hlen, hlow, hbx, hkp⟩ := HV.out
    have HKP := Lib.hid hkp
    clear hkp
    by_cases hlt : k < n
    · obtain ⟨b, off, e, hlb, hc⟩ := HL.out.at k hlt
      injection e with e
      subst e
      have hc := (hlow.cell (p := ⟨b, off + k, none⟩) HX.out).trans hc
      have hk2 : (k : Int) < (n : Int) := by omega
      have hsz := HS.out k hlt
      have hlr := lt_of_blk hlg.he
      obtain ⟨d0, d1, d2, d3, d4, d5, hlx⟩ := hbx.cells
      have HLG := Lib.hid hlg
      have HLN := Lib.hid hlen
      have HLO := Lib.hid hlow
      have HBX := Lib.hid hbx
      have hcl := cnt_le S k
      have hTl : T.length ≤ 1048576 := by omega
      have hlb2 : b < wr.heap.size := by have := HX.out; simp at this; omega
      clear hlg hlen hlow hbx
      cases hok : okx (S k)
      · have HNO := Lib.hid hok
        have HI : Hid (∀ w, Calls Tryf.prog 17 #[.string (S k)] w fun e w' => e = .returned (.bool false) ∧ w' = w) := Lib.hid fun w => by have := isv (S k) w hsz; rw [hok] at this; exact this
        have HE : Hid (∀ t w', Below wr.heap.size wr w' → Calls Tryf.prog 25 #[.agg #[.func (Fn.func 18) #[] #[.pointer (some ⟨s, 0, none⟩), .pointer (some ⟨s + 3, 0, none⟩), .pointer (some ⟨s + 4, 0, none⟩), .pointer (some ⟨s + 2, 0, none⟩)], .func (Fn.func 21) #[] #[.pointer (some ⟨s + 3, 0, none⟩), .pointer (some ⟨s + 4, 0, none⟩)],
  .func (Fn.func 22) #[] #[.pointer (some ⟨s + 3, 0, none⟩), .pointer (some ⟨s + 2, 0, none⟩)], .func (Fn.func 23) #[] #[.pointer (some ⟨s + 3, 0, none⟩), .pointer (some ⟨s + 2, 0, none⟩)], .int .i8 3, .map none], .pointer none, .agg #[.int .i32 0, .int .i32 0], .string t] w' fun e w2 => e = .returned (.tuple #[]) ∧ Hid (Vs w s w.heap.size S (k + 1) w2)) :=
          Lib.hid fun t w' hb => (addE s T pa pc t w' (HLG.out.below hb) hTl).mono fun e w2 ⟨h1, pv', h2, h3, h4⟩ => ⟨h1, Lib.hid (Vs.no HLN.out HLO.out HKP.out HBX.out (by omega) (by omega) hb h2 h3 h4 HNO.out)⟩
        have hF' := answers_open (show F.told.answers wr.tape by rw [HLO.out.tape]; exact HT.out)
        have hc26 := callF
        have hg := guardN
        have hp := fmtq
        have hp2 := fmtqr
        have ho := op9
        clear hok
        go_wp2_with fail
        refine (HI.out _).mono ?_
        rintro e w1 ⟨rfl, rfl⟩
        go_wp2_with fail
        go_region_with (go_at_call 25; refine (HE.out _ _ (by first | exact belD (belD (by (repeat' (first | exact Below.refl _ _ | refine Below.drewR ?_ | (refine Below.alloc ?_ (by simp; omega) _) | (refine Below.alloc ?_ (by simp) _) | (refine Below.setCell ?_ (by simp; omega) _) | (refine Below.setCell ?_ (by simp) _))))) | exact belD (by (repeat' (first | exact Below.refl _ _ | refine Below.drewR ?_ | (refine Below.alloc ?_ (by simp; omega) _) | (refine Below.alloc ?_ (by simp) _) | (refine Below.setCell ?_ (by simp; omega) _) | (refine Below.setCell ?_ (by simp) _)))))).mono ?_; rintro e w2 ⟨rfl, HV2⟩)
        all_goals
          go_wp2_with fail
          go_roundw
          case rel => exact ⟨k + 1, by omega, by go_num, HV2⟩
          case measure => simp [intOf]; omega
      · have HNO := Lib.hid (HV.out.ok hok)
        have HI : Hid (∀ w, Calls Tryf.prog 17 #[.string (S k)] w fun e w' => e = .returned (.bool true) ∧ w' = w) := Lib.hid fun w => by have := isv (S k) w hsz; rw [hok] at this; exact this
        clear hok
        go_wp2_with fail
        refine (HI.out _).mono ?_
        rintro e w1 ⟨rfl, rfl⟩
        go_wp2_with fail
        go_roundw
        case rel => exact ⟨k + 1, by omega, by go_num, HNO⟩
        case measure => simp [intOf]; omega
    · have hk2 : ¬ (k : Int) < (n : Int) := by omega
      have hkn : k = n := by omega
      have HR : Hid (Ve w s S n wr) := Lib.hid ⟨T, pa, pc, hlg, by rw [hlen, hkn], hlow, HKP.out⟩
      clear hkn hlg hlen hlow hbx
      go_wp2_with fail
      go_ret
      exact ⟨rfl, HR.out⟩
end Go.Proofs.YtdigbcjkclbdfaaFmt.Aux
