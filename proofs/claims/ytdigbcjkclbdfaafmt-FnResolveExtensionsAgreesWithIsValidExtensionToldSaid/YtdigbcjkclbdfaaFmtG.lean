/- Contracts of functions that the law of this seat reaches, and plain facts; no condition. -/
import Derived.Test.YtdigbcjkclbdfaaFmtProg
import Derived.WalkKit
import Derived.ProofKit
import Derived.OpenShut
import Derived.ShutString
import Derived.Test.YtdigbcjkclbdfaaFmtAid
import Derived.Test.YtdigbcjkclbdfaaFmtE
import Derived.ArgAppend
import Derived.WalkSpells
import Derived.LoopTactic
import Derived.IntWalk
import Derived.Outline
import Derived.Deep.QuietTactic
import Derived.BigQuiet
import Derived.Deep.RegionHeld3
import Derived.Deep.RegionLaw
import Derived.StillTailTactics
import Derived.Defers
import Derived.Stop.CallBack
import Derived.Stop.IfaceNil
import GoSem.ClaimData
import Derived.Stop.Texts
import Derived.Stop.JoinedTold
import Derived.Stop.FmtTextKit
import Derived.Stop.FmtTextVerbs
namespace Go.Proofs.YtdigbcjkclbdfaaFmt.Aux
open Go.ChangeShapes Go.WideShapes Go.ChangeAt Go.RowKit
open Go.ChangeMaps (open_string shut_string)
set_option linter.unusedVariables false
open Fl Str Pb Qd PlainAid Aux
open Go.Extern.Stop Go.Stop Go.Extern Go.Kit
theorem bne_same (a : List UInt8) : (a != a) = false := by simp
def CpN (w : World) (n : Nat) (S : Nat → ByteArray) (e : Ending) (w' : World) : Prop := ∃ b, w.heap.size ≤ b ∧ e = .returned (.slice (some ⟨b, 0, none⟩) n n) ∧ Fsl w' (some ⟨b, 0, none⟩) n (fun j => .string (S j)) ∧ Below w.heap.size w w' ∧ b < w'.heap.size
theorem CpN.of {w w' : World} {x : Addr} {n : Nat} {S : Nat → ByteArray} {e : Ending} (h : Cop w (some x) n 9 (fun j => .string (S j)) e w') : CpN w n S e w' := by
  obtain ⟨a', c', rfl, hle, hf, hb, hiff, hor⟩ := h
  rcases hor with ⟨rfl, _⟩ | ⟨b, hbb, rfl, hblk, rfl⟩
  · exact absurd (hiff.2 rfl) (by simp)
  · exact ⟨b, hbb, rfl, hf, hb, hblk.lt⟩
theorem Cp0 {w w' : World} {n : Nat} {V : Nat → Value} {t : TypeId} {e : Ending} (hn : n = 0) (h : Cop w none n t V e w') : e = .returned (.slice none 0 0) ∧ Below w.heap.size w w' := by
  obtain ⟨a', c', rfl, hle, hf, hb, hiff, hor⟩ := h
  rcases hor with ⟨rfl, rfl⟩ | ⟨b, hbb, rfl, hblk, rfl⟩
  · exact ⟨by rw [hn], hb⟩
  · exact absurd (hiff.1 rfl) (by simp)
set_option maxRecDepth 100000 in
set_option maxHeartbeats 8000000 in
theorem mainN (F : Interp) (x : Addr) (n c : Nat) (S : Nat → ByteArray) (w : World) (hF : F.told.answers w.tape) (h : Fsl w (some x) n (fun j => .string (S j))) (m : ∀ j, j < n → (S j).size ≤ maxLen) :
    Calls Tryf.prog 3 #[.slice (some x) n c] w fun e w' => e = .returned (.bool true) ∧ Below w.heap.size w w' := by
  have H := Lib.hid h
  have HT := Lib.hid hF
  have HZ := Lib.hid (zb (some x) n c S w h m)
  clear h m hF
  go_enter Tryf.func3, Tryf.ntmps3
  go_wp2_with fail
  refine HZ.out.mono ?_
  rintro e w1 ⟨rfl, v, rfl, HV⟩
  clear HZ
  cases v
  · go_wp2_with fail
    go_ret
    exact ⟨rfl, Below.refl _ _⟩
  obtain ⟨k0, mm⟩ := HV.out rfl
  have M := Lib.hid mm
  clear mm HV
  go_wp2_with fail
  refine (sbs (some x) n c S _ H.out k0 M.out).mono ?_
  rintro e w1 ⟨rfl, v, rfl⟩
  by_cases hv : (1048576 : Int) < v
  · go_wp2_with fail
    go_ret
    exact ⟨rfl, Below.refl _ _⟩
  have HC := Lib.hid ((csu (some x) n c S w1 H.out (by omega)).mono fun _ _ => CpN.of)
  go_wp2_with fail
  refine HC.out.mono ?_
  rintro e w2 ⟨b, hbb, rfl, hf, hb, hbl⟩
  have F2 := Lib.hid hf
  have B2 := Lib.hid hb
  have HCN := Lib.hid (zzN F ⟨b, 0, none⟩ n n S w2 (by rw [hb.tape]; exact HT.out) hf hbl k0 M.out)
  clear hf hb HC
  go_wp2_with fail
  refine HCN.out.mono ?_
  rintro e w3 ⟨rfl, hb⟩
  have F3 := Lib.hid (F2.out.below hb)
  have B3 := Lib.hid (B2.out.trans (hb.mono B2.out.size))
  clear hb HCN F2
  obtain ⟨g, hg⟩ : ∃ g, decide (0 < cnt S n) = g := ⟨_, rfl⟩
  rw [hg]
  have HG := Lib.hid hg
  clear hg
  have hnil : ∀ w : World, (binOp .eql 22 (.slice (some ⟨b, 0, none⟩) n n) (.slice none 0 0)).run Tryf.prog w = .ok (.bool false) w := fun w => Lib.run_eql_slice_nil w 22 9 _ _ _ _ _ Tryf.underlying22
  go_wp2_with fail
  go_loopw [7, 8] (fun a i wr => ∃ k : Nat, k ≤ n ∧ i = .int .i64 k ∧ a = .bool (decide (0 < cnt S k)) ∧ Hid (Below w3.heap.size w3 wr)) (fun _ i _ => n - (intOf i).toNat)
  case atStart => exact ⟨0, Nat.zero_le _, rfl, rfl, Lib.hid (Below.refl _ _)⟩
  case round =>
    obtain ⟨k, hk, rfl, rfl, HB⟩ := hrel
    by_cases hlt : k < n
    · have x1 := (F3.out.below HB.out).cell k hlt
      rw [Nat.zero_add] at x1
      have hz := HB.out.size
      have hbl3 : b < wr.heap.size := (F3.out.below HB.out).lt (by omega)
      have hk2 : (k : Int) < (n : Int) := by omega
      have hbn := bne_same (S k).toList
      have hsz := M.out k hlt
      have HI : Hid (∀ w, Calls Tryf.prog 9 #[.string (S k)] w fun e w' => e = .returned (.bool (okx (S k))) ∧ w' = w) := Lib.hid fun w => isvz (S k) w hsz
      cases hok : okx (S k)
      · have HN : Hid (decide (0 < cnt S (k + 1)) = true) := Lib.hid (by simp [cnt, hok])
        rw [hok] at HI
        clear hok
        go_wp2_with fail
        go_quiet (fail)
        go_wp2_with fail
        refine (HI.out _).mono ?_
        rintro e w4 ⟨rfl, rfl⟩
        go_wp2_with fail
        go_roundw
        case rel => exact ⟨k + 1, by omega, by go_num, by rw [HN.out], Lib.hid (below_drewN HB.out _)⟩
        case measure => simp [intOf]; omega
      · have HN : Hid (decide (0 < cnt S (k + 1)) = decide (0 < cnt S k)) := Lib.hid (by simp [cnt, hok])
        rw [hok] at HI
        clear hok
        go_wp2_with fail
        go_quiet (fail)
        go_wp2_with fail
        refine (HI.out _).mono ?_
        rintro e w4 ⟨rfl, rfl⟩
        go_wp2_with fail
        go_roundw
        case rel => exact ⟨k + 1, by omega, by go_num, by rw [HN.out], Lib.hid (below_drewN HB.out _)⟩
        case measure => simp [intOf]; omega
    · have hk2 : ¬ (k : Int) < (n : Int) := by omega
      have hkn : k = n := by omega
      have hgk : decide (0 < cnt S k) = g := by rw [hkn]; exact HG.out
      rw [hgk]
      clear hkn hgk
      cases g
      · go_wp2_with fail
        go_ret
        exact ⟨rfl, B3.out.trans (HB.out.mono B3.out.size)⟩
      · go_wp2_with fail
        go_ret
        exact ⟨rfl, B3.out.trans (HB.out.mono B3.out.size)⟩
theorem def_slT (w : World) (t : TypeId) (s : Nat) (hs : w.heap.size = s) : Fsl (w.alloc (.cells #[.string ⟨#[46, 116, 115, 120]⟩, .string ⟨#[46, 116, 115]⟩, .string ⟨#[46, 106, 115, 120]⟩, .string ⟨#[46, 106, 115]⟩, .string ⟨#[46, 99, 115, 115]⟩, .string ⟨#[46, 106, 115, 111, 110]⟩] t)) (some ⟨s, 0, none⟩) 6 (fun i => .string (defS i)) := by
  subst hs
  refine (Fblk.of_cells w t #[.string ⟨#[46, 116, 115, 120]⟩, .string ⟨#[46, 116, 115]⟩, .string ⟨#[46, 106, 115, 120]⟩, .string ⟨#[46, 106, 115]⟩, .string ⟨#[46, 99, 115, 115]⟩, .string ⟨#[46, 106, 115, 111, 110]⟩]).sl.congr fun i hi => ?_
  rcases i with _ | _ | _ | _ | _ | _ | i
  · rfl
  · rfl
  · rfl
  · rfl
  · rfl
  · rfl
  · simp at hi; omega
set_option maxRecDepth 100000 in
set_option maxHeartbeats 8000000 in
theorem main0 (c : Nat) (w : World) : 
    Calls Tryf.prog 3 #[.slice none 0 c] w fun e w' => e = .returned (.bool true) ∧ Below w.heap.size w w' := by
  have HZ := Lib.hid (zb none 0 c (fun _ => ByteArray.empty) w (Fsl.nil _ _) (fun j hj => absurd hj (Nat.not_lt_zero _)))
  go_enter Tryf.func3, Tryf.ntmps3
  go_wp2_with fail
  refine HZ.out.mono ?_
  rintro e w1 ⟨rfl, v, rfl, HV⟩
  clear HZ HV
  cases v
  · go_wp2_with fail
    go_ret
    exact ⟨rfl, Below.refl _ _⟩
  go_wp2_with fail
  refine (sbs none 0 c (fun _ => ByteArray.empty) _ (Fsl.nil _ _) (by omega) (fun j hj => absurd hj (Nat.not_lt_zero _))).mono ?_
  rintro e w1 ⟨rfl, v, rfl⟩
  by_cases hv : (1048576 : Int) < v
  · go_wp2_with fail
    go_ret
    exact ⟨rfl, Below.refl _ _⟩
  have HC := Lib.hid ((csu none 0 c (fun _ => ByteArray.empty) w1 (Fsl.nil _ _) (by omega)).mono fun _ _ => Cp0 rfl)
  go_wp2_with fail
  refine HC.out.mono ?_
  rintro e w2 ⟨rfl, hb⟩
  have B2 := Lib.hid hb
  clear hb HC
  go_wp2_with fail
  refine (zz0 _).mono ?_
  rintro e w3 ⟨b, hbb, rfl, hb, hf⟩
  have F3 := Lib.hid hf
  have B3 := Lib.hid (B2.out.trans (hb.mono B2.out.size))
  have hbl : b < w3.heap.size := hf.lt (by omega)
  clear hb hf
  have hnil : ∀ w : World, (binOp .eql 22 (.slice none 0 0) (.slice none 0 0)).run Tryf.prog w = .ok (.bool true) w := fun w => Lib.run_eql_slice_nil w 22 9 _ _ _ _ _ Tryf.underlying22
  have HW : Hid (Below w3.heap.size w3 (w3.alloc (.cells #[.string ⟨#[46, 116, 115, 120]⟩, .string ⟨#[46, 116, 115]⟩, .string ⟨#[46, 106, 115, 120]⟩, .string ⟨#[46, 106, 115]⟩, .string ⟨#[46, 99, 115, 115]⟩, .string ⟨#[46, 106, 115, 111, 110]⟩] 28)) ∧ Fsl (w3.alloc (.cells #[.string ⟨#[46, 116, 115, 120]⟩, .string ⟨#[46, 116, 115]⟩, .string ⟨#[46, 106, 115, 120]⟩, .string ⟨#[46, 106, 115]⟩, .string ⟨#[46, 99, 115, 115]⟩, .string ⟨#[46, 106, 115, 111, 110]⟩] 28)) (some ⟨w3.heap.size, 0, none⟩) 6 (fun i => .string (defS i))) := Lib.hid ⟨by (repeat' (first | exact Below.refl _ _ | refine Below.drewR ?_ | (refine Below.alloc ?_ (by simp; omega) _) | (refine Below.alloc ?_ (by simp) _) | (refine Below.setCell ?_ (by simp; omega) _) | (refine Below.setCell ?_ (by simp) _))), def_slT w3 28 _ rfl⟩
  go_wp2_with fail
  go_loopw [6] (fun i wr => ∃ k : Nat, k ≤ 6 ∧ i = .int .i64 k ∧ Hid (Below w3.heap.size w3 wr ∧ Fsl wr (some ⟨w3.heap.size, 0, none⟩) 6 (fun i => .string (defS i)))) (fun i _ => 6 - (intOf i).toNat)
  case atStart => exact ⟨0, by omega, rfl, HW⟩
  case round =>
    obtain ⟨k, hk, rfl, HB⟩ := hrel
    by_cases hlt : k < 6
    · have x1 := (F3.out.below HB.out.1).cell k hlt
      have x2 := HB.out.2.cell k hlt
      rw [Nat.zero_add] at x1 x2
      have hbl3 : b < wr.heap.size := (F3.out.below HB.out.1).lt (by omega)
      have hbl4 := HB.out.2.lt (by omega)
      have hk2 : (k : Int) < 6 := by omega
      have hbn := bne_same (defS k).toList
      have HI : Hid (∀ w, Calls Tryf.prog 9 #[.string (defS k)] w fun e w' => e = .returned (.bool true) ∧ w' = w) := Lib.hid fun w => by
        have := isvz (defS k) w (by have := defS_size k; omega)
        rw [defS_ok k hlt] at this
        exact this
      go_wp2_with fail
      go_quiet (exact (HI.out _).mono fun _ _ h => ⟨h.1, _, h.2⟩)
      go_wp2_with fail
      go_roundw
      case rel => exact ⟨k + 1, by omega, by go_num, Lib.hid ⟨below_drewN HB.out.1 _, HB.out.2.drewN _⟩⟩
      case measure => simp [intOf]; omega
    · have hk2 : ¬ (k : Int) < 6 := by omega
      go_wp2_with fail
      go_ret
      exact ⟨rfl, B3.out.trans (HB.out.1.mono B3.out.size)⟩
theorem main (F : Interp) (a : Option Addr) (n c : Nat) (S : Nat → ByteArray) (w : World) (hF : F.told.answers w.tape) (h : Fsl w a n (fun j => .string (S j))) (m : ∀ j, j < n → (S j).size ≤ maxLen) :
    Calls Tryf.prog 3 #[.slice a n c] w fun e w' => e = .returned (.bool true) ∧ Below w.heap.size w w' := by
  cases a with
  | none =>
    obtain rfl := h.none_
    exact main0 c w
  | some x => exact mainN F x n c S w hF h m
end Go.Proofs.YtdigbcjkclbdfaaFmt.Aux
