/- Contracts of functions that the law of this seat reaches, and plain facts; no condition. -/
import Derived.Test.YtdigbcjkclbdfaaFmtProg
import Derived.WalkKit
import Derived.ProofKit
import Derived.OpenShut
import Derived.ShutString
import Derived.Test.YtdigbcjkclbdfaaFmtAid
import Derived.Test.YtdigbcjkclbdfaaFmtE
import Derived.Lib.LazyBuf
import Derived.ArgAppend
import Derived.WalkSpells
import Derived.LoopTactic
import Derived.IntWalk
import Derived.Outline
import Derived.Deep.QuietTactic
import Derived.BigQuiet
import Derived.Deep.RegionHeld3
import Derived.Deep.RegionLaw
import Derived.StillTailTactics
import Derived.Defers
import Derived.Stop.CallBack
import Derived.Stop.IfaceNil
import GoSem.ClaimData
import Derived.Stop.Texts
import Derived.Stop.JoinedTold
import Derived.Stop.FmtTextKit
import Derived.Stop.FmtTextVerbs
namespace Go.Proofs.YtdigbcjkclbdfaaFmt.Aux
open Go.ChangeShapes Go.WideShapes Go.ChangeAt Go.RowKit
open Go.ChangeMaps (open_string shut_string)
set_option linter.unusedVariables false
open Fl Str Pb Qd PlainAid Aux
open Go.Extern.Stop Go.Stop Go.Extern Go.Kit
theorem bne_same (a : List UInt8) : (a != a) = false := by simp
/-- Two lists of the same strings are found equal. -/
theorem eqS (b b' n c c' : Nat) (S : Nat → ByteArray) (w : World) (h : Fsl w (some ⟨b, 0, none⟩) n (fun j => .string (S j))) (h' : Fsl w (some ⟨b', 0, none⟩) n (fun j => .string (S j))) (hn : n ≤ 1048576) :
    Calls Tryf.prog 14 #[.slice (some ⟨b, 0, none⟩) n c, .slice (some ⟨b', 0, none⟩) n c'] w fun e w' => e = .returned (.bool true) ∧ Below w.heap.size w w' := by
  have H := Lib.hid h
  have H' := Lib.hid h'
  clear h h'
  go_enter Tryf.func14, Tryf.ntmps14
  go_wp2_with fail
  go_loopw [5] (fun i wr => ∃ k : Nat, k ≤ n ∧ i = .int .i64 k ∧ Hid (Below w.heap.size w wr)) (fun i _ => n - (intOf i).toNat)
  case atStart => exact ⟨0, Nat.zero_le _, rfl, Lib.hid (Below.refl _ _)⟩
  case round =>
    obtain ⟨k, hk, rfl, HB⟩ := hrel
    by_cases hlt : k < n
    · have x1 := (H.out.below HB.out).cell k hlt
      have x2 := (H'.out.below HB.out).cell k hlt
      rw [Nat.zero_add] at x1 x2
      have hk2 : (k : Int) < (n : Int) := by omega
      have hbn := bne_same (S k).toList
      go_wp2_with fail
      go_quiet (fail)
      go_wp2_with fail
      go_roundw
      case rel => exact ⟨k + 1, by omega, by go_num, Lib.hid (below_drewN HB.out _)⟩
      case measure => simp [intOf]; omega
    · have hk2 : ¬ (k : Int) < (n : Int) := by omega
      go_wp2_with fail
      go_ret
      exact ⟨rfl, HB.out⟩
def CpN (w : World) (n : Nat) (S : Nat → ByteArray) (e : Ending) (w' : World) : Prop := ∃ b, w.heap.size ≤ b ∧ e = .returned (.slice (some ⟨b, 0, none⟩) n n) ∧ Fsl w' (some ⟨b, 0, none⟩) n (fun j => .string (S j)) ∧ Below w.heap.size w w' ∧ b < w'.heap.size
theorem CpN.of {w w' : World} {x : Addr} {n : Nat} {S : Nat → ByteArray} {e : Ending} (h : Cop w (some x) n 9 (fun j => .string (S j)) e w') : CpN w n S e w' := by
  obtain ⟨a', c', rfl, hle, hf, hb, hiff, hor⟩ := h
  rcases hor with ⟨rfl, _⟩ | ⟨b, hbb, rfl, hblk, rfl⟩
  · exact absurd (hiff.2 rfl) (by simp)
  · exact ⟨b, hbb, rfl, hf, hb, hblk.lt⟩
theorem Cp0 {w w' : World} {n : Nat} {V : Nat → Value} {t : TypeId} {e : Ending} (hn : n = 0) (h : Cop w none n t V e w') : e = .returned (.slice none 0 0) ∧ Below w.heap.size w w' := by
  obtain ⟨a', c', rfl, hle, hf, hb, hiff, hor⟩ := h
  rcases hor with ⟨rfl, rfl⟩ | ⟨b, hbb, rfl, hblk, rfl⟩
  · exact ⟨by rw [hn], hb⟩
  · exact absurd (hiff.1 rfl) (by simp)
set_option maxRecDepth 100000 in
set_option maxHeartbeats 8000000 in
theorem mainN (F : Interp) (x : Addr) (n c : Nat) (S : Nat → ByteArray) (w : World) (hF : F.told.answers w.tape) (h : Fsl w (some x) n (fun j => .string (S j))) (m : ∀ j, j < n → (S j).size ≤ maxLen) :
    Calls Tryf.prog 4 #[.slice (some x) n c] w fun e w' => e = .returned (.bool true) ∧ Below w.heap.size w w' := by
  have H := Lib.hid h
  have HT := Lib.hid hF
  have HZ := Lib.hid (zc (some x) n c S w h m)
  clear h m hF
  go_enter Tryf.func4, Tryf.ntmps4
  go_wp2_with fail
  refine HZ.out.mono ?_
  rintro e w1 ⟨rfl, v, rfl, HV⟩
  clear HZ
  cases v
  · go_wp2_with fail
    go_ret
    exact ⟨rfl, Below.refl _ _⟩
  obtain ⟨k0, mm⟩ := HV.out rfl
  have M := Lib.hid mm
  clear mm HV
  go_wp2_with fail
  refine (sbt (some x) n c S _ H.out k0 M.out).mono ?_
  rintro e w1 ⟨rfl, v, rfl⟩
  by_cases hv : (1048576 : Int) < v
  · go_wp2_with fail
    go_ret
    exact ⟨rfl, Below.refl _ _⟩
  have HC := Lib.hid ((cst (some x) n c S w1 H.out (by omega)).mono fun _ _ => CpN.of)
  go_wp2_with fail
  refine HC.out.mono ?_
  rintro e w2 ⟨b, hbb, rfl, hf, hb, hbl⟩
  have F2 := Lib.hid hf
  have B2 := Lib.hid hb
  have HCN := Lib.hid (yyN F ⟨b, 0, none⟩ n n S w2 (by rw [hb.tape]; exact HT.out) hf hbl k0 M.out)
  clear hf hb HC
  go_wp2_with fail
  refine HCN.out.mono ?_
  rintro e w3 ⟨rfl, hb⟩
  have F3 := Lib.hid (F2.out.below hb)
  have B3 := Lib.hid (B2.out.trans (hb.mono B2.out.size))
  clear hb HCN F2
  have HC := Lib.hid ((cst (some ⟨b, 0, none⟩) n n S w3 F3.out (by omega)).mono fun _ _ => CpN.of)
  go_wp2_with fail
  refine HC.out.mono ?_
  rintro e w4 ⟨b4, hbb4, rfl, hf, hb, hbl4⟩
  have F4 := Lib.hid (And.intro (F3.out.below hb) hf)
  have B4 := Lib.hid (B3.out.trans (hb.mono B3.out.size))
  clear hf hb HC F3
  have HCN := Lib.hid (yyN F ⟨b4, 0, none⟩ n n S w4 (by rw [B4.out.tape]; exact HT.out) F4.out.2 hbl4 k0 M.out)
  go_wp2_with fail
  refine HCN.out.mono ?_
  rintro e w5 ⟨rfl, hb⟩
  have HE := Lib.hid (eqS b b4 n n n S w5 (F4.out.1.below hb) (F4.out.2.below hb) k0)
  have B5 := Lib.hid (B4.out.trans (hb.mono B4.out.size))
  clear hb HCN F4
  have hn1 : ∀ w : World, (binOp .neq 22 (.slice (some ⟨b, 0, none⟩) n n) (.slice none 0 0)).run Tryf.prog w = .ok (.bool true) w := fun w => run_neq_slice_nil w 22 9 _ _ _ Tryf.underlying22
  have hn2 : ∀ w : World, (binOp .neq 22 (.slice (some ⟨b4, 0, none⟩) n n) (.slice none 0 0)).run Tryf.prog w = .ok (.bool true) w := fun w => run_neq_slice_nil w 22 9 _ _ _ Tryf.underlying22
  generalize cnt S n = q
  go_wp2_with fail
  refine HE.out.mono ?_
  rintro e w6 ⟨rfl, hb⟩
  have B6 := Lib.hid (B5.out.trans (hb.mono B5.out.size))
  clear hb HE
  go_wp2_with fail
  go_ret
  exact ⟨rfl, B6.out⟩
set_option maxRecDepth 100000 in
set_option maxHeartbeats 8000000 in
theorem main0 (F : Interp) (c : Nat) (w : World) (hF : F.told.answers w.tape) :
    Calls Tryf.prog 4 #[.slice none 0 c] w fun e w' => e = .returned (.bool true) ∧ Below w.heap.size w w' := by
  have HT := Lib.hid hF
  have HZ := Lib.hid (zc none 0 c (fun _ => ByteArray.empty) w (Fsl.nil _ _) (fun j hj => absurd hj (Nat.not_lt_zero _)))
  clear hF
  go_enter Tryf.func4, Tryf.ntmps4
  go_wp2_with fail
  refine HZ.out.mono ?_
  rintro e w1 ⟨rfl, v, rfl, HV⟩
  clear HZ HV
  cases v
  · go_wp2_with fail
    go_ret
    exact ⟨rfl, Below.refl _ _⟩
  go_wp2_with fail
  refine (sbt none 0 c (fun _ => ByteArray.empty) _ (Fsl.nil _ _) (by omega) (fun j hj => absurd hj (Nat.not_lt_zero _))).mono ?_
  rintro e w1 ⟨rfl, v, rfl⟩
  by_cases hv : (1048576 : Int) < v
  · go_wp2_with fail
    go_ret
    exact ⟨rfl, Below.refl _ _⟩
  have HC := Lib.hid ((cst none 0 c (fun _ => ByteArray.empty) w1 (Fsl.nil _ _) (by omega)).mono fun _ _ => Cp0 rfl)
  go_wp2_with fail
  refine HC.out.mono ?_
  rintro e w2 ⟨rfl, hb⟩
  have B2 := Lib.hid hb
  clear hb HC
  go_wp2_with fail
  refine (yy0 _).mono ?_
  rintro e w3 ⟨b, hbb, rfl, hb, hf⟩
  have F3 := Lib.hid hf
  have B3 := Lib.hid (B2.out.trans (hb.mono B2.out.size))
  clear hb hf
  have HC := Lib.hid ((cst (some ⟨b, 0, none⟩) 6 6 defS w3 F3.out (by omega)).mono fun _ _ => CpN.of)
  go_wp2_with fail
  refine HC.out.mono ?_
  rintro e w4 ⟨b4, hbb4, rfl, hf, hb, hbl4⟩
  have F4 := Lib.hid (And.intro (F3.out.below hb) hf)
  have B4 := Lib.hid (B3.out.trans (hb.mono B3.out.size))
  clear hf hb HC F3
  have HCN := Lib.hid (yyN F ⟨b4, 0, none⟩ 6 6 defS w4 (by rw [B4.out.tape]; exact HT.out) F4.out.2 hbl4 (by omega) (fun j _ => by have := defS_size j; omega))
  rw [defS_cnt 6 (by omega)] at HCN
  go_wp2_with fail
  refine HCN.out.mono ?_
  rintro e w5 ⟨rfl, hb⟩
  have HE := Lib.hid (eqS b b4 6 6 6 defS w5 (F4.out.1.below hb) (F4.out.2.below hb) (by omega))
  have B5 := Lib.hid (B4.out.trans (hb.mono B4.out.size))
  clear hb HCN F4
  have hn1 : ∀ w : World, (binOp .neq 22 (.slice none 0 0) (.slice none 0 0)).run Tryf.prog w = .ok (.bool false) w := fun w => run_neq_slice_nil w 22 9 _ _ _ Tryf.underlying22
  have hn2 : ∀ w : World, (binOp .neq 22 (.slice (some ⟨b4, 0, none⟩) 6 6) (.slice none 0 0)).run Tryf.prog w = .ok (.bool true) w := fun w => run_neq_slice_nil w 22 9 _ _ _ Tryf.underlying22
  go_wp2_with fail
  refine HE.out.mono ?_
  rintro e w6 ⟨rfl, hb⟩
  have B6 := Lib.hid (B5.out.trans (hb.mono B5.out.size))
  clear hb HE
  go_wp2_with fail
  go_ret
  exact ⟨rfl, B6.out⟩
theorem main (F : Interp) (a : Option Addr) (n c : Nat) (S : Nat → ByteArray) (w : World) (hF : F.told.answers w.tape) (h : Fsl w a n (fun j => .string (S j))) (m : ∀ j, j < n → (S j).size ≤ maxLen) :
    Calls Tryf.prog 4 #[.slice a n c] w fun e w' => e = .returned (.bool true) ∧ Below w.heap.size w w' := by
  cases a with
  | none =>
    obtain rfl := h.none_
    exact main0 F c w hF
  | some x => exact mainN F x n c S w hF h m
end Go.Proofs.YtdigbcjkclbdfaaFmt.Aux
