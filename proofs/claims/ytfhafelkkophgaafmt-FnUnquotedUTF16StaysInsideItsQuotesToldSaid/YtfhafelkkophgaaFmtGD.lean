/- Contracts of functions that the law of this seat reaches, and plain facts; no condition. -/
import Derived.Test.YtfhafelkkophgaaFmtProg
import Derived.WalkKit
import Derived.ProofKit
import Derived.OpenShut
import Derived.ShutString
import Derived.Test.YtfhafelkkophgaaFmtAid
import Derived.Test.YtfhafelkkophgaaFmtG
import Derived.ArgAppend
import Derived.WalkSmall
import Derived.WalkSpells
import Derived.LoopTactic
import Derived.IntWalk
import Derived.Outline
import Derived.Deep.QuietTactic
import Derived.BigQuiet
import Derived.Deep.RegionHeld3
import Derived.Deep.RegionLaw
import Derived.StillTailTactics
import Derived.OwnWalk
import Derived.RegionTactic
import Derived.Laws.BitsAllLaws
import Derived.Laws.BitsLemmas
import Derived.Laws.IdiomStrings
import Derived.Lib.BufferRead
import Derived.Lib.ConvBytes
namespace Go.Proofs.YtfhafelkkophgaaFmt.Aux
open Go.ChangeShapes Go.WideShapes Go.ChangeAt Go.RowKit
open Go.ChangeMaps (open_string shut_string)
set_option linter.unusedVariables false
set_option linter.unusedSimpArgs false
open Fl Str Pb Qd PlainAid Aux
set_option maxRecDepth 1000000 in
set_option maxHeartbeats 40000000 in
theorem mO (a0 : Option Addr) (pn c0 : Nat) (Y : Nat → Int) (a1 : Option Addr) (n c1 : Nat) (Z : Nat → Int) (q : Int) (q34 : (q == 34) = false) (q39 : (q == 39) = false) (q96 : (q == 96) = false) (fl : Int) (ao ns : Bool) (LL : Int) (w : World) (hY : Fsl w a0 pn (fun i => .int .u8 (Y i))) (hF : Fsl w a1 n (fun i => .int .u16 (Z i))) (hZ : ∀ i, i < n → 0 ≤ Z i ∧ Z i ≤ 65535) (hpn : pn ≤ 1048576) (hn : n ≤ 524288) (hs : (pn : Int) + 2 * (n : Int) ≤ 1048576) :
    Calls Tryf.prog 4 #[.slice a0 pn c0, .slice a1 n c1, .int .i32 q, .int .u8 fl, .bool ao, .bool ns, .int .i64 LL] w (Fin4 w) := by
  have HG := Lib.hid (fun w => gd9 a0 pn c0 a1 n c1 q fl ao ns LL w)
  have HC := Lib.hid (cl10 a0 pn c0 Y w hY (by omega))
  have HF := Lib.hid hF
  have HZ := Lib.hid hZ
  clear hF hZ hY
  go_enter Tryf.func4, Tryf.ntmps4
  go_wp2_with (first
    | (go_at_call 9; refine (HG.out _).mono ?_; rintro e w' ⟨rfl, v, rfl⟩)
    | (go_at_call 10; refine HC.out.mono ?_; rintro e w1 ⟨b1, cp1, rfl, _, hF1, bel1, _, hd1⟩; clear HC; have HF1 := Lib.hid hF1; have HB1 := Lib.hid bel1; have HLT : Hid (∀ x, b1 = some x → x.block < w1.heap.size) := Lib.hid (fun x hx => by rcases hd1 with ⟨h1, _⟩ | ⟨b, _, h1, hb, _⟩ <;> rw [h1] at hx <;> cases hx; exact hb.lt); have HC2 := Lib.hid (cl10 b1 pn cp1 Y w1 hF1 (by omega)); clear hF1 bel1 hd1)
    | (go_at_call 10; refine HC2.out.mono ?_; rintro e w2 ⟨b2, cp2, rfl, _, hF2, bel2, _, hd2⟩; clear HC2; have HF2 := Lib.hid (HF1.out.below bel2); have HB2 := Lib.hid bel2; have HR := Lib.hid ((run11 w1.heap.size a1 n c1 Z q fl ns ao b2 pn cp2 LL Y w2 hn hpn bel2.size (cop_own (by unfold maxLen; omega) hF2 hd2) ((HF.out.below HB1.out).below bel2) HZ.out (fun h0 x hx => by obtain ⟨b, off, e, hlb, _⟩ := HF.out.at 0 h0; rw [hx] at e; injection e with e; subst e; exact Nat.lt_of_lt_of_le hlb HB1.out.size)).mono fun _ _ h => RunP.q h); clear hF2 bel2 hd2)
    | (go_at_call 11; refine HR.out.mono ?_; rintro e w3 ⟨ja, jc, P, wl, rfl, HJ, HD, hjc, hjm, HS, hPl, HB3⟩; clear HR; have HQ := Lib.hid (eq12 ja b1 pn jc cp1 Y w3 (by omega) HJ.out (HF2.out.belowB HLT.out HB3.out)))
    | (go_at_call 12; refine HQ.out.mono ?_; rintro e w4 ⟨rfl, q4, rfl⟩; clear HQ))
  · go_ret
    exact ⟨rfl, Below.refl _ _⟩
  all_goals have HPB := Lib.hid (sc_bytes HZ.out P.length P (Nat.le_refl _) HS.out)
  all_goals have hsz := strOf_size P
  · rw [cv0 (by have : P.length = 0 := by omega
                exact List.length_eq_zero_iff.1 this)]
    have h0 : (strOf P).size = 0 := by omega
    go_wp2_with fail
    go_loopw [20] (fun i wr => i = .int .i64 0 ∧ wr = w3.drewN q4) (fun i _ => 0)
    case atStart => exact ⟨rfl, rfl⟩
    case round =>
      obtain ⟨rfl, rfl⟩ := hrel
      go_wp2_with fail
      go_ret
      exact ⟨rfl, below_drewN ((HB1.out.trans (HB2.out.mono HB1.out.size)).trans (HB3.out.mono HB1.out.size)) _⟩
  · rw [cv1 HPB.out HD.out]
    have HRD := Lib.hid (fun k (hk : k < P.length) (h : Sc n Z q ns ao wl (P.drop k)) => rdr HZ.out HPB.out (by omega) hk h)
    have HMS := Lib.hid (fun i (hi : i + 6 ≤ (strOf P).size) w => msc13 (strOf P) i (by omega) hi w)
    generalize strOf P = s at *
    go_wp2_with fail
    go_loopw [20] (fun i wr => ∃ k : Nat, k ≤ s.size ∧ i = .int .i64 k ∧ Hid (Sc n Z q ns ao wl (P.drop k)) ∧ ∃ d, wr = w3.drewN d) (fun i _ => s.size - (intOf i).toNat)
    case atStart => exact ⟨0, Nat.zero_le _, rfl, HS, _, rfl⟩
    case round =>
      obtain ⟨k, hk, rfl, HSK, d, rfl⟩ := hrel
      by_cases hlt : k < s.size
      · have hk2 : (k : Int) < (s.size : Int) := by omega
        have hR := HRD.out k (by omega) HSK.out
        unfold Rdr at hR
        obtain ⟨b, hb, b0, b255⟩ : ∃ b : Int, bt s k = b ∧ 0 ≤ b ∧ b ≤ 255 := ⟨_, rfl, (by have := get_bt s k hlt; omega), (by have := get_bt s k hlt; have := (s[k]'hlt).toNat_lt; omega)⟩
        have g0 : ∀ h' : k < s.size, ((s[k]'h').toNat : Int) = b := fun h' => (get_bt s k h').trans hb
        rw [hb] at hR
        have HBK := Lib.hid hb
        clear hb
        rcases hR with ⟨e92, hk1, c0, c1, HS2⟩ | ⟨_, b128, n92, hg, HS2, h36, h60⟩ | ⟨b128, r, m, hr, hao, HS2, hm1, hm2, HDC⟩
        · subst e92
          obtain ⟨c, hc, _⟩ : ∃ c : Int, bt s (k + 1) = c ∧ True := ⟨_, rfl, trivial⟩
          have g1 : ∀ h' : k + 1 < s.size, ((s[k + 1]'h').toNat : Int) = c := fun h' => (get_bt s (k + 1) h').trans hc
          rw [hc] at c0 c1
          clear hc
          have ek : ((k : Int) + 1).toNat = k + 1 := by omega
          have hk3 : (k : Int) + 1 < (s.size : Int) := by omega
          go_wp2_with fail
          go_roundw
          case rel => exact ⟨k + 2, by omega, by go_num, HS2, _, rfl⟩
          case measure => simp [intOf]; omega
        · obtain ⟨hg1, hg2, hg3⟩ := hg
          have y92 : (b == 92) = false := by simpa using n92
          have y0 : (b == 0) = false := by simp; omega
          have y7 : (b == 7) = false := by simp; omega
          have y8 : (b == 8) = false := by simp; omega
          have y11 : (b == 11) = false := by simp; omega
          have y12 : (b == 12) = false := by simp; omega
          have y13 : (b == 13) = false := by simp; omega
          have y27 : (b == 27) = false := by simp; omega
          have hb128 : ¬ (128 : Int) ≤ b := by omega
          have z10 : ¬ b = 10 := fun h => by have := hg2 h; rw [this] at q96; simp at q96
          have y10 : (b == 10) = false := by simpa using z10
          by_cases z60 : b = 60
          · subst z60
            cases ns
            · by_cases h8 : k + 8 ≤ s.size
              · have hk8 : (k : Int) + 8 ≤ (s.size : Int) := by omega
                have ek : ((k : Int) + 1).toNat = k + 1 := by omega
                have hk3 : (k : Int) + 1 < (s.size : Int) := by omega
                have hk4 : k + 1 < s.size := by omega
                have HN := Lib.hid (h60 rfl rfl h8)
                obtain ⟨c, hc, _⟩ : ∃ c : Int, bt s (k + 1) = c ∧ True := ⟨_, rfl, trivial⟩
                have g1 : ∀ h' : k + 1 < s.size, ((s[k + 1]'h').toNat : Int) = c := fun h' => (get_bt s (k + 1) h').trans hc
                rw [hc] at HN
                clear hc h60 h36
                by_cases z47 : c = 47
                · subst z47
                  have HM2 : Hid (∀ w, Calls Tryf.prog 13 #[.string s, .int .i64 ((k : Int) + 2)] w (Msc w s (k + 2))) := Lib.hid fun w => by
                    have := HMS.out (k + 2) (by omega) w
                    rwa [show ((k + 2 : Nat) : Int) = (k : Int) + 2 by omega] at this
                  go_wp2_with (go_at_call 13; refine (HM2.out _).mono ?_; rintro e w5 ⟨rfl, v, rfl, hv⟩; obtain rfl : v = false := (by cases v with | false => rfl | true => exact absurd (hv.out rfl) (HN.out rfl)))
                  go_roundw
                  case rel => exact ⟨k + 1, by omega, by go_num, HS2, _, rfl⟩
                  case measure => simp [intOf]; omega
                · have y47 : (c == 47) = false := by simpa using z47
                  go_wp2_with fail
                  go_roundw
                  case rel => exact ⟨k + 1, by omega, by go_num, HS2, _, rfl⟩
                  case measure => simp [intOf]; omega
              · have hk8 : ¬ (k : Int) + 8 ≤ (s.size : Int) := by omega
                go_wp2_with fail
                go_roundw
                case rel => exact ⟨k + 1, by omega, by go_num, HS2, _, rfl⟩
                case measure => simp [intOf]; omega
            · skip
              go_wp2_with fail
              go_roundw
              case rel => exact ⟨k + 1, by omega, by go_num, HS2, _, rfl⟩
              case measure => simp [intOf]; omega
          have y60 : (b == 60) = false := by simpa using z60
          cases ns
          · go_wp2_with fail
            go_roundw
            case rel => exact ⟨k + 1, by omega, by go_num, HS2, _, rfl⟩
            case measure => simp [intOf]; omega
          · go_wp2_with fail
            go_roundw
            case rel => exact ⟨k + 1, by omega, by go_num, HS2, _, rfl⟩
            case measure => simp [intOf]; omega
        · subst hao
          obtain ⟨r1, r2, r3, r4, r5⟩ := hr
          have y0 : (b == 0) = false := by simp; omega
          have y7 : (b == 7) = false := by simp; omega
          have y8 : (b == 8) = false := by simp; omega
          have y11 : (b == 11) = false := by simp; omega
          have y12 : (b == 12) = false := by simp; omega
          have y13 : (b == 13) = false := by simp; omega
          have y27 : (b == 27) = false := by simp; omega
          have y10 : (b == 10) = false := by simp; omega
          have y36 : (b == 36) = false := by simp; omega
          have y60 : (b == 60) = false := by simp; omega
          have y92 : (b == 92) = false := by simp; omega
          have e1 : (r == 8232) = false := by simpa using r3
          have e2 : (r == 8233) = false := by simpa using r4
          have e3 : (r == 65279) = false := by simpa using r5
          cases ns
          · go_wp2_with (go_at_call 14; refine (HDC.out _).mono ?_; rintro e w5 ⟨rfl, q5, rfl⟩)
            go_roundw
            case rel => exact ⟨k + m, by omega, congrArg _ (by omega), HS2, _, rfl⟩
            case measure => simp [intOf]; omega
          · go_wp2_with (go_at_call 14; refine (HDC.out _).mono ?_; rintro e w5 ⟨rfl, q5, rfl⟩)
            go_roundw
            case rel => exact ⟨k + m, by omega, congrArg _ (by omega), HS2, _, rfl⟩
            case measure => simp [intOf]; omega
      · obtain rfl : k = s.size := by omega
        go_wp2_with fail
        go_ret
        exact ⟨rfl, below_drewN ((HB1.out.trans (HB2.out.mono HB1.out.size)).trans (HB3.out.mono HB1.out.size)) _⟩
end Go.Proofs.YtfhafelkkophgaaFmt.Aux
