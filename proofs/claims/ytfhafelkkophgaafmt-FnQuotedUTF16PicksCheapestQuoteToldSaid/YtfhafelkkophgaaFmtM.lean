/- Contracts of functions that the law of this seat reaches, and plain facts; no condition. -/
import Derived.Test.YtfhafelkkophgaaFmtProg
import Derived.WalkKit
import Derived.ProofKit
import Derived.OpenShut
import Derived.ShutString
import Derived.Test.YtfhafelkkophgaaFmtAid
import Derived.Test.YtfhafelkkophgaaFmtT
import Derived.ArgAppend
import Derived.WalkSpells
import Derived.LoopTactic
import Derived.IntWalk
import Derived.Outline
import Derived.Deep.QuietTactic
import Derived.BigQuiet
import Derived.Laws.BitsAllLaws
namespace Go.Proofs.YtfhafelkkophgaaFmt.Aux
open Go.ChangeShapes Go.WideShapes Go.ChangeAt Go.RowKit
open Go.ChangeMaps (open_string shut_string)
set_option linter.unusedVariables false
set_option linter.unusedSimpArgs false
open Fl Str Pb Qd PlainAid Aux
set_option maxRecDepth 1000000 in
set_option maxHeartbeats 20000000 in
theorem main (a : Option Addr) (n c : Nat) (Z : Nat → Int) (al nt ms : Bool) (w : World) (hF : Fsl w a n (fun i => .int .u16 (Z i))) (hZ : ∀ i, i < n → 0 ≤ Z i ∧ Z i ≤ 65535) (hm : n ≤ maxLen) :
    Calls Tryf.prog 3 #[.slice a n c, .bool al, .bool nt, .bool ms] w (Qfin w) := by
  have HG := Lib.hid (fun w => gd220 a n c al nt ms w)
  have HF := Lib.hid hF
  have HZ := Lib.hid hZ
  unfold maxLen at hm
  clear hF hZ
  by_cases hn : (524288 : Int) < (n : Int)
  · go_enter Tryf.func3, Tryf.ntmps3
    go_wp2_with (go_at_call 6; refine (HG.out _).mono ?_; rintro e w' ⟨rfl, v, rfl⟩)
    all_goals go_ret
    all_goals exact ⟨rfl, Below.refl _ _⟩
  have hn0 : n ≤ 524288 := by omega
  have HC := Lib.hid (cl7 a n c Z w HF.out (by omega))
  go_enter Tryf.func3, Tryf.ntmps3
  go_wp2_with (first
    | (go_at_call 6; refine (HG.out _).mono ?_; rintro e w' ⟨rfl, v, rfl⟩)
    | (go_at_call 7; refine HC.out.mono ?_; rintro e w1 ⟨a', cap', rfl, hcap, hF', bel, hnn, hd⟩; have HF1 := Lib.hid hF'; have HB1 := Lib.hid bel; have HR := Lib.hid (run8 a' n cap' Z al nt ms w1 hn0 hF' HZ.out (fun x hx => by rcases hd with ⟨h1, _⟩ | ⟨b, _, h1, hb, _⟩ <;> rw [h1] at hx <;> cases hx; exact hb.lt)); clear hF' bel hnn hd hcap)
    | (go_at_call 8; refine HR.out.mono ?_; rintro e w2 ⟨ja, jc, X, rfl, own, hX, bel⟩; have HO := Lib.hid own; have HX := Lib.hid hX; have HB2 := Lib.hid bel; have HF2 := Lib.hid (HF1.out.below bel); clear own hX bel))
  · go_ret
    exact ⟨rfl, Below.refl _ _⟩
  generalize hmm : X.length + 2 = m at *
  have HMM := Lib.hid hmm
  clear hmm
  go_loopw [10, 11, 12, 13] (fun sg db bk i wr => ∃ k : Nat, k ≤ n ∧ i = .int .i64 k ∧ sg = .int .i64 (cntu Z 39 k : Nat) ∧ db = .int .i64 (cntu Z 34 k : Nat) ∧ bk = .int .i64 (bkc Z n ms k) ∧ wr = w2) (fun _ _ _ i _ => n - (intOf i).toNat)
  case atStart => exact ⟨0, Nat.zero_le _, rfl, rfl, rfl, rfl, rfl⟩
  case round =>
    obtain ⟨k, hk, rfl, rfl, rfl, rfl, rfl⟩ := hrel
    by_cases hlt : k < n
    · obtain ⟨b, off, e, hlb, hc⟩ := HF2.out.at k hlt
      subst e
      have hk2 : (k : Int) < (n : Int) := by omega
      have hc39 := cntu_le Z 39 k
      have hc34 := cntu_le Z 34 k
      have hcb := bkc_le Z n ms k
      generalize hz : Z k = z at hc
      have HZK := Lib.hid hz
      clear hz
      by_cases z10 : z = 10
      · subst z10
        cases ms
        · go_wp2_with fail
          go_roundw
          case rel => exact ⟨k + 1, by omega, by go_num, by simp [cntu, HZK.out], by simp [cntu, HZK.out], (by simp [bkc, bst, HZK.out]; try omega), by trivial⟩
          case measure => simp [intOf]; omega
        · go_wp2_with fail
          go_roundw
          case rel => exact ⟨k + 1, by omega, by go_num, by simp [cntu, HZK.out], by simp [cntu, HZK.out], (by simp [bkc, bst, HZK.out]; try omega), by trivial⟩
          case measure => simp [intOf]; omega
      by_cases z39 : z = 39
      · subst z39
        go_wp2_with fail
        go_roundw
        case rel => exact ⟨k + 1, by omega, by go_num, by simp [cntu, HZK.out], by simp [cntu, HZK.out], (by simp [bkc, bst, HZK.out]; try omega), by trivial⟩
        case measure => simp [intOf]; omega
      by_cases z34 : z = 34
      · subst z34
        go_wp2_with fail
        go_roundw
        case rel => exact ⟨k + 1, by omega, by go_num, by simp [cntu, HZK.out], by simp [cntu, HZK.out], (by simp [bkc, bst, HZK.out]; try omega), by trivial⟩
        case measure => simp [intOf]; omega
      by_cases z96 : z = 96
      · subst z96
        go_wp2_with fail
        go_roundw
        case rel => exact ⟨k + 1, by omega, by go_num, by simp [cntu, HZK.out], by simp [cntu, HZK.out], (by simp [bkc, bst, HZK.out]; try omega), by trivial⟩
        case measure => simp [intOf]; omega
      by_cases z36 : z = 36
      · subst z36
        by_cases hk3 : k + 1 < n
        · have hk4 : (k : Int) + 1 < (n : Int) := by omega
          have hcy := HF2.out.cell (k + 1) hk3
          generalize hy : Z (k + 1) = y at hcy
          have HYK := Lib.hid hy
          clear hy
          by_cases y123 : y = 123
          · subst y123
            go_wp2_with fail
            go_roundw
            case rel => exact ⟨k + 1, by omega, by go_num, by simp [cntu, HZK.out, HYK.out, hk3], by simp [cntu, HZK.out, HYK.out, hk3], (by simp [bkc, bst, HZK.out, HYK.out, hk3]; try omega), by trivial⟩
            case measure => simp [intOf]; omega
          · have y2 : (y == 123) = false := by simpa using y123
            go_wp2_with fail
            go_roundw
            case rel => exact ⟨k + 1, by omega, by go_num, by simp [cntu, HZK.out, HYK.out, hk3, y123], by simp [cntu, HZK.out, HYK.out, hk3, y123], (by simp [bkc, bst, HZK.out, HYK.out, hk3, y123]; try omega), by trivial⟩
            case measure => simp [intOf]; omega
        · have hk4 : ¬ (k : Int) + 1 < (n : Int) := by omega
          go_wp2_with fail
          go_roundw
          case rel => exact ⟨k + 1, by omega, by go_num, by simp [cntu, HZK.out, hk3], by simp [cntu, HZK.out, hk3], (by simp [bkc, bst, HZK.out, hk3]; try omega), by trivial⟩
          case measure => simp [intOf]; omega
      have y10 : (z == 10) = false := by simpa using z10
      have y39 : (z == 39) = false := by simpa using z39
      have y34 : (z == 34) = false := by simpa using z34
      have y96 : (z == 96) = false := by simpa using z96
      have y36 : (z == 36) = false := by simpa using z36
      go_wp2_with fail
      go_roundw
      case rel => exact ⟨k + 1, by omega, by go_num, by simp [cntu, HZK.out, z10, z39, z34, z96, z36], by simp [cntu, HZK.out, z10, z39, z34, z96, z36], (by simp [bkc, bst, HZK.out, z10, z39, z34, z96, z36]; try omega), by trivial⟩
      case measure => simp [intOf]; omega
    · obtain rfl : k = n := by omega
      have hk2 : ¬ (k : Int) < (k : Int) := by omega
      obtain ⟨sg, hsg⟩ : ∃ sg : Int, (cntu Z 39 k : Int) = sg := ⟨_, rfl⟩
      obtain ⟨db, hdb⟩ : ∃ db : Int, (cntu Z 34 k : Int) = db := ⟨_, rfl⟩
      obtain ⟨bk, hbk⟩ : ∃ bk : Int, bkc Z k ms k = bk := ⟨_, rfl⟩
      have own := HO.out
      rw [hsg, hdb, hbk, wantq_eq] at own
      have m0 : 2 ≤ m := by have := HMM.out; omega
      have m1 : (2 : Int) ≤ (m : Int) := by omega
      have m2 : (m : Int) ≤ 6291458 := by have := HMM.out; have := HX.out; omega
      have em : ((m : Int) - 1).toNat = m - 1 := by omega
      obtain ⟨g, rfl, hcell⟩ := owng_at own (by omega)
      have c0 := hcell 0 _ rfl
      have c1 : wr.cell? ⟨g, m - 1, none⟩ = some (.int .u8 (wantq sg db bk (al && !nt))) := hcell (m - 1) _ (by
        have := HMM.out
        have e : m - 1 = X.length + 1 := by omega
        rw [e]; simp)
      rw [hsg, hdb, hbk]
      clear hsg hdb hbk own hcell
      by_cases h1 : sg < db
      · by_cases h2 : bk < sg
        · cases al
          · have e : wantq sg db bk (false && !nt) = 39 := by simp [wantq, h1, h2]
            rw [e] at c0 c1
            clear e
            go_wp2_with fail
            all_goals go_ret
            all_goals exact ⟨rfl, HB1.out.trans (HB2.out.mono HB1.out.size)⟩
          · cases nt
            · have e : wantq sg db bk (true && !false) = 96 := by simp [wantq, h1, h2]
              rw [e] at c0 c1
              clear e
              go_wp2_with fail
              all_goals go_ret
              all_goals exact ⟨rfl, HB1.out.trans (HB2.out.mono HB1.out.size)⟩
            · have e : wantq sg db bk (true && !true) = 39 := by simp [wantq, h1, h2]
              rw [e] at c0 c1
              clear e
              go_wp2_with fail
              all_goals go_ret
              all_goals exact ⟨rfl, HB1.out.trans (HB2.out.mono HB1.out.size)⟩
        · have e : wantq sg db bk (al && !nt) = 39 := by simp [wantq, h1, h2]
          rw [e] at c0 c1
          clear e
          go_wp2_with fail
          all_goals go_ret
          all_goals exact ⟨rfl, HB1.out.trans (HB2.out.mono HB1.out.size)⟩
      · by_cases h2 : bk < db
        · cases al
          · have e : wantq sg db bk (false && !nt) = 34 := by simp [wantq, h1, h2]
            rw [e] at c0 c1
            clear e
            go_wp2_with fail
            all_goals go_ret
            all_goals exact ⟨rfl, HB1.out.trans (HB2.out.mono HB1.out.size)⟩
          · cases nt
            · have e : wantq sg db bk (true && !false) = 96 := by simp [wantq, h1, h2]
              rw [e] at c0 c1
              clear e
              go_wp2_with fail
              all_goals go_ret
              all_goals exact ⟨rfl, HB1.out.trans (HB2.out.mono HB1.out.size)⟩
            · have e : wantq sg db bk (true && !true) = 34 := by simp [wantq, h1, h2]
              rw [e] at c0 c1
              clear e
              go_wp2_with fail
              all_goals go_ret
              all_goals exact ⟨rfl, HB1.out.trans (HB2.out.mono HB1.out.size)⟩
        · have e : wantq sg db bk (al && !nt) = 34 := by simp [wantq, h1, h2]
          rw [e] at c0 c1
          clear e
          go_wp2_with fail
          all_goals go_ret
          all_goals exact ⟨rfl, HB1.out.trans (HB2.out.mono HB1.out.size)⟩
end Go.Proofs.YtfhafelkkophgaaFmt.Aux
