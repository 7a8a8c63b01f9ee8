/- Contracts of functions that the law of this seat reaches, and plain facts; no condition. -/
import Derived.Test.YtfhafelkkophgaaFmtProg
import Derived.WalkKit
import Derived.ProofKit
import Derived.OpenShut
import Derived.ShutString
import Derived.Test.YtfhafelkkophgaaFmtAid
import Derived.Test.YtfhafelkkophgaaFmtG
import Derived.Test.YtfhafelkkophgaaFmtGA
import Derived.Test.YtfhafelkkophgaaFmtGB
import Derived.Test.YtfhafelkkophgaaFmtGC
import Derived.Test.YtfhafelkkophgaaFmtGD
import Derived.Test.YtfhafelkkophgaaFmtGE
import Derived.ArgAppend
import Derived.WalkSmall
import Derived.WalkSpells
import Derived.LoopTactic
import Derived.IntWalk
import Derived.Outline
import Derived.Deep.QuietTactic
import Derived.BigQuiet
import Derived.Deep.RegionHeld3
import Derived.Deep.RegionLaw
import Derived.StillTailTactics
import Derived.OwnWalk
import Derived.RegionTactic
import Derived.Laws.BitsAllLaws
import Derived.Laws.BitsLemmas
import Derived.Laws.IdiomStrings
import Derived.Lib.BufferRead
import Derived.Lib.ConvBytes
namespace Go.Proofs.YtfhafelkkophgaaFmt.Aux
open Go.ChangeShapes Go.WideShapes Go.ChangeAt Go.RowKit
open Go.ChangeMaps (open_string shut_string)
set_option linter.unusedVariables false
set_option linter.unusedSimpArgs false
open Fl Str Pb Qd PlainAid Aux
set_option maxRecDepth 100000 in
set_option maxHeartbeats 8000000 in
theorem big4 (a0 : Option Addr) (pn c0 : Nat) (a1 : Option Addr) (n c1 : Nat) (q fl : Int) (ao ns : Bool) (LL : Int) (w : World) (hp : pn ≤ 9223372036854775807) (hn : n ≤ 9223372036854775807) (h : ¬ (pn ≤ 1048576 ∧ n ≤ 524288 ∧ (pn : Int) + 2 * (n : Int) ≤ 1048576)) :
    Calls Tryf.prog 4 #[.slice a0 pn c0, .slice a1 n c1, .int .i32 q, .int .u8 fl, .bool ao, .bool ns, .int .i64 LL] w (Fin4 w) := by
  have HG := Lib.hid (fun w => gd9 a0 pn c0 a1 n c1 q fl ao ns LL w)
  by_cases h1 : (1048576 : Int) < (pn : Int)
  · go_enter Tryf.func4, Tryf.ntmps4
    go_wp2_with (go_at_call 9; refine (HG.out _).mono ?_; rintro e w' ⟨rfl, v, rfl⟩)
    all_goals go_ret
    all_goals exact ⟨rfl, Below.refl _ _⟩
  by_cases h2 : (524288 : Int) < (n : Int)
  · go_enter Tryf.func4, Tryf.ntmps4
    go_wp2_with (go_at_call 9; refine (HG.out _).mono ?_; rintro e w' ⟨rfl, v, rfl⟩)
    all_goals go_ret
    all_goals exact ⟨rfl, Below.refl _ _⟩
  have h3 : (1048576 : Int) < (pn : Int) + 2 * (n : Int) := by omega
  clear h
  go_enter Tryf.func4, Tryf.ntmps4
  go_wp2_with (go_at_call 9; refine (HG.out _).mono ?_; rintro e w' ⟨rfl, v, rfl⟩)
  all_goals go_ret
  all_goals exact ⟨rfl, Below.refl _ _⟩
theorem main4 (a0 : Option Addr) (pn c0 : Nat) (Y : Nat → Int) (a1 : Option Addr) (n c1 : Nat) (Z : Nat → Int) (q fl : Int) (ao ns : Bool) (LL : Int) (w : World) (hY : Fsl w a0 pn (fun i => .int .u8 (Y i))) (hF : Fsl w a1 n (fun i => .int .u16 (Z i))) (hZ : ∀ i, i < n → 0 ≤ Z i ∧ Z i ≤ 65535) (hp : pn ≤ maxLen) (hn : n ≤ maxLen) :
    Calls Tryf.prog 4 #[.slice a0 pn c0, .slice a1 n c1, .int .i32 q, .int .u8 fl, .bool ao, .bool ns, .int .i64 LL] w (Fin4 w) := by
  unfold maxLen at hp hn
  by_cases h : pn ≤ 1048576 ∧ n ≤ 524288 ∧ (pn : Int) + 2 * (n : Int) ≤ 1048576
  · obtain ⟨h1, h2, h3⟩ := h
    by_cases q1 : q = 34
    · subst q1
      exact m34 a0 pn c0 Y a1 n c1 Z fl ao ns LL w hY hF hZ h1 h2 h3
    by_cases q2 : q = 39
    · subst q2
      exact m39 a0 pn c0 Y a1 n c1 Z fl ao ns LL w hY hF hZ h1 h2 h3
    by_cases q3 : q = 96
    · subst q3
      cases ns
      · exact m96f a0 pn c0 Y a1 n c1 Z fl ao LL w hY hF hZ h1 h2 h3
      · exact m96t a0 pn c0 Y a1 n c1 Z fl ao LL w hY hF hZ h1 h2 h3
    · exact mO a0 pn c0 Y a1 n c1 Z q (by simpa using q1) (by simpa using q2) (by simpa using q3) fl ao ns LL w hY hF hZ h1 h2 h3
  · exact big4 a0 pn c0 a1 n c1 q fl ao ns LL w (by omega) (by omega) h
end Go.Proofs.YtfhafelkkophgaaFmt.Aux
