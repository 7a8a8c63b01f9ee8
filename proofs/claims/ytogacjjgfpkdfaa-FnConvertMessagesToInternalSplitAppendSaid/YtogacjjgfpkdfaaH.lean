/- Contracts of functions that the law of this seat reaches, and plain facts; no condition. -/
import Derived.Test.YtogacjjgfpkdfaaProg
import Derived.WalkKit
import Derived.ProofKit
import Derived.OpenShut
import Derived.ShutString
import Derived.Test.YtogacjjgfpkdfaaAid
import Derived.Test.YtogacjjgfpkdfaaFl
import Derived.Test.YtogacjjgfpkdfaaStr
import Derived.Test.YtogacjjgfpkdfaaPb
import Derived.Test.YtogacjjgfpkdfaaQd
import Derived.Test.YtogacjjgfpkdfaaAm
import Derived.Test.YtogacjjgfpkdfaaMp
import Derived.Test.YtogacjjgfpkdfaaG
import Derived.Test.YtogacjjgfpkdfaaAid
import Derived.Maps.RangeRun
import Derived.Carry
import Derived.Laws.IdiomRangeMap
import Derived.ArgAppend
import Derived.Maps.Own
import Derived.WalkSmall
import Derived.WalkSpells
import Derived.Laws.Externs
import Derived.WalkLawsBesides
import Derived.LoopTactic
import Derived.Deep.CutBlock
import Derived.Deep.DeepCutAuto
import Derived.IntWalk
import Derived.Outline
import Derived.Deep.QuietTactic
import Derived.BigQuiet
import Derived.RegionTactic
import Derived.Deep.RegionHeld3
import Derived.Deep.MidRow
import Derived.StillTailTactics
import Derived.BigRegion
import Derived.Laws.OwnMore
import Derived.Laws.Rows
namespace Go.Proofs.Ytogacjjgfpkdfaa.Aux
open Go.ChangeShapes Go.WideShapes Go.ChangeAt Go.RowKit
open Go.ChangeMaps (open_string shut_string)
set_option linter.unusedVariables false
set_option linter.unusedSimpArgs false
open Fl Str Pb Qd Am Mp PlainAid Aux
open Go.ChangeMaps
/-- What the guard on sizes says. -/
def Zb (n : Nat) (M : Nat → MD) (w : World) (e : Ending) (w' : World) : Prop := ∃ v, e = .returned (.bool v) ∧ w' = w ∧ Hid (v = true → n ≤ 1048576 ∧ ∀ i, i < n → (M i).nl ≤ 1048576)
set_option maxRecDepth 100000 in
set_option maxHeartbeats 40000000 in
theorem zb (a : Option Addr) (n cap : Nat) (M : Nat → MD) (x y : Int) (w : World) (h : MsgsIn w a n M) : Calls Try.prog 4 #[.slice a n cap, .int .i64 x, .int .u8 y] w (Zb n M w) := by
  by_cases hbig : (1048576 : Int) < (n : Int)
  · go_enter Try.func4, Try.ntmps4
    go_wp2_with fail
    go_ret
    exact ⟨_, rfl, rfl, Lib.hid fun e => by cases e⟩
  have hn20 : n ≤ 1048576 := by omega
  rcases Nat.eq_zero_or_pos n with h0 | hpos
  · subst h0
    clear h hbig
    go_enter Try.func4, Try.ntmps4
    go_wp2_with fail
    go_loopw [8] (fun s8 wr => s8 = .int .i64 0 ∧ wr = w) (fun _ _ => 0)
    case atStart => exact ⟨rfl, rfl⟩
    case round =>
      obtain ⟨rfl, rfl⟩ := hrel
      go_wp2_with fail
      go_ret
      exact ⟨_, rfl, rfl, Lib.hid fun e => ⟨by omega, fun i hi => by omega⟩⟩
  · obtain ⟨b, o, rfl, hA⟩ := MsgsIn.block h hpos
    have HA := Lib.hid hA
    clear hA h
    go_enter Try.func4, Try.ntmps4
    go_wp2_with fail
    go_loopw [7, 8] (fun s7 s8 wr => ∃ (t : Int) (i : Nat), 0 ≤ t ∧ t ≤ 1048576 ∧ i ≤ n ∧ s7 = .int .i64 t ∧ s8 = .int .i64 i ∧ wr = w ∧ Hid (∀ j, j < i → (M j).nl ≤ 1048576)) (fun _ s8 _ => n - (intOf s8).toNat)
    case atStart => exact ⟨n, 0, by omega, by omega, by omega, rfl, rfl, rfl, Lib.hid fun j hj => by omega⟩
    case round =>
      obtain ⟨t, i, ht0, ht, hi, rfl, rfl, rfl, HN⟩ := hrel
      by_cases hlt : i < n
      · have hiz : (i : Int) < (n : Int) := by omega
        obtain ⟨na, nc, hA, hN⟩ := HA.out i hlt
        obtain ⟨m, hm⟩ : ∃ m, M i = m := ⟨_, rfl⟩
        rw [hm] at hA hN
        obtain ⟨id, plug, text, ⟨p, ⟨file, ns, line, col, len, lt, sg⟩⟩, nl, nd⟩ := m
        have c0 : wr.cell? ⟨b, o + i * 12, none⟩ = some (.string id) := hA 0 _ rfl
        have c1 := hA 1 _ rfl
        have c2 := hA 2 _ rfl
        have c4 := hA 4 _ rfl
        have c5 := hA 5 _ rfl
        have c9 := hA 9 _ rfl
        have c10 := hA 10 _ rfl
        have c11 := hA 11 _ rfl
        have HM := Lib.hid hm
        clear hA hm
        obtain ⟨b2, o2, hNA⟩ : ∃ b2 o2, Hid (0 < nl → na = some ⟨b2, o2, none⟩ ∧ ∀ j, j < nl → At wr b2 (o2 + j * 9) (nd j).cells) := by
          rcases Nat.eq_zero_or_pos nl with hz | hp
          · exact ⟨0, 0, Lib.hid fun h => by omega⟩
          · obtain ⟨b2, o2, e, hA2⟩ := NotesIn.block hN hp
            exact ⟨b2, o2, Lib.hid fun _ => ⟨e, hA2⟩⟩
        clear hN
        go_wp2_with fail
        all_goals try (go_ret; exact ⟨_, rfl, rfl, Lib.hid fun e => by cases e⟩)
        have hnl : nl ≤ 1048576 := by omega
        have HNI : Hid (∀ j, j < i + 1 → (M j).nl ≤ 1048576) := Lib.hid fun j hj => by
          by_cases e : j = i
          · subst e; rw [HM.out]; exact hnl
          · exact HN.out j (by omega)
        go_loopw [7, 9] (fun s7 s9 w2 => ∃ (t : Int) (j : Nat), 0 ≤ t ∧ t ≤ 1048576 ∧ j ≤ nl ∧ s7 = .int .i64 t ∧ s9 = .int .i64 j ∧ w2 = wr) (fun _ s9 _ => nl - (intOf s9).toNat)
        case atStart => exact ⟨_, 0, by omega, by omega, by omega, rfl, rfl, rfl⟩
        case round =>
          obtain ⟨t2, j, ht20, ht2, hj, rfl, rfl, rfl⟩ := hrel
          by_cases hjl : j < nl
          · as_aux_lemma =>
            have hjz : (j : Int) < (nl : Int) := by omega
            obtain ⟨hna, hA2⟩ := hNA.out (by omega)
            have hB := hA2 j hjl
            obtain ⟨x, hx⟩ : ∃ x, nd j = x := ⟨_, rfl⟩
            rw [hx] at hB
            obtain ⟨text2, ⟨p2, ⟨file2, ns2, line2, col2, len2, lt2, sg2⟩⟩⟩ := x
            have d11 := c11
            rw [hna] at d11
            have d0 := hB 0 _ rfl
            rw [Nat.add_zero] at d0
            have d2 := hB 2 _ rfl
            have d3 := hB 3 _ rfl
            have d7 := hB 7 _ rfl
            have d8 := hB 8 _ rfl
            clear hna hA2 hB hx c11
            go_wp2_with fail
            all_goals try (go_ret; exact ⟨_, rfl, rfl, Lib.hid fun e => by cases e⟩)
            go_roundw
            case rel => exact ⟨_, j + 1, by omega, by omega, by omega, rfl, by go_num, trivial⟩
            case measure => simp [intOf]; omega
          · as_aux_lemma =>
            have hjz : ¬ (j : Int) < (nl : Int) := by omega
            go_wp2_with fail
            go_roundw
            case rel =>
              repeat apply Exists.intro
              refine ⟨?_, rfl⟩
              exact ⟨t2, i + 1, by omega, by omega, by omega, rfl, by go_num, rfl, HNI⟩
            case measure => simp [intOf]; omega
      · have hiz : ¬ (i : Int) < (n : Int) := by omega
        go_wp2_with fail
        go_ret
        refine ⟨_, rfl, rfl, Lib.hid fun e => ⟨hn20, fun j hj => HN.out j (by omega)⟩⟩
end Go.Proofs.Ytogacjjgfpkdfaa.Aux
