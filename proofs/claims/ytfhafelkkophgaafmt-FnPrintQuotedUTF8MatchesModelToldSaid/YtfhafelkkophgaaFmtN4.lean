/- Contracts of functions that the law of this seat reaches, and plain facts; no condition. -/
import Derived.Test.YtfhafelkkophgaaFmtProg
import Derived.WalkKit
import Derived.ProofKit
import Derived.OpenShut
import Derived.ShutString
import Derived.Test.YtfhafelkkophgaaFmtAid
import Derived.Test.YtfhafelkkophgaaFmtN3
import Derived.ArgAppend
import Derived.WalkSmall
import Derived.Lib.OthersKept
import Derived.Laws.RangeAny
import Derived.Laws.OwnMore
import Derived.WalkSpells
import Derived.LoopTactic
import Derived.IntWalk
import Derived.Outline
import Derived.Deep.QuietTactic
import Derived.BigQuiet
import Derived.Deep.RegionHeld3
import Derived.Deep.RegionLaw
import Derived.StillTailTactics
import Derived.OwnWalk
import Derived.RegionTactic
import Derived.Laws.BitsAllLaws
import Derived.Laws.BitsLemmas
import Derived.Lib.ConvBytes
namespace Go.Proofs.YtfhafelkkophgaaFmt.Aux
open Go.ChangeShapes Go.WideShapes Go.ChangeAt Go.RowKit
open Go.ChangeMaps (open_string shut_string)
set_option linter.unusedVariables false
set_option linter.unusedSimpArgs false
open Fl Str Pb Qd PlainAid Aux
/-- What zzQuotedModelB2 hands back. -/
def Md (w : World) (s : ByteArray) (n : Nat) (Z : Nat → Int) (q : Int) (e : Ending) (w' : World) : Prop :=
  ∃ ja jn jc, ∃ P : List Int, e = .returned (.slice ja jn jc) ∧ Hid (OwnG w' w.heap.size (.slice ja jn jc) (P.length + 2) (.int .u8 q :: (P.map (fun x => Value.int .u8 x) ++ [.int .u8 q]))) ∧ P.length ≤ 6 * s.size ∧ Hid (Aux.Rest n Z q false false false 0 P) ∧ Hid (Below w.heap.size w w')
theorem mk8 (c : Nat) (x : Int) (hx : x = c) (hc : c ≤ 16777216) (w : World) : (Instr.makeSlice 25 (.int .i64 0) (.int .i64 x)).run Tryf.prog w = .ok (.slice (some ⟨w.heap.size, 0, none⟩) 0 c) (w.alloc (.cells (madeCells #[.int .u8 0] c) 5)) := by
  subst hx
  obtain ⟨i0, hi, hz0, hz1, hz2⟩ := info_parts info5
  have h := run_make (P := Tryf.prog) w 25 5 i0 _ Tryf.underlying25 hi hz0 .i64 .i64 0 (c : Int) (Int.le_refl _) (by omega) (by rw [hz2]; omega) (by omega)
  rw [hz1] at h
  simpa [Value.cells] using h
theorem ot_start (w : World) (c : Nat) (hc : c ≤ 16777216) : OT w w.heap.size [] 0 (w.alloc (.cells (madeCells #[.int .u8 0] c) 5)) (.slice (some ⟨w.heap.size, 0, none⟩) 0 c) [] := by
  refine ⟨OwnG.of ?_, ⟨[], by simp, by simp⟩, (Below.refl _ w).alloc (Nat.le_refl _) _⟩
  exact ⟨rfl, .inr ⟨w.heap.size, c, _, rfl, Nat.le_refl _, heap_alloc_new _ _, Nat.zero_le _, by unfold maxLen; omega, by rw [size_madeCells]; simp, by simp⟩⟩
theorem ot_rebase {w0 wr : World} {B m : Nat} {v : Value} {xs xs1 : List Value} (h : OT w0 B [] m wr v xs) (e : xs = xs1) : OT w0 B xs1 0 wr v xs1 := by
  subst e
  exact ⟨h.own, ⟨[], by simp, by simp⟩, h.bel⟩
theorem mrel_start {w wr : World} {s : ByteArray} {n : Nat} {Z : Nat → Int} {q : Int} {ja : Option Addr} {jn jc m : Nat} (h : OT w w.heap.size [] m wr (.slice ja jn jc) ([] ++ [.int .u8 q])) (hc : Cor s n Z 0 0) : MRel w w.heap.size s n Z q (.slice ja jn jc) (.int .i64 0) wr :=
  ⟨0, 0, Nat.zero_le _, rfl, ja, jn, jc, [.int .u8 q], rfl, Lib.hid ((ot_rebase h (by simp)).mono (by omega)), Lib.hid hc, Lib.hid Prv.start, Lib.hid (Pre.start _)⟩
theorem md_fin {w w' : World} {s : ByteArray} {n : Nat} {Z : Nat → Int} {q : Int} {ja : Option Addr} {jn jc m : Nat} {xs : List Value} (h : OT w w.heap.size [.int .u8 q] m w' (.slice ja jn jc) (xs ++ [.int .u8 q])) (hm : m ≤ 6 * s.size + 1) (hp : Pre n Z q false false false [.int .u8 q] n xs) : Md w s n Z q (.returned (.slice ja jn jc)) w' := by
  obtain ⟨P, e, hr⟩ := hp.done
  subst e
  obtain ⟨X, eX, hX⟩ := h.pre
  have hl := congrArg List.length eX
  simp at hl
  refine ⟨ja, jn, jc, P, rfl, Lib.hid ?_, by omega, Lib.hid hr, Lib.hid h.bel⟩
  have := h.own
  simpa using this
theorem qch_a {sg db bk : Int} {al : Bool} (h1 : sg < db) (h2 : bk < sg) : qch sg db bk al = if al then 96 else 39 := by cases al <;> simp [qch, h1, h2]
theorem qch_b {sg db bk : Int} {al : Bool} (h1 : sg < db) (h2 : ¬ bk < sg) : qch sg db bk al = 39 := by simp [qch, h1, h2]
theorem qch_c {sg db bk : Int} {al : Bool} (h1 : ¬ sg < db) (h2 : bk < db) : qch sg db bk al = if al then 96 else 34 := by cases al <;> simp [qch, h1, h2]
theorem qch_d {sg db bk : Int} {al : Bool} (h1 : ¬ sg < db) (h2 : ¬ bk < db) : qch sg db bk al = 34 := by simp [qch, h1, h2]
set_option maxRecDepth 1000000 in
set_option maxHeartbeats 40000000 in
theorem model19 (s : ByteArray) (hs : s.size ≤ 1048576) (n : Nat) (Z : Nat → Int) (al ms : Bool) (hC : Cor s n Z 0 0) (w : World) :
    Calls Tryf.prog 19 #[.string s, .bool al, .bool ms] w (Md w s n Z (qch (cntu Z 39 n : Nat) (cntu Z 34 n : Nat) (bkc Z n ms n) al)) := by
  obtain ⟨e39, ebk⟩ := cnt_cor 39 (by decide) ms s.size 0 0 (by omega) hC rfl rfl
  obtain ⟨e34, _⟩ := cnt_cor 34 (by decide) ms s.size 0 0 (by omega) hC rfl rfl
  obtain ⟨Q, hQ⟩ : ∃ Q, qch (cntu Z 39 n : Nat) (cntu Z 34 n : Nat) (bkc Z n ms n) al = Q := ⟨_, rfl⟩
  rw [hQ]
  rw [← e39, ← e34, ← ebk] at hQ
  have HQ := Lib.hid hQ
  clear e39 e34 ebk hQ
  have hmk := mk8 (s.size + 2) ((s.size : Int) + 2) (by omega) (by omega)
  have HST := Lib.hid (ot_start w (s.size + 2) (by omega))
  have HCO := Lib.hid hC
  clear hC
  go_enter Tryf.func19, Tryf.ntmps19
  go_wp2_with fail
  go_loopw [8, 9, 10, 11] (fun sg db bk i wr => ∃ k : Nat, k ≤ s.size ∧ i = .int .i64 k ∧ sg = .int .i64 (cntu (bt s) 39 k : Nat) ∧ db = .int .i64 (cntu (bt s) 34 k : Nat) ∧ bk = .int .i64 (bkc (bt s) s.size ms k) ∧ wr = w) (fun _ _ _ i _ => s.size - (intOf i).toNat)
  case atStart => exact ⟨0, Nat.zero_le _, rfl, rfl, rfl, rfl, rfl⟩
  case round =>
    obtain ⟨k, hk, rfl, rfl, rfl, rfl, rfl⟩ := hrel
    by_cases hlt : k < s.size
    · obtain ⟨z, hz, hz0, hz255⟩ : ∃ z : Int, bt s k = z ∧ 0 ≤ z ∧ z ≤ 255 := ⟨_, rfl, (bt_rng s _).1, (bt_rng s _).2⟩
      have g0 : ∀ h' : k < s.size, ((s[k]'h').toNat : Int) = z := fun h' => (get_bt s k h').trans hz
      have hk2 : (k : Int) < (s.size : Int) := by omega
      have hc39 := cntu_le (bt s) 39 k
      have hc34 := cntu_le (bt s) 34 k
      have hcb := bkc_le (bt s) s.size ms k
      have HZK := Lib.hid hz
      clear hz
      by_cases z10 : z = 10
      · subst z10
        cases ms
        · go_wp2_with fail
          go_roundw
          case rel => exact ⟨k + 1, by omega, by go_num, by simp [cntu, HZK.out], by simp [cntu, HZK.out], (by simp [bkc, bst, HZK.out]; try omega), by trivial⟩
          case measure => simp [intOf]; omega
        · go_wp2_with fail
          go_roundw
          case rel => exact ⟨k + 1, by omega, by go_num, by simp [cntu, HZK.out], by simp [cntu, HZK.out], (by simp [bkc, bst, HZK.out]; try omega), by trivial⟩
          case measure => simp [intOf]; omega
      by_cases z39 : z = 39
      · subst z39
        go_wp2_with fail
        go_roundw
        case rel => exact ⟨k + 1, by omega, by go_num, by simp [cntu, HZK.out], by simp [cntu, HZK.out], (by simp [bkc, bst, HZK.out]; try omega), by trivial⟩
        case measure => simp [intOf]; omega
      by_cases z34 : z = 34
      · subst z34
        go_wp2_with fail
        go_roundw
        case rel => exact ⟨k + 1, by omega, by go_num, by simp [cntu, HZK.out], by simp [cntu, HZK.out], (by simp [bkc, bst, HZK.out]; try omega), by trivial⟩
        case measure => simp [intOf]; omega
      by_cases z96 : z = 96
      · subst z96
        go_wp2_with fail
        go_roundw
        case rel => exact ⟨k + 1, by omega, by go_num, by simp [cntu, HZK.out], by simp [cntu, HZK.out], (by simp [bkc, bst, HZK.out]; try omega), by trivial⟩
        case measure => simp [intOf]; omega
      by_cases z36 : z = 36
      · subst z36
        by_cases hk3 : k + 1 < s.size
        · have hk4 : (k : Int) + 1 < (s.size : Int) := by omega
          have ek : ((k : Int) + 1).toNat = k + 1 := by omega
          obtain ⟨y, hy, hy0, hy1⟩ : ∃ y : Int, bt s (k + 1) = y ∧ 0 ≤ y ∧ y ≤ 255 := ⟨_, rfl, (bt_rng s _).1, (bt_rng s _).2⟩
          have gy : ∀ h' : k + 1 < s.size, ((s[k + 1]'h').toNat : Int) = y := fun h' => (get_bt s (k + 1) h').trans hy
          have HYK := Lib.hid hy
          clear hy
          by_cases y123 : y = 123
          · subst y123
            go_wp2_with fail
            go_roundw
            case rel => exact ⟨k + 1, by omega, by go_num, by simp [cntu, HZK.out, HYK.out, hk3], by simp [cntu, HZK.out, HYK.out, hk3], (by simp [bkc, bst, HZK.out, HYK.out, hk3]; try omega), by trivial⟩
            case measure => simp [intOf]; omega
          · have y2 : (y == 123) = false := by simpa using y123
            go_wp2_with fail
            go_roundw
            case rel => exact ⟨k + 1, by omega, by go_num, by simp [cntu, HZK.out, HYK.out, hk3, y123], by simp [cntu, HZK.out, HYK.out, hk3, y123], (by simp [bkc, bst, HZK.out, HYK.out, hk3, y123]; try omega), by trivial⟩
            case measure => simp [intOf]; omega
        · have hk4 : ¬ (k : Int) + 1 < (s.size : Int) := by omega
          go_wp2_with fail
          go_roundw
          case rel => exact ⟨k + 1, by omega, by go_num, by simp [cntu, HZK.out, hk3], by simp [cntu, HZK.out, hk3], (by simp [bkc, bst, HZK.out, hk3]; try omega), by trivial⟩
          case measure => simp [intOf]; omega
      have y10 : (z == 10) = false := by simpa using z10
      have y39 : (z == 39) = false := by simpa using z39
      have y34 : (z == 34) = false := by simpa using z34
      have y96 : (z == 96) = false := by simpa using z96
      have y36 : (z == 36) = false := by simpa using z36
      go_wp2_with fail
      go_roundw
      case rel => exact ⟨k + 1, by omega, by go_num, by simp [cntu, HZK.out, z10, z39, z34, z96, z36], by simp [cntu, HZK.out, z10, z39, z34, z96, z36], (by simp [bkc, bst, HZK.out, z10, z39, z34, z96, z36]; try omega), by trivial⟩
      case measure => simp [intOf]; omega
    · obtain rfl : k = s.size := by omega
      have hk2 : ¬ (s.size : Int) < (s.size : Int) := by omega
      have hw : wr.drewN 0 = wr := rfl
      obtain ⟨sg, hsg⟩ : ∃ sg : Int, (cntu (bt s) 39 s.size : Int) = sg := ⟨_, rfl⟩
      obtain ⟨db, hdb⟩ : ∃ db : Int, (cntu (bt s) 34 s.size : Int) = db := ⟨_, rfl⟩
      obtain ⟨bk, hbk⟩ : ∃ bk : Int, bkc (bt s) s.size ms s.size = bk := ⟨_, rfl⟩
      rw [hsg, hdb, hbk]
      have HQ2 : Hid (qch sg db bk al = Q) := Lib.hid (by rw [← hsg, ← hdb, ← hbk]; exact HQ.out)
      clear hsg hdb hbk hw
      by_cases h1 : sg < db
      · by_cases h2 : bk < sg
        · cases al
          · have eq : qch sg db bk false = 39 := by rw [qch_a h1 h2]; rfl
            have E : Hid (Q = 39) := Lib.hid (HQ2.out.symm.trans eq)
            clear eq
            have R1 := Lib.hid (fun ty o ho => OT.one HST.out (Nat.le_refl _) #[.int .u8 39] 1 rfl (by intro u hu; simp at hu; subst hu; rfl) (by simp) ty o ho)
            go_wp2_with (at_builtin; refine wpList_app rfl _ _ #[25, 25] rfl rfl rfl (R1.out _ _ (by simp)) ?_; rintro v' w' ⟨ja2, jn2, jc2, rfl, HU⟩)
            rename_i K1 hK1
            refine mloop wr wr.heap.size s n Z 39 _ _ _ _ _ _ _ _ _ _ _ _ _ _ _ _ _ _ _ _ _ _ _ _ _ _ _ _ _ _ _ _ _ _ _ _ _ _ _ _ _ _ _ _ _ _ _ _ _ _ _ _ _ _ _ _ _ _ _ _ _ _ _ _ _ _ _ _ _ _ _ _ _ _ _ _ _ _ _ hs (Nat.le_refl _) ?_ _ _ _ _ _ _ _ _ _ _ _ _ _ _ _ _ _ _ _ _ _ _ _ _ _ _ _ _ _ _ _ _ _ _ _ _ _ _ _ _ _ _ _ _ _ _ _ _ _ _ _ _ _ _ _ _ _ _ _ _ _ _ _ _ _ _ _ _ _ _ _ _ _ _ _ _ _ _ _ _ _ _ _ _ _ _ _ _ _ _ _ _ _ _ _ _ _ _ _ _ _ _ _ _ _ _ _ _ _ _ _ _ _ _ _ _ _ _ _ _ _ _ _ _ _ _ _ _ _ _ _ _ _ _ _ _ _ _ _ _ _ _ _ _ _ _ _ _ _ _ _ _ _ _ _ _ _ _ _ _ _ _ _ _ _ _ _ _ _ _ _ _ _ _ _ _ _ _ _ _ (mrel_start HU.out HCO.out)
            intro a1 wz hI hmu
            refine hK1 _ _ ?_
            clear hK1
            unfold MJ at hI
            obtain ⟨u15, hI⟩ := hI
            obtain ⟨u16, hI⟩ := hI
            obtain ⟨u17, hI⟩ := hI
            obtain ⟨u18, hI⟩ := hI
            obtain ⟨u19, hI⟩ := hI
            obtain ⟨u20, hI⟩ := hI
            obtain ⟨u21, hI⟩ := hI
            obtain ⟨u82, hI⟩ := hI
            obtain ⟨u83, hI⟩ := hI
            obtain ⟨u84, hI⟩ := hI
            obtain ⟨u85, hI⟩ := hI
            obtain ⟨u86, hI⟩ := hI
            obtain ⟨u87, hI⟩ := hI
            obtain ⟨u88, hI⟩ := hI
            obtain ⟨u89, hI⟩ := hI
            obtain ⟨u90, hI⟩ := hI
            obtain ⟨u91, hI⟩ := hI
            obtain ⟨u92, hI⟩ := hI
            obtain ⟨u93, hI⟩ := hI
            obtain ⟨u94, hI⟩ := hI
            obtain ⟨u95, hI⟩ := hI
            obtain ⟨u96, hI⟩ := hI
            obtain ⟨u97, hI⟩ := hI
            obtain ⟨u98, hI⟩ := hI
            obtain ⟨u99, hI⟩ := hI
            obtain ⟨u100, hI⟩ := hI
            obtain ⟨u101, hI⟩ := hI
            obtain ⟨u102, hI⟩ := hI
            obtain ⟨u103, hI⟩ := hI
            obtain ⟨u104, hI⟩ := hI
            obtain ⟨u105, hI⟩ := hI
            obtain ⟨u106, hI⟩ := hI
            obtain ⟨u107, hI⟩ := hI
            obtain ⟨u108, hI⟩ := hI
            obtain ⟨u109, hI⟩ := hI
            obtain ⟨u110, hI⟩ := hI
            obtain ⟨u111, hI⟩ := hI
            obtain ⟨u112, hI⟩ := hI
            obtain ⟨u113, hI⟩ := hI
            obtain ⟨u114, hI⟩ := hI
            obtain ⟨u115, hI⟩ := hI
            obtain ⟨u116, hI⟩ := hI
            obtain ⟨u117, hI⟩ := hI
            obtain ⟨u118, hI⟩ := hI
            obtain ⟨u119, hI⟩ := hI
            obtain ⟨u120, hI⟩ := hI
            obtain ⟨u121, hI⟩ := hI
            obtain ⟨u122, hI⟩ := hI
            obtain ⟨u123, hI⟩ := hI
            obtain ⟨u124, hI⟩ := hI
            obtain ⟨u125, hI⟩ := hI
            obtain ⟨u126, hI⟩ := hI
            obtain ⟨u127, hI⟩ := hI
            obtain ⟨u128, hI⟩ := hI
            obtain ⟨u129, hI⟩ := hI
            obtain ⟨u130, hI⟩ := hI
            obtain ⟨u131, hI⟩ := hI
            obtain ⟨u132, hI⟩ := hI
            obtain ⟨u133, hI⟩ := hI
            obtain ⟨u134, hI⟩ := hI
            obtain ⟨u135, hI⟩ := hI
            obtain ⟨u136, hI⟩ := hI
            obtain ⟨u137, hI⟩ := hI
            obtain ⟨u138, hI⟩ := hI
            obtain ⟨u139, hI⟩ := hI
            obtain ⟨u140, hI⟩ := hI
            obtain ⟨u141, hI⟩ := hI
            obtain ⟨u142, hI⟩ := hI
            obtain ⟨u143, hI⟩ := hI
            obtain ⟨u144, hI⟩ := hI
            obtain ⟨u145, hI⟩ := hI
            obtain ⟨u146, hI⟩ := hI
            obtain ⟨u147, hI⟩ := hI
            obtain ⟨u148, hI⟩ := hI
            obtain ⟨u149, hI⟩ := hI
            obtain ⟨u150, hI⟩ := hI
            obtain ⟨u151, hI⟩ := hI
            obtain ⟨u152, hI⟩ := hI
            obtain ⟨u153, hI⟩ := hI
            obtain ⟨u154, hI⟩ := hI
            obtain ⟨u155, hI⟩ := hI
            obtain ⟨u156, hI⟩ := hI
            obtain ⟨u157, hI⟩ := hI
            obtain ⟨u158, hI⟩ := hI
            obtain ⟨u159, hI⟩ := hI
            obtain ⟨u160, hI⟩ := hI
            obtain ⟨u161, hI⟩ := hI
            obtain ⟨u162, hI⟩ := hI
            obtain ⟨u163, hI⟩ := hI
            obtain ⟨u164, hI⟩ := hI
            obtain ⟨u165, hI⟩ := hI
            obtain ⟨u166, hI⟩ := hI
            obtain ⟨u167, hI⟩ := hI
            obtain ⟨u168, hI⟩ := hI
            obtain ⟨u169, hI⟩ := hI
            obtain ⟨u170, hI⟩ := hI
            obtain ⟨u171, hI⟩ := hI
            obtain ⟨u172, hI⟩ := hI
            obtain ⟨u173, hI⟩ := hI
            obtain ⟨u174, hI⟩ := hI
            obtain ⟨u175, hI⟩ := hI
            obtain ⟨u176, hI⟩ := hI
            obtain ⟨u177, hI⟩ := hI
            obtain ⟨u178, hI⟩ := hI
            obtain ⟨u179, hI⟩ := hI
            obtain ⟨u180, hI⟩ := hI
            obtain ⟨u181, hI⟩ := hI
            obtain ⟨u182, hI⟩ := hI
            obtain ⟨u183, hI⟩ := hI
            obtain ⟨u184, hI⟩ := hI
            obtain ⟨u185, hI⟩ := hI
            obtain ⟨u186, hI⟩ := hI
            obtain ⟨u187, hI⟩ := hI
            obtain ⟨u188, hI⟩ := hI
            obtain ⟨u189, hI⟩ := hI
            obtain ⟨u190, hI⟩ := hI
            obtain ⟨u191, hI⟩ := hI
            obtain ⟨u192, hI⟩ := hI
            obtain ⟨u193, hI⟩ := hI
            obtain ⟨u194, hI⟩ := hI
            obtain ⟨u195, hI⟩ := hI
            obtain ⟨u196, hI⟩ := hI
            obtain ⟨u197, hI⟩ := hI
            obtain ⟨u198, hI⟩ := hI
            obtain ⟨u199, hI⟩ := hI
            obtain ⟨u200, hI⟩ := hI
            obtain ⟨u201, hI⟩ := hI
            obtain ⟨u202, hI⟩ := hI
            obtain ⟨u203, hI⟩ := hI
            obtain ⟨u204, hI⟩ := hI
            obtain ⟨u205, hI⟩ := hI
            obtain ⟨u206, hI⟩ := hI
            obtain ⟨u207, hI⟩ := hI
            obtain ⟨u208, hI⟩ := hI
            obtain ⟨u209, hI⟩ := hI
            obtain ⟨u210, hI⟩ := hI
            obtain ⟨u211, hI⟩ := hI
            obtain ⟨u212, hI⟩ := hI
            obtain ⟨u213, hI⟩ := hI
            obtain ⟨u214, hI⟩ := hI
            obtain ⟨u215, hI⟩ := hI
            obtain ⟨u216, hI⟩ := hI
            obtain ⟨u217, hI⟩ := hI
            obtain ⟨u218, hI⟩ := hI
            obtain ⟨u219, hI⟩ := hI
            obtain ⟨u220, hI⟩ := hI
            obtain ⟨u221, hI⟩ := hI
            obtain ⟨u222, hI⟩ := hI
            obtain ⟨u223, hI⟩ := hI
            obtain ⟨u224, hI⟩ := hI
            obtain ⟨u225, hI⟩ := hI
            obtain ⟨u226, hI⟩ := hI
            obtain ⟨u227, hI⟩ := hI
            obtain ⟨u228, hI⟩ := hI
            obtain ⟨u229, hI⟩ := hI
            obtain ⟨u230, hI⟩ := hI
            obtain ⟨u231, hI⟩ := hI
            obtain ⟨u232, hI⟩ := hI
            obtain ⟨u233, hI⟩ := hI
            obtain ⟨u234, hI⟩ := hI
            obtain ⟨u235, hI⟩ := hI
            obtain ⟨u236, hI⟩ := hI
            obtain ⟨u237, hI⟩ := hI
            obtain ⟨u238, hI⟩ := hI
            obtain ⟨u239, hI⟩ := hI
            obtain ⟨u240, hI⟩ := hI
            obtain ⟨u241, hI⟩ := hI
            obtain ⟨u242, hI⟩ := hI
            obtain ⟨u243, hI⟩ := hI
            obtain ⟨u244, hI⟩ := hI
            obtain ⟨u245, hI⟩ := hI
            obtain ⟨u246, hI⟩ := hI
            obtain ⟨u247, hI⟩ := hI
            obtain ⟨u248, hI⟩ := hI
            obtain ⟨u249, hI⟩ := hI
            obtain ⟨u250, hI⟩ := hI
            obtain ⟨u251, hI⟩ := hI
            obtain ⟨u252, hI⟩ := hI
            obtain ⟨u253, hI⟩ := hI
            obtain ⟨hrel, rfl⟩ := hI
            obtain ⟨ii, kk, hii, rfl, ja, jn, jc, xs, rfl, HU2, HC2, HV2, HP2⟩ := hrel
            have hfi : ii = s.size := by simp [Mmu, intOf] at hmu; omega
            have hkk : kk = n := by rcases HC2.out.cases with ⟨_, h⟩ | ⟨h, _⟩ | ⟨h, _⟩ <;> omega
            have R2 := Lib.hid (fun ty o ho => OT.one HU2.out (Nat.le_refl _) #[.int .u8 39] 1 rfl (by intro u hu; simp at hu; subst hu; rfl) (by simp; omega) ty o ho)
            go_wp2_with (at_builtin; refine wpList_app rfl _ _ #[25, 25] rfl rfl rfl (R2.out _ _ (by simp)) ?_; rintro v' w' ⟨ja3, jn3, jc3, rfl, HU3⟩)
            go_ret
            rw [E.out]
            exact md_fin HU3.out (by omega) (by have h := HP2.out; rw [hkk] at h; exact h)
          · have eq : qch sg db bk true = 96 := by rw [qch_a h1 h2]; rfl
            have E : Hid (Q = 96) := Lib.hid (HQ2.out.symm.trans eq)
            clear eq
            have R1 := Lib.hid (fun ty o ho => OT.one HST.out (Nat.le_refl _) #[.int .u8 96] 1 rfl (by intro u hu; simp at hu; subst hu; rfl) (by simp) ty o ho)
            go_wp2_with (at_builtin; refine wpList_app rfl _ _ #[25, 25] rfl rfl rfl (R1.out _ _ (by simp)) ?_; rintro v' w' ⟨ja2, jn2, jc2, rfl, HU⟩)
            rename_i K1 hK1
            refine mloop wr wr.heap.size s n Z 96 _ _ _ _ _ _ _ _ _ _ _ _ _ _ _ _ _ _ _ _ _ _ _ _ _ _ _ _ _ _ _ _ _ _ _ _ _ _ _ _ _ _ _ _ _ _ _ _ _ _ _ _ _ _ _ _ _ _ _ _ _ _ _ _ _ _ _ _ _ _ _ _ _ _ _ _ _ _ _ hs (Nat.le_refl _) ?_ _ _ _ _ _ _ _ _ _ _ _ _ _ _ _ _ _ _ _ _ _ _ _ _ _ _ _ _ _ _ _ _ _ _ _ _ _ _ _ _ _ _ _ _ _ _ _ _ _ _ _ _ _ _ _ _ _ _ _ _ _ _ _ _ _ _ _ _ _ _ _ _ _ _ _ _ _ _ _ _ _ _ _ _ _ _ _ _ _ _ _ _ _ _ _ _ _ _ _ _ _ _ _ _ _ _ _ _ _ _ _ _ _ _ _ _ _ _ _ _ _ _ _ _ _ _ _ _ _ _ _ _ _ _ _ _ _ _ _ _ _ _ _ _ _ _ _ _ _ _ _ _ _ _ _ _ _ _ _ _ _ _ _ _ _ _ _ _ _ _ _ _ _ _ _ _ _ _ _ _ (mrel_start HU.out HCO.out)
            intro a1 wz hI hmu
            refine hK1 _ _ ?_
            clear hK1
            unfold MJ at hI
            obtain ⟨u15, hI⟩ := hI
            obtain ⟨u16, hI⟩ := hI
            obtain ⟨u17, hI⟩ := hI
            obtain ⟨u18, hI⟩ := hI
            obtain ⟨u19, hI⟩ := hI
            obtain ⟨u20, hI⟩ := hI
            obtain ⟨u21, hI⟩ := hI
            obtain ⟨u82, hI⟩ := hI
            obtain ⟨u83, hI⟩ := hI
            obtain ⟨u84, hI⟩ := hI
            obtain ⟨u85, hI⟩ := hI
            obtain ⟨u86, hI⟩ := hI
            obtain ⟨u87, hI⟩ := hI
            obtain ⟨u88, hI⟩ := hI
            obtain ⟨u89, hI⟩ := hI
            obtain ⟨u90, hI⟩ := hI
            obtain ⟨u91, hI⟩ := hI
            obtain ⟨u92, hI⟩ := hI
            obtain ⟨u93, hI⟩ := hI
            obtain ⟨u94, hI⟩ := hI
            obtain ⟨u95, hI⟩ := hI
            obtain ⟨u96, hI⟩ := hI
            obtain ⟨u97, hI⟩ := hI
            obtain ⟨u98, hI⟩ := hI
            obtain ⟨u99, hI⟩ := hI
            obtain ⟨u100, hI⟩ := hI
            obtain ⟨u101, hI⟩ := hI
            obtain ⟨u102, hI⟩ := hI
            obtain ⟨u103, hI⟩ := hI
            obtain ⟨u104, hI⟩ := hI
            obtain ⟨u105, hI⟩ := hI
            obtain ⟨u106, hI⟩ := hI
            obtain ⟨u107, hI⟩ := hI
            obtain ⟨u108, hI⟩ := hI
            obtain ⟨u109, hI⟩ := hI
            obtain ⟨u110, hI⟩ := hI
            obtain ⟨u111, hI⟩ := hI
            obtain ⟨u112, hI⟩ := hI
            obtain ⟨u113, hI⟩ := hI
            obtain ⟨u114, hI⟩ := hI
            obtain ⟨u115, hI⟩ := hI
            obtain ⟨u116, hI⟩ := hI
            obtain ⟨u117, hI⟩ := hI
            obtain ⟨u118, hI⟩ := hI
            obtain ⟨u119, hI⟩ := hI
            obtain ⟨u120, hI⟩ := hI
            obtain ⟨u121, hI⟩ := hI
            obtain ⟨u122, hI⟩ := hI
            obtain ⟨u123, hI⟩ := hI
            obtain ⟨u124, hI⟩ := hI
            obtain ⟨u125, hI⟩ := hI
            obtain ⟨u126, hI⟩ := hI
            obtain ⟨u127, hI⟩ := hI
            obtain ⟨u128, hI⟩ := hI
            obtain ⟨u129, hI⟩ := hI
            obtain ⟨u130, hI⟩ := hI
            obtain ⟨u131, hI⟩ := hI
            obtain ⟨u132, hI⟩ := hI
            obtain ⟨u133, hI⟩ := hI
            obtain ⟨u134, hI⟩ := hI
            obtain ⟨u135, hI⟩ := hI
            obtain ⟨u136, hI⟩ := hI
            obtain ⟨u137, hI⟩ := hI
            obtain ⟨u138, hI⟩ := hI
            obtain ⟨u139, hI⟩ := hI
            obtain ⟨u140, hI⟩ := hI
            obtain ⟨u141, hI⟩ := hI
            obtain ⟨u142, hI⟩ := hI
            obtain ⟨u143, hI⟩ := hI
            obtain ⟨u144, hI⟩ := hI
            obtain ⟨u145, hI⟩ := hI
            obtain ⟨u146, hI⟩ := hI
            obtain ⟨u147, hI⟩ := hI
            obtain ⟨u148, hI⟩ := hI
            obtain ⟨u149, hI⟩ := hI
            obtain ⟨u150, hI⟩ := hI
            obtain ⟨u151, hI⟩ := hI
            obtain ⟨u152, hI⟩ := hI
            obtain ⟨u153, hI⟩ := hI
            obtain ⟨u154, hI⟩ := hI
            obtain ⟨u155, hI⟩ := hI
            obtain ⟨u156, hI⟩ := hI
            obtain ⟨u157, hI⟩ := hI
            obtain ⟨u158, hI⟩ := hI
            obtain ⟨u159, hI⟩ := hI
            obtain ⟨u160, hI⟩ := hI
            obtain ⟨u161, hI⟩ := hI
            obtain ⟨u162, hI⟩ := hI
            obtain ⟨u163, hI⟩ := hI
            obtain ⟨u164, hI⟩ := hI
            obtain ⟨u165, hI⟩ := hI
            obtain ⟨u166, hI⟩ := hI
            obtain ⟨u167, hI⟩ := hI
            obtain ⟨u168, hI⟩ := hI
            obtain ⟨u169, hI⟩ := hI
            obtain ⟨u170, hI⟩ := hI
            obtain ⟨u171, hI⟩ := hI
            obtain ⟨u172, hI⟩ := hI
            obtain ⟨u173, hI⟩ := hI
            obtain ⟨u174, hI⟩ := hI
            obtain ⟨u175, hI⟩ := hI
            obtain ⟨u176, hI⟩ := hI
            obtain ⟨u177, hI⟩ := hI
            obtain ⟨u178, hI⟩ := hI
            obtain ⟨u179, hI⟩ := hI
            obtain ⟨u180, hI⟩ := hI
            obtain ⟨u181, hI⟩ := hI
            obtain ⟨u182, hI⟩ := hI
            obtain ⟨u183, hI⟩ := hI
            obtain ⟨u184, hI⟩ := hI
            obtain ⟨u185, hI⟩ := hI
            obtain ⟨u186, hI⟩ := hI
            obtain ⟨u187, hI⟩ := hI
            obtain ⟨u188, hI⟩ := hI
            obtain ⟨u189, hI⟩ := hI
            obtain ⟨u190, hI⟩ := hI
            obtain ⟨u191, hI⟩ := hI
            obtain ⟨u192, hI⟩ := hI
            obtain ⟨u193, hI⟩ := hI
            obtain ⟨u194, hI⟩ := hI
            obtain ⟨u195, hI⟩ := hI
            obtain ⟨u196, hI⟩ := hI
            obtain ⟨u197, hI⟩ := hI
            obtain ⟨u198, hI⟩ := hI
            obtain ⟨u199, hI⟩ := hI
            obtain ⟨u200, hI⟩ := hI
            obtain ⟨u201, hI⟩ := hI
            obtain ⟨u202, hI⟩ := hI
            obtain ⟨u203, hI⟩ := hI
            obtain ⟨u204, hI⟩ := hI
            obtain ⟨u205, hI⟩ := hI
            obtain ⟨u206, hI⟩ := hI
            obtain ⟨u207, hI⟩ := hI
            obtain ⟨u208, hI⟩ := hI
            obtain ⟨u209, hI⟩ := hI
            obtain ⟨u210, hI⟩ := hI
            obtain ⟨u211, hI⟩ := hI
            obtain ⟨u212, hI⟩ := hI
            obtain ⟨u213, hI⟩ := hI
            obtain ⟨u214, hI⟩ := hI
            obtain ⟨u215, hI⟩ := hI
            obtain ⟨u216, hI⟩ := hI
            obtain ⟨u217, hI⟩ := hI
            obtain ⟨u218, hI⟩ := hI
            obtain ⟨u219, hI⟩ := hI
            obtain ⟨u220, hI⟩ := hI
            obtain ⟨u221, hI⟩ := hI
            obtain ⟨u222, hI⟩ := hI
            obtain ⟨u223, hI⟩ := hI
            obtain ⟨u224, hI⟩ := hI
            obtain ⟨u225, hI⟩ := hI
            obtain ⟨u226, hI⟩ := hI
            obtain ⟨u227, hI⟩ := hI
            obtain ⟨u228, hI⟩ := hI
            obtain ⟨u229, hI⟩ := hI
            obtain ⟨u230, hI⟩ := hI
            obtain ⟨u231, hI⟩ := hI
            obtain ⟨u232, hI⟩ := hI
            obtain ⟨u233, hI⟩ := hI
            obtain ⟨u234, hI⟩ := hI
            obtain ⟨u235, hI⟩ := hI
            obtain ⟨u236, hI⟩ := hI
            obtain ⟨u237, hI⟩ := hI
            obtain ⟨u238, hI⟩ := hI
            obtain ⟨u239, hI⟩ := hI
            obtain ⟨u240, hI⟩ := hI
            obtain ⟨u241, hI⟩ := hI
            obtain ⟨u242, hI⟩ := hI
            obtain ⟨u243, hI⟩ := hI
            obtain ⟨u244, hI⟩ := hI
            obtain ⟨u245, hI⟩ := hI
            obtain ⟨u246, hI⟩ := hI
            obtain ⟨u247, hI⟩ := hI
            obtain ⟨u248, hI⟩ := hI
            obtain ⟨u249, hI⟩ := hI
            obtain ⟨u250, hI⟩ := hI
            obtain ⟨u251, hI⟩ := hI
            obtain ⟨u252, hI⟩ := hI
            obtain ⟨u253, hI⟩ := hI
            obtain ⟨hrel, rfl⟩ := hI
            obtain ⟨ii, kk, hii, rfl, ja, jn, jc, xs, rfl, HU2, HC2, HV2, HP2⟩ := hrel
            have hfi : ii = s.size := by simp [Mmu, intOf] at hmu; omega
            have hkk : kk = n := by rcases HC2.out.cases with ⟨_, h⟩ | ⟨h, _⟩ | ⟨h, _⟩ <;> omega
            have R2 := Lib.hid (fun ty o ho => OT.one HU2.out (Nat.le_refl _) #[.int .u8 96] 1 rfl (by intro u hu; simp at hu; subst hu; rfl) (by simp; omega) ty o ho)
            go_wp2_with (at_builtin; refine wpList_app rfl _ _ #[25, 25] rfl rfl rfl (R2.out _ _ (by simp)) ?_; rintro v' w' ⟨ja3, jn3, jc3, rfl, HU3⟩)
            go_ret
            rw [E.out]
            exact md_fin HU3.out (by omega) (by have h := HP2.out; rw [hkk] at h; exact h)
        · cases al
          · have eq : qch sg db bk false = 39 := qch_b h1 h2
            have E : Hid (Q = 39) := Lib.hid (HQ2.out.symm.trans eq)
            clear eq
            have R1 := Lib.hid (fun ty o ho => OT.one HST.out (Nat.le_refl _) #[.int .u8 39] 1 rfl (by intro u hu; simp at hu; subst hu; rfl) (by simp) ty o ho)
            go_wp2_with (at_builtin; refine wpList_app rfl _ _ #[25, 25] rfl rfl rfl (R1.out _ _ (by simp)) ?_; rintro v' w' ⟨ja2, jn2, jc2, rfl, HU⟩)
            rename_i K1 hK1
            refine mloop wr wr.heap.size s n Z 39 _ _ _ _ _ _ _ _ _ _ _ _ _ _ _ _ _ _ _ _ _ _ _ _ _ _ _ _ _ _ _ _ _ _ _ _ _ _ _ _ _ _ _ _ _ _ _ _ _ _ _ _ _ _ _ _ _ _ _ _ _ _ _ _ _ _ _ _ _ _ _ _ _ _ _ _ _ _ _ hs (Nat.le_refl _) ?_ _ _ _ _ _ _ _ _ _ _ _ _ _ _ _ _ _ _ _ _ _ _ _ _ _ _ _ _ _ _ _ _ _ _ _ _ _ _ _ _ _ _ _ _ _ _ _ _ _ _ _ _ _ _ _ _ _ _ _ _ _ _ _ _ _ _ _ _ _ _ _ _ _ _ _ _ _ _ _ _ _ _ _ _ _ _ _ _ _ _ _ _ _ _ _ _ _ _ _ _ _ _ _ _ _ _ _ _ _ _ _ _ _ _ _ _ _ _ _ _ _ _ _ _ _ _ _ _ _ _ _ _ _ _ _ _ _ _ _ _ _ _ _ _ _ _ _ _ _ _ _ _ _ _ _ _ _ _ _ _ _ _ _ _ _ _ _ _ _ _ _ _ _ _ _ _ _ _ _ _ (mrel_start HU.out HCO.out)
            intro a1 wz hI hmu
            refine hK1 _ _ ?_
            clear hK1
            unfold MJ at hI
            obtain ⟨u15, hI⟩ := hI
            obtain ⟨u16, hI⟩ := hI
            obtain ⟨u17, hI⟩ := hI
            obtain ⟨u18, hI⟩ := hI
            obtain ⟨u19, hI⟩ := hI
            obtain ⟨u20, hI⟩ := hI
            obtain ⟨u21, hI⟩ := hI
            obtain ⟨u82, hI⟩ := hI
            obtain ⟨u83, hI⟩ := hI
            obtain ⟨u84, hI⟩ := hI
            obtain ⟨u85, hI⟩ := hI
            obtain ⟨u86, hI⟩ := hI
            obtain ⟨u87, hI⟩ := hI
            obtain ⟨u88, hI⟩ := hI
            obtain ⟨u89, hI⟩ := hI
            obtain ⟨u90, hI⟩ := hI
            obtain ⟨u91, hI⟩ := hI
            obtain ⟨u92, hI⟩ := hI
            obtain ⟨u93, hI⟩ := hI
            obtain ⟨u94, hI⟩ := hI
            obtain ⟨u95, hI⟩ := hI
            obtain ⟨u96, hI⟩ := hI
            obtain ⟨u97, hI⟩ := hI
            obtain ⟨u98, hI⟩ := hI
            obtain ⟨u99, hI⟩ := hI
            obtain ⟨u100, hI⟩ := hI
            obtain ⟨u101, hI⟩ := hI
            obtain ⟨u102, hI⟩ := hI
            obtain ⟨u103, hI⟩ := hI
            obtain ⟨u104, hI⟩ := hI
            obtain ⟨u105, hI⟩ := hI
            obtain ⟨u106, hI⟩ := hI
            obtain ⟨u107, hI⟩ := hI
            obtain ⟨u108, hI⟩ := hI
            obtain ⟨u109, hI⟩ := hI
            obtain ⟨u110, hI⟩ := hI
            obtain ⟨u111, hI⟩ := hI
            obtain ⟨u112, hI⟩ := hI
            obtain ⟨u113, hI⟩ := hI
            obtain ⟨u114, hI⟩ := hI
            obtain ⟨u115, hI⟩ := hI
            obtain ⟨u116, hI⟩ := hI
            obtain ⟨u117, hI⟩ := hI
            obtain ⟨u118, hI⟩ := hI
            obtain ⟨u119, hI⟩ := hI
            obtain ⟨u120, hI⟩ := hI
            obtain ⟨u121, hI⟩ := hI
            obtain ⟨u122, hI⟩ := hI
            obtain ⟨u123, hI⟩ := hI
            obtain ⟨u124, hI⟩ := hI
            obtain ⟨u125, hI⟩ := hI
            obtain ⟨u126, hI⟩ := hI
            obtain ⟨u127, hI⟩ := hI
            obtain ⟨u128, hI⟩ := hI
            obtain ⟨u129, hI⟩ := hI
            obtain ⟨u130, hI⟩ := hI
            obtain ⟨u131, hI⟩ := hI
            obtain ⟨u132, hI⟩ := hI
            obtain ⟨u133, hI⟩ := hI
            obtain ⟨u134, hI⟩ := hI
            obtain ⟨u135, hI⟩ := hI
            obtain ⟨u136, hI⟩ := hI
            obtain ⟨u137, hI⟩ := hI
            obtain ⟨u138, hI⟩ := hI
            obtain ⟨u139, hI⟩ := hI
            obtain ⟨u140, hI⟩ := hI
            obtain ⟨u141, hI⟩ := hI
            obtain ⟨u142, hI⟩ := hI
            obtain ⟨u143, hI⟩ := hI
            obtain ⟨u144, hI⟩ := hI
            obtain ⟨u145, hI⟩ := hI
            obtain ⟨u146, hI⟩ := hI
            obtain ⟨u147, hI⟩ := hI
            obtain ⟨u148, hI⟩ := hI
            obtain ⟨u149, hI⟩ := hI
            obtain ⟨u150, hI⟩ := hI
            obtain ⟨u151, hI⟩ := hI
            obtain ⟨u152, hI⟩ := hI
            obtain ⟨u153, hI⟩ := hI
            obtain ⟨u154, hI⟩ := hI
            obtain ⟨u155, hI⟩ := hI
            obtain ⟨u156, hI⟩ := hI
            obtain ⟨u157, hI⟩ := hI
            obtain ⟨u158, hI⟩ := hI
            obtain ⟨u159, hI⟩ := hI
            obtain ⟨u160, hI⟩ := hI
            obtain ⟨u161, hI⟩ := hI
            obtain ⟨u162, hI⟩ := hI
            obtain ⟨u163, hI⟩ := hI
            obtain ⟨u164, hI⟩ := hI
            obtain ⟨u165, hI⟩ := hI
            obtain ⟨u166, hI⟩ := hI
            obtain ⟨u167, hI⟩ := hI
            obtain ⟨u168, hI⟩ := hI
            obtain ⟨u169, hI⟩ := hI
            obtain ⟨u170, hI⟩ := hI
            obtain ⟨u171, hI⟩ := hI
            obtain ⟨u172, hI⟩ := hI
            obtain ⟨u173, hI⟩ := hI
            obtain ⟨u174, hI⟩ := hI
            obtain ⟨u175, hI⟩ := hI
            obtain ⟨u176, hI⟩ := hI
            obtain ⟨u177, hI⟩ := hI
            obtain ⟨u178, hI⟩ := hI
            obtain ⟨u179, hI⟩ := hI
            obtain ⟨u180, hI⟩ := hI
            obtain ⟨u181, hI⟩ := hI
            obtain ⟨u182, hI⟩ := hI
            obtain ⟨u183, hI⟩ := hI
            obtain ⟨u184, hI⟩ := hI
            obtain ⟨u185, hI⟩ := hI
            obtain ⟨u186, hI⟩ := hI
            obtain ⟨u187, hI⟩ := hI
            obtain ⟨u188, hI⟩ := hI
            obtain ⟨u189, hI⟩ := hI
            obtain ⟨u190, hI⟩ := hI
            obtain ⟨u191, hI⟩ := hI
            obtain ⟨u192, hI⟩ := hI
            obtain ⟨u193, hI⟩ := hI
            obtain ⟨u194, hI⟩ := hI
            obtain ⟨u195, hI⟩ := hI
            obtain ⟨u196, hI⟩ := hI
            obtain ⟨u197, hI⟩ := hI
            obtain ⟨u198, hI⟩ := hI
            obtain ⟨u199, hI⟩ := hI
            obtain ⟨u200, hI⟩ := hI
            obtain ⟨u201, hI⟩ := hI
            obtain ⟨u202, hI⟩ := hI
            obtain ⟨u203, hI⟩ := hI
            obtain ⟨u204, hI⟩ := hI
            obtain ⟨u205, hI⟩ := hI
            obtain ⟨u206, hI⟩ := hI
            obtain ⟨u207, hI⟩ := hI
            obtain ⟨u208, hI⟩ := hI
            obtain ⟨u209, hI⟩ := hI
            obtain ⟨u210, hI⟩ := hI
            obtain ⟨u211, hI⟩ := hI
            obtain ⟨u212, hI⟩ := hI
            obtain ⟨u213, hI⟩ := hI
            obtain ⟨u214, hI⟩ := hI
            obtain ⟨u215, hI⟩ := hI
            obtain ⟨u216, hI⟩ := hI
            obtain ⟨u217, hI⟩ := hI
            obtain ⟨u218, hI⟩ := hI
            obtain ⟨u219, hI⟩ := hI
            obtain ⟨u220, hI⟩ := hI
            obtain ⟨u221, hI⟩ := hI
            obtain ⟨u222, hI⟩ := hI
            obtain ⟨u223, hI⟩ := hI
            obtain ⟨u224, hI⟩ := hI
            obtain ⟨u225, hI⟩ := hI
            obtain ⟨u226, hI⟩ := hI
            obtain ⟨u227, hI⟩ := hI
            obtain ⟨u228, hI⟩ := hI
            obtain ⟨u229, hI⟩ := hI
            obtain ⟨u230, hI⟩ := hI
            obtain ⟨u231, hI⟩ := hI
            obtain ⟨u232, hI⟩ := hI
            obtain ⟨u233, hI⟩ := hI
            obtain ⟨u234, hI⟩ := hI
            obtain ⟨u235, hI⟩ := hI
            obtain ⟨u236, hI⟩ := hI
            obtain ⟨u237, hI⟩ := hI
            obtain ⟨u238, hI⟩ := hI
            obtain ⟨u239, hI⟩ := hI
            obtain ⟨u240, hI⟩ := hI
            obtain ⟨u241, hI⟩ := hI
            obtain ⟨u242, hI⟩ := hI
            obtain ⟨u243, hI⟩ := hI
            obtain ⟨u244, hI⟩ := hI
            obtain ⟨u245, hI⟩ := hI
            obtain ⟨u246, hI⟩ := hI
            obtain ⟨u247, hI⟩ := hI
            obtain ⟨u248, hI⟩ := hI
            obtain ⟨u249, hI⟩ := hI
            obtain ⟨u250, hI⟩ := hI
            obtain ⟨u251, hI⟩ := hI
            obtain ⟨u252, hI⟩ := hI
            obtain ⟨u253, hI⟩ := hI
            obtain ⟨hrel, rfl⟩ := hI
            obtain ⟨ii, kk, hii, rfl, ja, jn, jc, xs, rfl, HU2, HC2, HV2, HP2⟩ := hrel
            have hfi : ii = s.size := by simp [Mmu, intOf] at hmu; omega
            have hkk : kk = n := by rcases HC2.out.cases with ⟨_, h⟩ | ⟨h, _⟩ | ⟨h, _⟩ <;> omega
            have R2 := Lib.hid (fun ty o ho => OT.one HU2.out (Nat.le_refl _) #[.int .u8 39] 1 rfl (by intro u hu; simp at hu; subst hu; rfl) (by simp; omega) ty o ho)
            go_wp2_with (at_builtin; refine wpList_app rfl _ _ #[25, 25] rfl rfl rfl (R2.out _ _ (by simp)) ?_; rintro v' w' ⟨ja3, jn3, jc3, rfl, HU3⟩)
            go_ret
            rw [E.out]
            exact md_fin HU3.out (by omega) (by have h := HP2.out; rw [hkk] at h; exact h)
          · have eq : qch sg db bk true = 39 := qch_b h1 h2
            have E : Hid (Q = 39) := Lib.hid (HQ2.out.symm.trans eq)
            clear eq
            have R1 := Lib.hid (fun ty o ho => OT.one HST.out (Nat.le_refl _) #[.int .u8 39] 1 rfl (by intro u hu; simp at hu; subst hu; rfl) (by simp) ty o ho)
            go_wp2_with (at_builtin; refine wpList_app rfl _ _ #[25, 25] rfl rfl rfl (R1.out _ _ (by simp)) ?_; rintro v' w' ⟨ja2, jn2, jc2, rfl, HU⟩)
            rename_i K1 hK1
            refine mloop wr wr.heap.size s n Z 39 _ _ _ _ _ _ _ _ _ _ _ _ _ _ _ _ _ _ _ _ _ _ _ _ _ _ _ _ _ _ _ _ _ _ _ _ _ _ _ _ _ _ _ _ _ _ _ _ _ _ _ _ _ _ _ _ _ _ _ _ _ _ _ _ _ _ _ _ _ _ _ _ _ _ _ _ _ _ _ hs (Nat.le_refl _) ?_ _ _ _ _ _ _ _ _ _ _ _ _ _ _ _ _ _ _ _ _ _ _ _ _ _ _ _ _ _ _ _ _ _ _ _ _ _ _ _ _ _ _ _ _ _ _ _ _ _ _ _ _ _ _ _ _ _ _ _ _ _ _ _ _ _ _ _ _ _ _ _ _ _ _ _ _ _ _ _ _ _ _ _ _ _ _ _ _ _ _ _ _ _ _ _ _ _ _ _ _ _ _ _ _ _ _ _ _ _ _ _ _ _ _ _ _ _ _ _ _ _ _ _ _ _ _ _ _ _ _ _ _ _ _ _ _ _ _ _ _ _ _ _ _ _ _ _ _ _ _ _ _ _ _ _ _ _ _ _ _ _ _ _ _ _ _ _ _ _ _ _ _ _ _ _ _ _ _ _ _ (mrel_start HU.out HCO.out)
            intro a1 wz hI hmu
            refine hK1 _ _ ?_
            clear hK1
            unfold MJ at hI
            obtain ⟨u15, hI⟩ := hI
            obtain ⟨u16, hI⟩ := hI
            obtain ⟨u17, hI⟩ := hI
            obtain ⟨u18, hI⟩ := hI
            obtain ⟨u19, hI⟩ := hI
            obtain ⟨u20, hI⟩ := hI
            obtain ⟨u21, hI⟩ := hI
            obtain ⟨u82, hI⟩ := hI
            obtain ⟨u83, hI⟩ := hI
            obtain ⟨u84, hI⟩ := hI
            obtain ⟨u85, hI⟩ := hI
            obtain ⟨u86, hI⟩ := hI
            obtain ⟨u87, hI⟩ := hI
            obtain ⟨u88, hI⟩ := hI
            obtain ⟨u89, hI⟩ := hI
            obtain ⟨u90, hI⟩ := hI
            obtain ⟨u91, hI⟩ := hI
            obtain ⟨u92, hI⟩ := hI
            obtain ⟨u93, hI⟩ := hI
            obtain ⟨u94, hI⟩ := hI
            obtain ⟨u95, hI⟩ := hI
            obtain ⟨u96, hI⟩ := hI
            obtain ⟨u97, hI⟩ := hI
            obtain ⟨u98, hI⟩ := hI
            obtain ⟨u99, hI⟩ := hI
            obtain ⟨u100, hI⟩ := hI
            obtain ⟨u101, hI⟩ := hI
            obtain ⟨u102, hI⟩ := hI
            obtain ⟨u103, hI⟩ := hI
            obtain ⟨u104, hI⟩ := hI
            obtain ⟨u105, hI⟩ := hI
            obtain ⟨u106, hI⟩ := hI
            obtain ⟨u107, hI⟩ := hI
            obtain ⟨u108, hI⟩ := hI
            obtain ⟨u109, hI⟩ := hI
            obtain ⟨u110, hI⟩ := hI
            obtain ⟨u111, hI⟩ := hI
            obtain ⟨u112, hI⟩ := hI
            obtain ⟨u113, hI⟩ := hI
            obtain ⟨u114, hI⟩ := hI
            obtain ⟨u115, hI⟩ := hI
            obtain ⟨u116, hI⟩ := hI
            obtain ⟨u117, hI⟩ := hI
            obtain ⟨u118, hI⟩ := hI
            obtain ⟨u119, hI⟩ := hI
            obtain ⟨u120, hI⟩ := hI
            obtain ⟨u121, hI⟩ := hI
            obtain ⟨u122, hI⟩ := hI
            obtain ⟨u123, hI⟩ := hI
            obtain ⟨u124, hI⟩ := hI
            obtain ⟨u125, hI⟩ := hI
            obtain ⟨u126, hI⟩ := hI
            obtain ⟨u127, hI⟩ := hI
            obtain ⟨u128, hI⟩ := hI
            obtain ⟨u129, hI⟩ := hI
            obtain ⟨u130, hI⟩ := hI
            obtain ⟨u131, hI⟩ := hI
            obtain ⟨u132, hI⟩ := hI
            obtain ⟨u133, hI⟩ := hI
            obtain ⟨u134, hI⟩ := hI
            obtain ⟨u135, hI⟩ := hI
            obtain ⟨u136, hI⟩ := hI
            obtain ⟨u137, hI⟩ := hI
            obtain ⟨u138, hI⟩ := hI
            obtain ⟨u139, hI⟩ := hI
            obtain ⟨u140, hI⟩ := hI
            obtain ⟨u141, hI⟩ := hI
            obtain ⟨u142, hI⟩ := hI
            obtain ⟨u143, hI⟩ := hI
            obtain ⟨u144, hI⟩ := hI
            obtain ⟨u145, hI⟩ := hI
            obtain ⟨u146, hI⟩ := hI
            obtain ⟨u147, hI⟩ := hI
            obtain ⟨u148, hI⟩ := hI
            obtain ⟨u149, hI⟩ := hI
            obtain ⟨u150, hI⟩ := hI
            obtain ⟨u151, hI⟩ := hI
            obtain ⟨u152, hI⟩ := hI
            obtain ⟨u153, hI⟩ := hI
            obtain ⟨u154, hI⟩ := hI
            obtain ⟨u155, hI⟩ := hI
            obtain ⟨u156, hI⟩ := hI
            obtain ⟨u157, hI⟩ := hI
            obtain ⟨u158, hI⟩ := hI
            obtain ⟨u159, hI⟩ := hI
            obtain ⟨u160, hI⟩ := hI
            obtain ⟨u161, hI⟩ := hI
            obtain ⟨u162, hI⟩ := hI
            obtain ⟨u163, hI⟩ := hI
            obtain ⟨u164, hI⟩ := hI
            obtain ⟨u165, hI⟩ := hI
            obtain ⟨u166, hI⟩ := hI
            obtain ⟨u167, hI⟩ := hI
            obtain ⟨u168, hI⟩ := hI
            obtain ⟨u169, hI⟩ := hI
            obtain ⟨u170, hI⟩ := hI
            obtain ⟨u171, hI⟩ := hI
            obtain ⟨u172, hI⟩ := hI
            obtain ⟨u173, hI⟩ := hI
            obtain ⟨u174, hI⟩ := hI
            obtain ⟨u175, hI⟩ := hI
            obtain ⟨u176, hI⟩ := hI
            obtain ⟨u177, hI⟩ := hI
            obtain ⟨u178, hI⟩ := hI
            obtain ⟨u179, hI⟩ := hI
            obtain ⟨u180, hI⟩ := hI
            obtain ⟨u181, hI⟩ := hI
            obtain ⟨u182, hI⟩ := hI
            obtain ⟨u183, hI⟩ := hI
            obtain ⟨u184, hI⟩ := hI
            obtain ⟨u185, hI⟩ := hI
            obtain ⟨u186, hI⟩ := hI
            obtain ⟨u187, hI⟩ := hI
            obtain ⟨u188, hI⟩ := hI
            obtain ⟨u189, hI⟩ := hI
            obtain ⟨u190, hI⟩ := hI
            obtain ⟨u191, hI⟩ := hI
            obtain ⟨u192, hI⟩ := hI
            obtain ⟨u193, hI⟩ := hI
            obtain ⟨u194, hI⟩ := hI
            obtain ⟨u195, hI⟩ := hI
            obtain ⟨u196, hI⟩ := hI
            obtain ⟨u197, hI⟩ := hI
            obtain ⟨u198, hI⟩ := hI
            obtain ⟨u199, hI⟩ := hI
            obtain ⟨u200, hI⟩ := hI
            obtain ⟨u201, hI⟩ := hI
            obtain ⟨u202, hI⟩ := hI
            obtain ⟨u203, hI⟩ := hI
            obtain ⟨u204, hI⟩ := hI
            obtain ⟨u205, hI⟩ := hI
            obtain ⟨u206, hI⟩ := hI
            obtain ⟨u207, hI⟩ := hI
            obtain ⟨u208, hI⟩ := hI
            obtain ⟨u209, hI⟩ := hI
            obtain ⟨u210, hI⟩ := hI
            obtain ⟨u211, hI⟩ := hI
            obtain ⟨u212, hI⟩ := hI
            obtain ⟨u213, hI⟩ := hI
            obtain ⟨u214, hI⟩ := hI
            obtain ⟨u215, hI⟩ := hI
            obtain ⟨u216, hI⟩ := hI
            obtain ⟨u217, hI⟩ := hI
            obtain ⟨u218, hI⟩ := hI
            obtain ⟨u219, hI⟩ := hI
            obtain ⟨u220, hI⟩ := hI
            obtain ⟨u221, hI⟩ := hI
            obtain ⟨u222, hI⟩ := hI
            obtain ⟨u223, hI⟩ := hI
            obtain ⟨u224, hI⟩ := hI
            obtain ⟨u225, hI⟩ := hI
            obtain ⟨u226, hI⟩ := hI
            obtain ⟨u227, hI⟩ := hI
            obtain ⟨u228, hI⟩ := hI
            obtain ⟨u229, hI⟩ := hI
            obtain ⟨u230, hI⟩ := hI
            obtain ⟨u231, hI⟩ := hI
            obtain ⟨u232, hI⟩ := hI
            obtain ⟨u233, hI⟩ := hI
            obtain ⟨u234, hI⟩ := hI
            obtain ⟨u235, hI⟩ := hI
            obtain ⟨u236, hI⟩ := hI
            obtain ⟨u237, hI⟩ := hI
            obtain ⟨u238, hI⟩ := hI
            obtain ⟨u239, hI⟩ := hI
            obtain ⟨u240, hI⟩ := hI
            obtain ⟨u241, hI⟩ := hI
            obtain ⟨u242, hI⟩ := hI
            obtain ⟨u243, hI⟩ := hI
            obtain ⟨u244, hI⟩ := hI
            obtain ⟨u245, hI⟩ := hI
            obtain ⟨u246, hI⟩ := hI
            obtain ⟨u247, hI⟩ := hI
            obtain ⟨u248, hI⟩ := hI
            obtain ⟨u249, hI⟩ := hI
            obtain ⟨u250, hI⟩ := hI
            obtain ⟨u251, hI⟩ := hI
            obtain ⟨u252, hI⟩ := hI
            obtain ⟨u253, hI⟩ := hI
            obtain ⟨hrel, rfl⟩ := hI
            obtain ⟨ii, kk, hii, rfl, ja, jn, jc, xs, rfl, HU2, HC2, HV2, HP2⟩ := hrel
            have hfi : ii = s.size := by simp [Mmu, intOf] at hmu; omega
            have hkk : kk = n := by rcases HC2.out.cases with ⟨_, h⟩ | ⟨h, _⟩ | ⟨h, _⟩ <;> omega
            have R2 := Lib.hid (fun ty o ho => OT.one HU2.out (Nat.le_refl _) #[.int .u8 39] 1 rfl (by intro u hu; simp at hu; subst hu; rfl) (by simp; omega) ty o ho)
            go_wp2_with (at_builtin; refine wpList_app rfl _ _ #[25, 25] rfl rfl rfl (R2.out _ _ (by simp)) ?_; rintro v' w' ⟨ja3, jn3, jc3, rfl, HU3⟩)
            go_ret
            rw [E.out]
            exact md_fin HU3.out (by omega) (by have h := HP2.out; rw [hkk] at h; exact h)
      · by_cases h2 : bk < db
        · cases al
          · have eq : qch sg db bk false = 34 := by rw [qch_c h1 h2]; rfl
            have E : Hid (Q = 34) := Lib.hid (HQ2.out.symm.trans eq)
            clear eq
            have R1 := Lib.hid (fun ty o ho => OT.one HST.out (Nat.le_refl _) #[.int .u8 34] 1 rfl (by intro u hu; simp at hu; subst hu; rfl) (by simp) ty o ho)
            go_wp2_with (at_builtin; refine wpList_app rfl _ _ #[25, 25] rfl rfl rfl (R1.out _ _ (by simp)) ?_; rintro v' w' ⟨ja2, jn2, jc2, rfl, HU⟩)
            rename_i K1 hK1
            refine mloop wr wr.heap.size s n Z 34 _ _ _ _ _ _ _ _ _ _ _ _ _ _ _ _ _ _ _ _ _ _ _ _ _ _ _ _ _ _ _ _ _ _ _ _ _ _ _ _ _ _ _ _ _ _ _ _ _ _ _ _ _ _ _ _ _ _ _ _ _ _ _ _ _ _ _ _ _ _ _ _ _ _ _ _ _ _ _ hs (Nat.le_refl _) ?_ _ _ _ _ _ _ _ _ _ _ _ _ _ _ _ _ _ _ _ _ _ _ _ _ _ _ _ _ _ _ _ _ _ _ _ _ _ _ _ _ _ _ _ _ _ _ _ _ _ _ _ _ _ _ _ _ _ _ _ _ _ _ _ _ _ _ _ _ _ _ _ _ _ _ _ _ _ _ _ _ _ _ _ _ _ _ _ _ _ _ _ _ _ _ _ _ _ _ _ _ _ _ _ _ _ _ _ _ _ _ _ _ _ _ _ _ _ _ _ _ _ _ _ _ _ _ _ _ _ _ _ _ _ _ _ _ _ _ _ _ _ _ _ _ _ _ _ _ _ _ _ _ _ _ _ _ _ _ _ _ _ _ _ _ _ _ _ _ _ _ _ _ _ _ _ _ _ _ _ _ (mrel_start HU.out HCO.out)
            intro a1 wz hI hmu
            refine hK1 _ _ ?_
            clear hK1
            unfold MJ at hI
            obtain ⟨u15, hI⟩ := hI
            obtain ⟨u16, hI⟩ := hI
            obtain ⟨u17, hI⟩ := hI
            obtain ⟨u18, hI⟩ := hI
            obtain ⟨u19, hI⟩ := hI
            obtain ⟨u20, hI⟩ := hI
            obtain ⟨u21, hI⟩ := hI
            obtain ⟨u82, hI⟩ := hI
            obtain ⟨u83, hI⟩ := hI
            obtain ⟨u84, hI⟩ := hI
            obtain ⟨u85, hI⟩ := hI
            obtain ⟨u86, hI⟩ := hI
            obtain ⟨u87, hI⟩ := hI
            obtain ⟨u88, hI⟩ := hI
            obtain ⟨u89, hI⟩ := hI
            obtain ⟨u90, hI⟩ := hI
            obtain ⟨u91, hI⟩ := hI
            obtain ⟨u92, hI⟩ := hI
            obtain ⟨u93, hI⟩ := hI
            obtain ⟨u94, hI⟩ := hI
            obtain ⟨u95, hI⟩ := hI
            obtain ⟨u96, hI⟩ := hI
            obtain ⟨u97, hI⟩ := hI
            obtain ⟨u98, hI⟩ := hI
            obtain ⟨u99, hI⟩ := hI
            obtain ⟨u100, hI⟩ := hI
            obtain ⟨u101, hI⟩ := hI
            obtain ⟨u102, hI⟩ := hI
            obtain ⟨u103, hI⟩ := hI
            obtain ⟨u104, hI⟩ := hI
            obtain ⟨u105, hI⟩ := hI
            obtain ⟨u106, hI⟩ := hI
            obtain ⟨u107, hI⟩ := hI
            obtain ⟨u108, hI⟩ := hI
            obtain ⟨u109, hI⟩ := hI
            obtain ⟨u110, hI⟩ := hI
            obtain ⟨u111, hI⟩ := hI
            obtain ⟨u112, hI⟩ := hI
            obtain ⟨u113, hI⟩ := hI
            obtain ⟨u114, hI⟩ := hI
            obtain ⟨u115, hI⟩ := hI
            obtain ⟨u116, hI⟩ := hI
            obtain ⟨u117, hI⟩ := hI
            obtain ⟨u118, hI⟩ := hI
            obtain ⟨u119, hI⟩ := hI
            obtain ⟨u120, hI⟩ := hI
            obtain ⟨u121, hI⟩ := hI
            obtain ⟨u122, hI⟩ := hI
            obtain ⟨u123, hI⟩ := hI
            obtain ⟨u124, hI⟩ := hI
            obtain ⟨u125, hI⟩ := hI
            obtain ⟨u126, hI⟩ := hI
            obtain ⟨u127, hI⟩ := hI
            obtain ⟨u128, hI⟩ := hI
            obtain ⟨u129, hI⟩ := hI
            obtain ⟨u130, hI⟩ := hI
            obtain ⟨u131, hI⟩ := hI
            obtain ⟨u132, hI⟩ := hI
            obtain ⟨u133, hI⟩ := hI
            obtain ⟨u134, hI⟩ := hI
            obtain ⟨u135, hI⟩ := hI
            obtain ⟨u136, hI⟩ := hI
            obtain ⟨u137, hI⟩ := hI
            obtain ⟨u138, hI⟩ := hI
            obtain ⟨u139, hI⟩ := hI
            obtain ⟨u140, hI⟩ := hI
            obtain ⟨u141, hI⟩ := hI
            obtain ⟨u142, hI⟩ := hI
            obtain ⟨u143, hI⟩ := hI
            obtain ⟨u144, hI⟩ := hI
            obtain ⟨u145, hI⟩ := hI
            obtain ⟨u146, hI⟩ := hI
            obtain ⟨u147, hI⟩ := hI
            obtain ⟨u148, hI⟩ := hI
            obtain ⟨u149, hI⟩ := hI
            obtain ⟨u150, hI⟩ := hI
            obtain ⟨u151, hI⟩ := hI
            obtain ⟨u152, hI⟩ := hI
            obtain ⟨u153, hI⟩ := hI
            obtain ⟨u154, hI⟩ := hI
            obtain ⟨u155, hI⟩ := hI
            obtain ⟨u156, hI⟩ := hI
            obtain ⟨u157, hI⟩ := hI
            obtain ⟨u158, hI⟩ := hI
            obtain ⟨u159, hI⟩ := hI
            obtain ⟨u160, hI⟩ := hI
            obtain ⟨u161, hI⟩ := hI
            obtain ⟨u162, hI⟩ := hI
            obtain ⟨u163, hI⟩ := hI
            obtain ⟨u164, hI⟩ := hI
            obtain ⟨u165, hI⟩ := hI
            obtain ⟨u166, hI⟩ := hI
            obtain ⟨u167, hI⟩ := hI
            obtain ⟨u168, hI⟩ := hI
            obtain ⟨u169, hI⟩ := hI
            obtain ⟨u170, hI⟩ := hI
            obtain ⟨u171, hI⟩ := hI
            obtain ⟨u172, hI⟩ := hI
            obtain ⟨u173, hI⟩ := hI
            obtain ⟨u174, hI⟩ := hI
            obtain ⟨u175, hI⟩ := hI
            obtain ⟨u176, hI⟩ := hI
            obtain ⟨u177, hI⟩ := hI
            obtain ⟨u178, hI⟩ := hI
            obtain ⟨u179, hI⟩ := hI
            obtain ⟨u180, hI⟩ := hI
            obtain ⟨u181, hI⟩ := hI
            obtain ⟨u182, hI⟩ := hI
            obtain ⟨u183, hI⟩ := hI
            obtain ⟨u184, hI⟩ := hI
            obtain ⟨u185, hI⟩ := hI
            obtain ⟨u186, hI⟩ := hI
            obtain ⟨u187, hI⟩ := hI
            obtain ⟨u188, hI⟩ := hI
            obtain ⟨u189, hI⟩ := hI
            obtain ⟨u190, hI⟩ := hI
            obtain ⟨u191, hI⟩ := hI
            obtain ⟨u192, hI⟩ := hI
            obtain ⟨u193, hI⟩ := hI
            obtain ⟨u194, hI⟩ := hI
            obtain ⟨u195, hI⟩ := hI
            obtain ⟨u196, hI⟩ := hI
            obtain ⟨u197, hI⟩ := hI
            obtain ⟨u198, hI⟩ := hI
            obtain ⟨u199, hI⟩ := hI
            obtain ⟨u200, hI⟩ := hI
            obtain ⟨u201, hI⟩ := hI
            obtain ⟨u202, hI⟩ := hI
            obtain ⟨u203, hI⟩ := hI
            obtain ⟨u204, hI⟩ := hI
            obtain ⟨u205, hI⟩ := hI
            obtain ⟨u206, hI⟩ := hI
            obtain ⟨u207, hI⟩ := hI
            obtain ⟨u208, hI⟩ := hI
            obtain ⟨u209, hI⟩ := hI
            obtain ⟨u210, hI⟩ := hI
            obtain ⟨u211, hI⟩ := hI
            obtain ⟨u212, hI⟩ := hI
            obtain ⟨u213, hI⟩ := hI
            obtain ⟨u214, hI⟩ := hI
            obtain ⟨u215, hI⟩ := hI
            obtain ⟨u216, hI⟩ := hI
            obtain ⟨u217, hI⟩ := hI
            obtain ⟨u218, hI⟩ := hI
            obtain ⟨u219, hI⟩ := hI
            obtain ⟨u220, hI⟩ := hI
            obtain ⟨u221, hI⟩ := hI
            obtain ⟨u222, hI⟩ := hI
            obtain ⟨u223, hI⟩ := hI
            obtain ⟨u224, hI⟩ := hI
            obtain ⟨u225, hI⟩ := hI
            obtain ⟨u226, hI⟩ := hI
            obtain ⟨u227, hI⟩ := hI
            obtain ⟨u228, hI⟩ := hI
            obtain ⟨u229, hI⟩ := hI
            obtain ⟨u230, hI⟩ := hI
            obtain ⟨u231, hI⟩ := hI
            obtain ⟨u232, hI⟩ := hI
            obtain ⟨u233, hI⟩ := hI
            obtain ⟨u234, hI⟩ := hI
            obtain ⟨u235, hI⟩ := hI
            obtain ⟨u236, hI⟩ := hI
            obtain ⟨u237, hI⟩ := hI
            obtain ⟨u238, hI⟩ := hI
            obtain ⟨u239, hI⟩ := hI
            obtain ⟨u240, hI⟩ := hI
            obtain ⟨u241, hI⟩ := hI
            obtain ⟨u242, hI⟩ := hI
            obtain ⟨u243, hI⟩ := hI
            obtain ⟨u244, hI⟩ := hI
            obtain ⟨u245, hI⟩ := hI
            obtain ⟨u246, hI⟩ := hI
            obtain ⟨u247, hI⟩ := hI
            obtain ⟨u248, hI⟩ := hI
            obtain ⟨u249, hI⟩ := hI
            obtain ⟨u250, hI⟩ := hI
            obtain ⟨u251, hI⟩ := hI
            obtain ⟨u252, hI⟩ := hI
            obtain ⟨u253, hI⟩ := hI
            obtain ⟨hrel, rfl⟩ := hI
            obtain ⟨ii, kk, hii, rfl, ja, jn, jc, xs, rfl, HU2, HC2, HV2, HP2⟩ := hrel
            have hfi : ii = s.size := by simp [Mmu, intOf] at hmu; omega
            have hkk : kk = n := by rcases HC2.out.cases with ⟨_, h⟩ | ⟨h, _⟩ | ⟨h, _⟩ <;> omega
            have R2 := Lib.hid (fun ty o ho => OT.one HU2.out (Nat.le_refl _) #[.int .u8 34] 1 rfl (by intro u hu; simp at hu; subst hu; rfl) (by simp; omega) ty o ho)
            go_wp2_with (at_builtin; refine wpList_app rfl _ _ #[25, 25] rfl rfl rfl (R2.out _ _ (by simp)) ?_; rintro v' w' ⟨ja3, jn3, jc3, rfl, HU3⟩)
            go_ret
            rw [E.out]
            exact md_fin HU3.out (by omega) (by have h := HP2.out; rw [hkk] at h; exact h)
          · have eq : qch sg db bk true = 96 := by rw [qch_c h1 h2]; rfl
            have E : Hid (Q = 96) := Lib.hid (HQ2.out.symm.trans eq)
            clear eq
            have R1 := Lib.hid (fun ty o ho => OT.one HST.out (Nat.le_refl _) #[.int .u8 96] 1 rfl (by intro u hu; simp at hu; subst hu; rfl) (by simp) ty o ho)
            go_wp2_with (at_builtin; refine wpList_app rfl _ _ #[25, 25] rfl rfl rfl (R1.out _ _ (by simp)) ?_; rintro v' w' ⟨ja2, jn2, jc2, rfl, HU⟩)
            rename_i K1 hK1
            refine mloop wr wr.heap.size s n Z 96 _ _ _ _ _ _ _ _ _ _ _ _ _ _ _ _ _ _ _ _ _ _ _ _ _ _ _ _ _ _ _ _ _ _ _ _ _ _ _ _ _ _ _ _ _ _ _ _ _ _ _ _ _ _ _ _ _ _ _ _ _ _ _ _ _ _ _ _ _ _ _ _ _ _ _ _ _ _ _ hs (Nat.le_refl _) ?_ _ _ _ _ _ _ _ _ _ _ _ _ _ _ _ _ _ _ _ _ _ _ _ _ _ _ _ _ _ _ _ _ _ _ _ _ _ _ _ _ _ _ _ _ _ _ _ _ _ _ _ _ _ _ _ _ _ _ _ _ _ _ _ _ _ _ _ _ _ _ _ _ _ _ _ _ _ _ _ _ _ _ _ _ _ _ _ _ _ _ _ _ _ _ _ _ _ _ _ _ _ _ _ _ _ _ _ _ _ _ _ _ _ _ _ _ _ _ _ _ _ _ _ _ _ _ _ _ _ _ _ _ _ _ _ _ _ _ _ _ _ _ _ _ _ _ _ _ _ _ _ _ _ _ _ _ _ _ _ _ _ _ _ _ _ _ _ _ _ _ _ _ _ _ _ _ _ _ _ _ (mrel_start HU.out HCO.out)
            intro a1 wz hI hmu
            refine hK1 _ _ ?_
            clear hK1
            unfold MJ at hI
            obtain ⟨u15, hI⟩ := hI
            obtain ⟨u16, hI⟩ := hI
            obtain ⟨u17, hI⟩ := hI
            obtain ⟨u18, hI⟩ := hI
            obtain ⟨u19, hI⟩ := hI
            obtain ⟨u20, hI⟩ := hI
            obtain ⟨u21, hI⟩ := hI
            obtain ⟨u82, hI⟩ := hI
            obtain ⟨u83, hI⟩ := hI
            obtain ⟨u84, hI⟩ := hI
            obtain ⟨u85, hI⟩ := hI
            obtain ⟨u86, hI⟩ := hI
            obtain ⟨u87, hI⟩ := hI
            obtain ⟨u88, hI⟩ := hI
            obtain ⟨u89, hI⟩ := hI
            obtain ⟨u90, hI⟩ := hI
            obtain ⟨u91, hI⟩ := hI
            obtain ⟨u92, hI⟩ := hI
            obtain ⟨u93, hI⟩ := hI
            obtain ⟨u94, hI⟩ := hI
            obtain ⟨u95, hI⟩ := hI
            obtain ⟨u96, hI⟩ := hI
            obtain ⟨u97, hI⟩ := hI
            obtain ⟨u98, hI⟩ := hI
            obtain ⟨u99, hI⟩ := hI
            obtain ⟨u100, hI⟩ := hI
            obtain ⟨u101, hI⟩ := hI
            obtain ⟨u102, hI⟩ := hI
            obtain ⟨u103, hI⟩ := hI
            obtain ⟨u104, hI⟩ := hI
            obtain ⟨u105, hI⟩ := hI
            obtain ⟨u106, hI⟩ := hI
            obtain ⟨u107, hI⟩ := hI
            obtain ⟨u108, hI⟩ := hI
            obtain ⟨u109, hI⟩ := hI
            obtain ⟨u110, hI⟩ := hI
            obtain ⟨u111, hI⟩ := hI
            obtain ⟨u112, hI⟩ := hI
            obtain ⟨u113, hI⟩ := hI
            obtain ⟨u114, hI⟩ := hI
            obtain ⟨u115, hI⟩ := hI
            obtain ⟨u116, hI⟩ := hI
            obtain ⟨u117, hI⟩ := hI
            obtain ⟨u118, hI⟩ := hI
            obtain ⟨u119, hI⟩ := hI
            obtain ⟨u120, hI⟩ := hI
            obtain ⟨u121, hI⟩ := hI
            obtain ⟨u122, hI⟩ := hI
            obtain ⟨u123, hI⟩ := hI
            obtain ⟨u124, hI⟩ := hI
            obtain ⟨u125, hI⟩ := hI
            obtain ⟨u126, hI⟩ := hI
            obtain ⟨u127, hI⟩ := hI
            obtain ⟨u128, hI⟩ := hI
            obtain ⟨u129, hI⟩ := hI
            obtain ⟨u130, hI⟩ := hI
            obtain ⟨u131, hI⟩ := hI
            obtain ⟨u132, hI⟩ := hI
            obtain ⟨u133, hI⟩ := hI
            obtain ⟨u134, hI⟩ := hI
            obtain ⟨u135, hI⟩ := hI
            obtain ⟨u136, hI⟩ := hI
            obtain ⟨u137, hI⟩ := hI
            obtain ⟨u138, hI⟩ := hI
            obtain ⟨u139, hI⟩ := hI
            obtain ⟨u140, hI⟩ := hI
            obtain ⟨u141, hI⟩ := hI
            obtain ⟨u142, hI⟩ := hI
            obtain ⟨u143, hI⟩ := hI
            obtain ⟨u144, hI⟩ := hI
            obtain ⟨u145, hI⟩ := hI
            obtain ⟨u146, hI⟩ := hI
            obtain ⟨u147, hI⟩ := hI
            obtain ⟨u148, hI⟩ := hI
            obtain ⟨u149, hI⟩ := hI
            obtain ⟨u150, hI⟩ := hI
            obtain ⟨u151, hI⟩ := hI
            obtain ⟨u152, hI⟩ := hI
            obtain ⟨u153, hI⟩ := hI
            obtain ⟨u154, hI⟩ := hI
            obtain ⟨u155, hI⟩ := hI
            obtain ⟨u156, hI⟩ := hI
            obtain ⟨u157, hI⟩ := hI
            obtain ⟨u158, hI⟩ := hI
            obtain ⟨u159, hI⟩ := hI
            obtain ⟨u160, hI⟩ := hI
            obtain ⟨u161, hI⟩ := hI
            obtain ⟨u162, hI⟩ := hI
            obtain ⟨u163, hI⟩ := hI
            obtain ⟨u164, hI⟩ := hI
            obtain ⟨u165, hI⟩ := hI
            obtain ⟨u166, hI⟩ := hI
            obtain ⟨u167, hI⟩ := hI
            obtain ⟨u168, hI⟩ := hI
            obtain ⟨u169, hI⟩ := hI
            obtain ⟨u170, hI⟩ := hI
            obtain ⟨u171, hI⟩ := hI
            obtain ⟨u172, hI⟩ := hI
            obtain ⟨u173, hI⟩ := hI
            obtain ⟨u174, hI⟩ := hI
            obtain ⟨u175, hI⟩ := hI
            obtain ⟨u176, hI⟩ := hI
            obtain ⟨u177, hI⟩ := hI
            obtain ⟨u178, hI⟩ := hI
            obtain ⟨u179, hI⟩ := hI
            obtain ⟨u180, hI⟩ := hI
            obtain ⟨u181, hI⟩ := hI
            obtain ⟨u182, hI⟩ := hI
            obtain ⟨u183, hI⟩ := hI
            obtain ⟨u184, hI⟩ := hI
            obtain ⟨u185, hI⟩ := hI
            obtain ⟨u186, hI⟩ := hI
            obtain ⟨u187, hI⟩ := hI
            obtain ⟨u188, hI⟩ := hI
            obtain ⟨u189, hI⟩ := hI
            obtain ⟨u190, hI⟩ := hI
            obtain ⟨u191, hI⟩ := hI
            obtain ⟨u192, hI⟩ := hI
            obtain ⟨u193, hI⟩ := hI
            obtain ⟨u194, hI⟩ := hI
            obtain ⟨u195, hI⟩ := hI
            obtain ⟨u196, hI⟩ := hI
            obtain ⟨u197, hI⟩ := hI
            obtain ⟨u198, hI⟩ := hI
            obtain ⟨u199, hI⟩ := hI
            obtain ⟨u200, hI⟩ := hI
            obtain ⟨u201, hI⟩ := hI
            obtain ⟨u202, hI⟩ := hI
            obtain ⟨u203, hI⟩ := hI
            obtain ⟨u204, hI⟩ := hI
            obtain ⟨u205, hI⟩ := hI
            obtain ⟨u206, hI⟩ := hI
            obtain ⟨u207, hI⟩ := hI
            obtain ⟨u208, hI⟩ := hI
            obtain ⟨u209, hI⟩ := hI
            obtain ⟨u210, hI⟩ := hI
            obtain ⟨u211, hI⟩ := hI
            obtain ⟨u212, hI⟩ := hI
            obtain ⟨u213, hI⟩ := hI
            obtain ⟨u214, hI⟩ := hI
            obtain ⟨u215, hI⟩ := hI
            obtain ⟨u216, hI⟩ := hI
            obtain ⟨u217, hI⟩ := hI
            obtain ⟨u218, hI⟩ := hI
            obtain ⟨u219, hI⟩ := hI
            obtain ⟨u220, hI⟩ := hI
            obtain ⟨u221, hI⟩ := hI
            obtain ⟨u222, hI⟩ := hI
            obtain ⟨u223, hI⟩ := hI
            obtain ⟨u224, hI⟩ := hI
            obtain ⟨u225, hI⟩ := hI
            obtain ⟨u226, hI⟩ := hI
            obtain ⟨u227, hI⟩ := hI
            obtain ⟨u228, hI⟩ := hI
            obtain ⟨u229, hI⟩ := hI
            obtain ⟨u230, hI⟩ := hI
            obtain ⟨u231, hI⟩ := hI
            obtain ⟨u232, hI⟩ := hI
            obtain ⟨u233, hI⟩ := hI
            obtain ⟨u234, hI⟩ := hI
            obtain ⟨u235, hI⟩ := hI
            obtain ⟨u236, hI⟩ := hI
            obtain ⟨u237, hI⟩ := hI
            obtain ⟨u238, hI⟩ := hI
            obtain ⟨u239, hI⟩ := hI
            obtain ⟨u240, hI⟩ := hI
            obtain ⟨u241, hI⟩ := hI
            obtain ⟨u242, hI⟩ := hI
            obtain ⟨u243, hI⟩ := hI
            obtain ⟨u244, hI⟩ := hI
            obtain ⟨u245, hI⟩ := hI
            obtain ⟨u246, hI⟩ := hI
            obtain ⟨u247, hI⟩ := hI
            obtain ⟨u248, hI⟩ := hI
            obtain ⟨u249, hI⟩ := hI
            obtain ⟨u250, hI⟩ := hI
            obtain ⟨u251, hI⟩ := hI
            obtain ⟨u252, hI⟩ := hI
            obtain ⟨u253, hI⟩ := hI
            obtain ⟨hrel, rfl⟩ := hI
            obtain ⟨ii, kk, hii, rfl, ja, jn, jc, xs, rfl, HU2, HC2, HV2, HP2⟩ := hrel
            have hfi : ii = s.size := by simp [Mmu, intOf] at hmu; omega
            have hkk : kk = n := by rcases HC2.out.cases with ⟨_, h⟩ | ⟨h, _⟩ | ⟨h, _⟩ <;> omega
            have R2 := Lib.hid (fun ty o ho => OT.one HU2.out (Nat.le_refl _) #[.int .u8 96] 1 rfl (by intro u hu; simp at hu; subst hu; rfl) (by simp; omega) ty o ho)
            go_wp2_with (at_builtin; refine wpList_app rfl _ _ #[25, 25] rfl rfl rfl (R2.out _ _ (by simp)) ?_; rintro v' w' ⟨ja3, jn3, jc3, rfl, HU3⟩)
            go_ret
            rw [E.out]
            exact md_fin HU3.out (by omega) (by have h := HP2.out; rw [hkk] at h; exact h)
        · cases al
          · have eq : qch sg db bk false = 34 := qch_d h1 h2
            have E : Hid (Q = 34) := Lib.hid (HQ2.out.symm.trans eq)
            clear eq
            have R1 := Lib.hid (fun ty o ho => OT.one HST.out (Nat.le_refl _) #[.int .u8 34] 1 rfl (by intro u hu; simp at hu; subst hu; rfl) (by simp) ty o ho)
            go_wp2_with (at_builtin; refine wpList_app rfl _ _ #[25, 25] rfl rfl rfl (R1.out _ _ (by simp)) ?_; rintro v' w' ⟨ja2, jn2, jc2, rfl, HU⟩)
            rename_i K1 hK1
            refine mloop wr wr.heap.size s n Z 34 _ _ _ _ _ _ _ _ _ _ _ _ _ _ _ _ _ _ _ _ _ _ _ _ _ _ _ _ _ _ _ _ _ _ _ _ _ _ _ _ _ _ _ _ _ _ _ _ _ _ _ _ _ _ _ _ _ _ _ _ _ _ _ _ _ _ _ _ _ _ _ _ _ _ _ _ _ _ _ hs (Nat.le_refl _) ?_ _ _ _ _ _ _ _ _ _ _ _ _ _ _ _ _ _ _ _ _ _ _ _ _ _ _ _ _ _ _ _ _ _ _ _ _ _ _ _ _ _ _ _ _ _ _ _ _ _ _ _ _ _ _ _ _ _ _ _ _ _ _ _ _ _ _ _ _ _ _ _ _ _ _ _ _ _ _ _ _ _ _ _ _ _ _ _ _ _ _ _ _ _ _ _ _ _ _ _ _ _ _ _ _ _ _ _ _ _ _ _ _ _ _ _ _ _ _ _ _ _ _ _ _ _ _ _ _ _ _ _ _ _ _ _ _ _ _ _ _ _ _ _ _ _ _ _ _ _ _ _ _ _ _ _ _ _ _ _ _ _ _ _ _ _ _ _ _ _ _ _ _ _ _ _ _ _ _ _ _ (mrel_start HU.out HCO.out)
            intro a1 wz hI hmu
            refine hK1 _ _ ?_
            clear hK1
            unfold MJ at hI
            obtain ⟨u15, hI⟩ := hI
            obtain ⟨u16, hI⟩ := hI
            obtain ⟨u17, hI⟩ := hI
            obtain ⟨u18, hI⟩ := hI
            obtain ⟨u19, hI⟩ := hI
            obtain ⟨u20, hI⟩ := hI
            obtain ⟨u21, hI⟩ := hI
            obtain ⟨u82, hI⟩ := hI
            obtain ⟨u83, hI⟩ := hI
            obtain ⟨u84, hI⟩ := hI
            obtain ⟨u85, hI⟩ := hI
            obtain ⟨u86, hI⟩ := hI
            obtain ⟨u87, hI⟩ := hI
            obtain ⟨u88, hI⟩ := hI
            obtain ⟨u89, hI⟩ := hI
            obtain ⟨u90, hI⟩ := hI
            obtain ⟨u91, hI⟩ := hI
            obtain ⟨u92, hI⟩ := hI
            obtain ⟨u93, hI⟩ := hI
            obtain ⟨u94, hI⟩ := hI
            obtain ⟨u95, hI⟩ := hI
            obtain ⟨u96, hI⟩ := hI
            obtain ⟨u97, hI⟩ := hI
            obtain ⟨u98, hI⟩ := hI
            obtain ⟨u99, hI⟩ := hI
            obtain ⟨u100, hI⟩ := hI
            obtain ⟨u101, hI⟩ := hI
            obtain ⟨u102, hI⟩ := hI
            obtain ⟨u103, hI⟩ := hI
            obtain ⟨u104, hI⟩ := hI
            obtain ⟨u105, hI⟩ := hI
            obtain ⟨u106, hI⟩ := hI
            obtain ⟨u107, hI⟩ := hI
            obtain ⟨u108, hI⟩ := hI
            obtain ⟨u109, hI⟩ := hI
            obtain ⟨u110, hI⟩ := hI
            obtain ⟨u111, hI⟩ := hI
            obtain ⟨u112, hI⟩ := hI
            obtain ⟨u113, hI⟩ := hI
            obtain ⟨u114, hI⟩ := hI
            obtain ⟨u115, hI⟩ := hI
            obtain ⟨u116, hI⟩ := hI
            obtain ⟨u117, hI⟩ := hI
            obtain ⟨u118, hI⟩ := hI
            obtain ⟨u119, hI⟩ := hI
            obtain ⟨u120, hI⟩ := hI
            obtain ⟨u121, hI⟩ := hI
            obtain ⟨u122, hI⟩ := hI
            obtain ⟨u123, hI⟩ := hI
            obtain ⟨u124, hI⟩ := hI
            obtain ⟨u125, hI⟩ := hI
            obtain ⟨u126, hI⟩ := hI
            obtain ⟨u127, hI⟩ := hI
            obtain ⟨u128, hI⟩ := hI
            obtain ⟨u129, hI⟩ := hI
            obtain ⟨u130, hI⟩ := hI
            obtain ⟨u131, hI⟩ := hI
            obtain ⟨u132, hI⟩ := hI
            obtain ⟨u133, hI⟩ := hI
            obtain ⟨u134, hI⟩ := hI
            obtain ⟨u135, hI⟩ := hI
            obtain ⟨u136, hI⟩ := hI
            obtain ⟨u137, hI⟩ := hI
            obtain ⟨u138, hI⟩ := hI
            obtain ⟨u139, hI⟩ := hI
            obtain ⟨u140, hI⟩ := hI
            obtain ⟨u141, hI⟩ := hI
            obtain ⟨u142, hI⟩ := hI
            obtain ⟨u143, hI⟩ := hI
            obtain ⟨u144, hI⟩ := hI
            obtain ⟨u145, hI⟩ := hI
            obtain ⟨u146, hI⟩ := hI
            obtain ⟨u147, hI⟩ := hI
            obtain ⟨u148, hI⟩ := hI
            obtain ⟨u149, hI⟩ := hI
            obtain ⟨u150, hI⟩ := hI
            obtain ⟨u151, hI⟩ := hI
            obtain ⟨u152, hI⟩ := hI
            obtain ⟨u153, hI⟩ := hI
            obtain ⟨u154, hI⟩ := hI
            obtain ⟨u155, hI⟩ := hI
            obtain ⟨u156, hI⟩ := hI
            obtain ⟨u157, hI⟩ := hI
            obtain ⟨u158, hI⟩ := hI
            obtain ⟨u159, hI⟩ := hI
            obtain ⟨u160, hI⟩ := hI
            obtain ⟨u161, hI⟩ := hI
            obtain ⟨u162, hI⟩ := hI
            obtain ⟨u163, hI⟩ := hI
            obtain ⟨u164, hI⟩ := hI
            obtain ⟨u165, hI⟩ := hI
            obtain ⟨u166, hI⟩ := hI
            obtain ⟨u167, hI⟩ := hI
            obtain ⟨u168, hI⟩ := hI
            obtain ⟨u169, hI⟩ := hI
            obtain ⟨u170, hI⟩ := hI
            obtain ⟨u171, hI⟩ := hI
            obtain ⟨u172, hI⟩ := hI
            obtain ⟨u173, hI⟩ := hI
            obtain ⟨u174, hI⟩ := hI
            obtain ⟨u175, hI⟩ := hI
            obtain ⟨u176, hI⟩ := hI
            obtain ⟨u177, hI⟩ := hI
            obtain ⟨u178, hI⟩ := hI
            obtain ⟨u179, hI⟩ := hI
            obtain ⟨u180, hI⟩ := hI
            obtain ⟨u181, hI⟩ := hI
            obtain ⟨u182, hI⟩ := hI
            obtain ⟨u183, hI⟩ := hI
            obtain ⟨u184, hI⟩ := hI
            obtain ⟨u185, hI⟩ := hI
            obtain ⟨u186, hI⟩ := hI
            obtain ⟨u187, hI⟩ := hI
            obtain ⟨u188, hI⟩ := hI
            obtain ⟨u189, hI⟩ := hI
            obtain ⟨u190, hI⟩ := hI
            obtain ⟨u191, hI⟩ := hI
            obtain ⟨u192, hI⟩ := hI
            obtain ⟨u193, hI⟩ := hI
            obtain ⟨u194, hI⟩ := hI
            obtain ⟨u195, hI⟩ := hI
            obtain ⟨u196, hI⟩ := hI
            obtain ⟨u197, hI⟩ := hI
            obtain ⟨u198, hI⟩ := hI
            obtain ⟨u199, hI⟩ := hI
            obtain ⟨u200, hI⟩ := hI
            obtain ⟨u201, hI⟩ := hI
            obtain ⟨u202, hI⟩ := hI
            obtain ⟨u203, hI⟩ := hI
            obtain ⟨u204, hI⟩ := hI
            obtain ⟨u205, hI⟩ := hI
            obtain ⟨u206, hI⟩ := hI
            obtain ⟨u207, hI⟩ := hI
            obtain ⟨u208, hI⟩ := hI
            obtain ⟨u209, hI⟩ := hI
            obtain ⟨u210, hI⟩ := hI
            obtain ⟨u211, hI⟩ := hI
            obtain ⟨u212, hI⟩ := hI
            obtain ⟨u213, hI⟩ := hI
            obtain ⟨u214, hI⟩ := hI
            obtain ⟨u215, hI⟩ := hI
            obtain ⟨u216, hI⟩ := hI
            obtain ⟨u217, hI⟩ := hI
            obtain ⟨u218, hI⟩ := hI
            obtain ⟨u219, hI⟩ := hI
            obtain ⟨u220, hI⟩ := hI
            obtain ⟨u221, hI⟩ := hI
            obtain ⟨u222, hI⟩ := hI
            obtain ⟨u223, hI⟩ := hI
            obtain ⟨u224, hI⟩ := hI
            obtain ⟨u225, hI⟩ := hI
            obtain ⟨u226, hI⟩ := hI
            obtain ⟨u227, hI⟩ := hI
            obtain ⟨u228, hI⟩ := hI
            obtain ⟨u229, hI⟩ := hI
            obtain ⟨u230, hI⟩ := hI
            obtain ⟨u231, hI⟩ := hI
            obtain ⟨u232, hI⟩ := hI
            obtain ⟨u233, hI⟩ := hI
            obtain ⟨u234, hI⟩ := hI
            obtain ⟨u235, hI⟩ := hI
            obtain ⟨u236, hI⟩ := hI
            obtain ⟨u237, hI⟩ := hI
            obtain ⟨u238, hI⟩ := hI
            obtain ⟨u239, hI⟩ := hI
            obtain ⟨u240, hI⟩ := hI
            obtain ⟨u241, hI⟩ := hI
            obtain ⟨u242, hI⟩ := hI
            obtain ⟨u243, hI⟩ := hI
            obtain ⟨u244, hI⟩ := hI
            obtain ⟨u245, hI⟩ := hI
            obtain ⟨u246, hI⟩ := hI
            obtain ⟨u247, hI⟩ := hI
            obtain ⟨u248, hI⟩ := hI
            obtain ⟨u249, hI⟩ := hI
            obtain ⟨u250, hI⟩ := hI
            obtain ⟨u251, hI⟩ := hI
            obtain ⟨u252, hI⟩ := hI
            obtain ⟨u253, hI⟩ := hI
            obtain ⟨hrel, rfl⟩ := hI
            obtain ⟨ii, kk, hii, rfl, ja, jn, jc, xs, rfl, HU2, HC2, HV2, HP2⟩ := hrel
            have hfi : ii = s.size := by simp [Mmu, intOf] at hmu; omega
            have hkk : kk = n := by rcases HC2.out.cases with ⟨_, h⟩ | ⟨h, _⟩ | ⟨h, _⟩ <;> omega
            have R2 := Lib.hid (fun ty o ho => OT.one HU2.out (Nat.le_refl _) #[.int .u8 34] 1 rfl (by intro u hu; simp at hu; subst hu; rfl) (by simp; omega) ty o ho)
            go_wp2_with (at_builtin; refine wpList_app rfl _ _ #[25, 25] rfl rfl rfl (R2.out _ _ (by simp)) ?_; rintro v' w' ⟨ja3, jn3, jc3, rfl, HU3⟩)
            go_ret
            rw [E.out]
            exact md_fin HU3.out (by omega) (by have h := HP2.out; rw [hkk] at h; exact h)
          · have eq : qch sg db bk true = 34 := qch_d h1 h2
            have E : Hid (Q = 34) := Lib.hid (HQ2.out.symm.trans eq)
            clear eq
            have R1 := Lib.hid (fun ty o ho => OT.one HST.out (Nat.le_refl _) #[.int .u8 34] 1 rfl (by intro u hu; simp at hu; subst hu; rfl) (by simp) ty o ho)
            go_wp2_with (at_builtin; refine wpList_app rfl _ _ #[25, 25] rfl rfl rfl (R1.out _ _ (by simp)) ?_; rintro v' w' ⟨ja2, jn2, jc2, rfl, HU⟩)
            rename_i K1 hK1
            refine mloop wr wr.heap.size s n Z 34 _ _ _ _ _ _ _ _ _ _ _ _ _ _ _ _ _ _ _ _ _ _ _ _ _ _ _ _ _ _ _ _ _ _ _ _ _ _ _ _ _ _ _ _ _ _ _ _ _ _ _ _ _ _ _ _ _ _ _ _ _ _ _ _ _ _ _ _ _ _ _ _ _ _ _ _ _ _ _ hs (Nat.le_refl _) ?_ _ _ _ _ _ _ _ _ _ _ _ _ _ _ _ _ _ _ _ _ _ _ _ _ _ _ _ _ _ _ _ _ _ _ _ _ _ _ _ _ _ _ _ _ _ _ _ _ _ _ _ _ _ _ _ _ _ _ _ _ _ _ _ _ _ _ _ _ _ _ _ _ _ _ _ _ _ _ _ _ _ _ _ _ _ _ _ _ _ _ _ _ _ _ _ _ _ _ _ _ _ _ _ _ _ _ _ _ _ _ _ _ _ _ _ _ _ _ _ _ _ _ _ _ _ _ _ _ _ _ _ _ _ _ _ _ _ _ _ _ _ _ _ _ _ _ _ _ _ _ _ _ _ _ _ _ _ _ _ _ _ _ _ _ _ _ _ _ _ _ _ _ _ _ _ _ _ _ _ _ (mrel_start HU.out HCO.out)
            intro a1 wz hI hmu
            refine hK1 _ _ ?_
            clear hK1
            unfold MJ at hI
            obtain ⟨u15, hI⟩ := hI
            obtain ⟨u16, hI⟩ := hI
            obtain ⟨u17, hI⟩ := hI
            obtain ⟨u18, hI⟩ := hI
            obtain ⟨u19, hI⟩ := hI
            obtain ⟨u20, hI⟩ := hI
            obtain ⟨u21, hI⟩ := hI
            obtain ⟨u82, hI⟩ := hI
            obtain ⟨u83, hI⟩ := hI
            obtain ⟨u84, hI⟩ := hI
            obtain ⟨u85, hI⟩ := hI
            obtain ⟨u86, hI⟩ := hI
            obtain ⟨u87, hI⟩ := hI
            obtain ⟨u88, hI⟩ := hI
            obtain ⟨u89, hI⟩ := hI
            obtain ⟨u90, hI⟩ := hI
            obtain ⟨u91, hI⟩ := hI
            obtain ⟨u92, hI⟩ := hI
            obtain ⟨u93, hI⟩ := hI
            obtain ⟨u94, hI⟩ := hI
            obtain ⟨u95, hI⟩ := hI
            obtain ⟨u96, hI⟩ := hI
            obtain ⟨u97, hI⟩ := hI
            obtain ⟨u98, hI⟩ := hI
            obtain ⟨u99, hI⟩ := hI
            obtain ⟨u100, hI⟩ := hI
            obtain ⟨u101, hI⟩ := hI
            obtain ⟨u102, hI⟩ := hI
            obtain ⟨u103, hI⟩ := hI
            obtain ⟨u104, hI⟩ := hI
            obtain ⟨u105, hI⟩ := hI
            obtain ⟨u106, hI⟩ := hI
            obtain ⟨u107, hI⟩ := hI
            obtain ⟨u108, hI⟩ := hI
            obtain ⟨u109, hI⟩ := hI
            obtain ⟨u110, hI⟩ := hI
            obtain ⟨u111, hI⟩ := hI
            obtain ⟨u112, hI⟩ := hI
            obtain ⟨u113, hI⟩ := hI
            obtain ⟨u114, hI⟩ := hI
            obtain ⟨u115, hI⟩ := hI
            obtain ⟨u116, hI⟩ := hI
            obtain ⟨u117, hI⟩ := hI
            obtain ⟨u118, hI⟩ := hI
            obtain ⟨u119, hI⟩ := hI
            obtain ⟨u120, hI⟩ := hI
            obtain ⟨u121, hI⟩ := hI
            obtain ⟨u122, hI⟩ := hI
            obtain ⟨u123, hI⟩ := hI
            obtain ⟨u124, hI⟩ := hI
            obtain ⟨u125, hI⟩ := hI
            obtain ⟨u126, hI⟩ := hI
            obtain ⟨u127, hI⟩ := hI
            obtain ⟨u128, hI⟩ := hI
            obtain ⟨u129, hI⟩ := hI
            obtain ⟨u130, hI⟩ := hI
            obtain ⟨u131, hI⟩ := hI
            obtain ⟨u132, hI⟩ := hI
            obtain ⟨u133, hI⟩ := hI
            obtain ⟨u134, hI⟩ := hI
            obtain ⟨u135, hI⟩ := hI
            obtain ⟨u136, hI⟩ := hI
            obtain ⟨u137, hI⟩ := hI
            obtain ⟨u138, hI⟩ := hI
            obtain ⟨u139, hI⟩ := hI
            obtain ⟨u140, hI⟩ := hI
            obtain ⟨u141, hI⟩ := hI
            obtain ⟨u142, hI⟩ := hI
            obtain ⟨u143, hI⟩ := hI
            obtain ⟨u144, hI⟩ := hI
            obtain ⟨u145, hI⟩ := hI
            obtain ⟨u146, hI⟩ := hI
            obtain ⟨u147, hI⟩ := hI
            obtain ⟨u148, hI⟩ := hI
            obtain ⟨u149, hI⟩ := hI
            obtain ⟨u150, hI⟩ := hI
            obtain ⟨u151, hI⟩ := hI
            obtain ⟨u152, hI⟩ := hI
            obtain ⟨u153, hI⟩ := hI
            obtain ⟨u154, hI⟩ := hI
            obtain ⟨u155, hI⟩ := hI
            obtain ⟨u156, hI⟩ := hI
            obtain ⟨u157, hI⟩ := hI
            obtain ⟨u158, hI⟩ := hI
            obtain ⟨u159, hI⟩ := hI
            obtain ⟨u160, hI⟩ := hI
            obtain ⟨u161, hI⟩ := hI
            obtain ⟨u162, hI⟩ := hI
            obtain ⟨u163, hI⟩ := hI
            obtain ⟨u164, hI⟩ := hI
            obtain ⟨u165, hI⟩ := hI
            obtain ⟨u166, hI⟩ := hI
            obtain ⟨u167, hI⟩ := hI
            obtain ⟨u168, hI⟩ := hI
            obtain ⟨u169, hI⟩ := hI
            obtain ⟨u170, hI⟩ := hI
            obtain ⟨u171, hI⟩ := hI
            obtain ⟨u172, hI⟩ := hI
            obtain ⟨u173, hI⟩ := hI
            obtain ⟨u174, hI⟩ := hI
            obtain ⟨u175, hI⟩ := hI
            obtain ⟨u176, hI⟩ := hI
            obtain ⟨u177, hI⟩ := hI
            obtain ⟨u178, hI⟩ := hI
            obtain ⟨u179, hI⟩ := hI
            obtain ⟨u180, hI⟩ := hI
            obtain ⟨u181, hI⟩ := hI
            obtain ⟨u182, hI⟩ := hI
            obtain ⟨u183, hI⟩ := hI
            obtain ⟨u184, hI⟩ := hI
            obtain ⟨u185, hI⟩ := hI
            obtain ⟨u186, hI⟩ := hI
            obtain ⟨u187, hI⟩ := hI
            obtain ⟨u188, hI⟩ := hI
            obtain ⟨u189, hI⟩ := hI
            obtain ⟨u190, hI⟩ := hI
            obtain ⟨u191, hI⟩ := hI
            obtain ⟨u192, hI⟩ := hI
            obtain ⟨u193, hI⟩ := hI
            obtain ⟨u194, hI⟩ := hI
            obtain ⟨u195, hI⟩ := hI
            obtain ⟨u196, hI⟩ := hI
            obtain ⟨u197, hI⟩ := hI
            obtain ⟨u198, hI⟩ := hI
            obtain ⟨u199, hI⟩ := hI
            obtain ⟨u200, hI⟩ := hI
            obtain ⟨u201, hI⟩ := hI
            obtain ⟨u202, hI⟩ := hI
            obtain ⟨u203, hI⟩ := hI
            obtain ⟨u204, hI⟩ := hI
            obtain ⟨u205, hI⟩ := hI
            obtain ⟨u206, hI⟩ := hI
            obtain ⟨u207, hI⟩ := hI
            obtain ⟨u208, hI⟩ := hI
            obtain ⟨u209, hI⟩ := hI
            obtain ⟨u210, hI⟩ := hI
            obtain ⟨u211, hI⟩ := hI
            obtain ⟨u212, hI⟩ := hI
            obtain ⟨u213, hI⟩ := hI
            obtain ⟨u214, hI⟩ := hI
            obtain ⟨u215, hI⟩ := hI
            obtain ⟨u216, hI⟩ := hI
            obtain ⟨u217, hI⟩ := hI
            obtain ⟨u218, hI⟩ := hI
            obtain ⟨u219, hI⟩ := hI
            obtain ⟨u220, hI⟩ := hI
            obtain ⟨u221, hI⟩ := hI
            obtain ⟨u222, hI⟩ := hI
            obtain ⟨u223, hI⟩ := hI
            obtain ⟨u224, hI⟩ := hI
            obtain ⟨u225, hI⟩ := hI
            obtain ⟨u226, hI⟩ := hI
            obtain ⟨u227, hI⟩ := hI
            obtain ⟨u228, hI⟩ := hI
            obtain ⟨u229, hI⟩ := hI
            obtain ⟨u230, hI⟩ := hI
            obtain ⟨u231, hI⟩ := hI
            obtain ⟨u232, hI⟩ := hI
            obtain ⟨u233, hI⟩ := hI
            obtain ⟨u234, hI⟩ := hI
            obtain ⟨u235, hI⟩ := hI
            obtain ⟨u236, hI⟩ := hI
            obtain ⟨u237, hI⟩ := hI
            obtain ⟨u238, hI⟩ := hI
            obtain ⟨u239, hI⟩ := hI
            obtain ⟨u240, hI⟩ := hI
            obtain ⟨u241, hI⟩ := hI
            obtain ⟨u242, hI⟩ := hI
            obtain ⟨u243, hI⟩ := hI
            obtain ⟨u244, hI⟩ := hI
            obtain ⟨u245, hI⟩ := hI
            obtain ⟨u246, hI⟩ := hI
            obtain ⟨u247, hI⟩ := hI
            obtain ⟨u248, hI⟩ := hI
            obtain ⟨u249, hI⟩ := hI
            obtain ⟨u250, hI⟩ := hI
            obtain ⟨u251, hI⟩ := hI
            obtain ⟨u252, hI⟩ := hI
            obtain ⟨u253, hI⟩ := hI
            obtain ⟨hrel, rfl⟩ := hI
            obtain ⟨ii, kk, hii, rfl, ja, jn, jc, xs, rfl, HU2, HC2, HV2, HP2⟩ := hrel
            have hfi : ii = s.size := by simp [Mmu, intOf] at hmu; omega
            have hkk : kk = n := by rcases HC2.out.cases with ⟨_, h⟩ | ⟨h, _⟩ | ⟨h, _⟩ <;> omega
            have R2 := Lib.hid (fun ty o ho => OT.one HU2.out (Nat.le_refl _) #[.int .u8 34] 1 rfl (by intro u hu; simp at hu; subst hu; rfl) (by simp; omega) ty o ho)
            go_wp2_with (at_builtin; refine wpList_app rfl _ _ #[25, 25] rfl rfl rfl (R2.out _ _ (by simp)) ?_; rintro v' w' ⟨ja3, jn3, jc3, rfl, HU3⟩)
            go_ret
            rw [E.out]
            exact md_fin HU3.out (by omega) (by have h := HP2.out; rw [hkk] at h; exact h)
end Go.Proofs.YtfhafelkkophgaaFmt.Aux
