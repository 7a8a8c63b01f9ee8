/- Contracts of functions that the law of this seat reaches, and plain facts; no condition. -/
import Derived.Test.YtpnhldglcnmhdaaFmtProg
import Derived.WalkKit
import Derived.ProofKit
import Derived.OpenShut
import Derived.ShutString
import Derived.Test.YtpnhldglcnmhdaaFmtAid
import Derived.Test.YtpnhldglcnmhdaaFmtFl
import Derived.Test.YtpnhldglcnmhdaaFmtA
import Derived.Test.YtpnhldglcnmhdaaFmtStr
import Derived.Test.YtpnhldglcnmhdaaFmtPb
import Derived.Test.YtpnhldglcnmhdaaFmtQd
import Derived.ArgAppend
import Derived.WalkSmall
import Derived.Lib.OthersKept
import Derived.Laws.RangeAny
import Derived.Laws.OwnMore
import Derived.WalkSpells
import Derived.LoopTactic
import Derived.IntWalk
import Derived.Outline
import Derived.Deep.QuietTactic
import Derived.BigQuiet
import Derived.Deep.RegionHeld3
import Derived.Deep.RegionLaw
import Derived.StillTailTactics
import Derived.OwnWalk
import Derived.RegionTactic
import Derived.Laws.BitsAllLaws
import Derived.Laws.BitsLemmas
import Derived.Lib.ConvBytes
import Derived.Lib.RuneBytes
namespace Go.Proofs.YtpnhldglcnmhdaaFmt.Aux
open Go.ChangeShapes Go.WideShapes Go.ChangeAt Go.RowKit
open Go.ChangeMaps (open_string shut_string)
set_option linter.unusedVariables false
set_option linter.unusedSimpArgs false
open Fl Str Pb Qd PlainAid Aux
def In10 (w : World) (b lo hi : Int) (e : Ending) (w' : World) : Prop := w' = w ∧ ∃ v, e = .returned (.bool v) ∧ Hid (v = true → lo ≤ b ∧ b ≤ hi)
theorem in10 (b lo hi : Int) (w : World) : Calls Tryf.prog 10 #[.int .u8 b, .int .u8 lo, .int .u8 hi] w (In10 w b lo hi) := by
  by_cases h1 : lo ≤ b
  · by_cases h2 : b ≤ hi
    · go_enter Tryf.func10, Tryf.ntmps10
      go_wp2_with fail
      go_ret
      exact ⟨rfl, _, rfl, Lib.hid fun _ => ⟨h1, h2⟩⟩
    · go_enter Tryf.func10, Tryf.ntmps10
      go_wp2_with fail
      go_ret
      exact ⟨rfl, _, rfl, Lib.hid fun e => by cases e⟩
  · go_enter Tryf.func10, Tryf.ntmps10
    go_wp2_with fail
    go_ret
    exact ⟨rfl, _, rfl, Lib.hid fun e => by cases e⟩
def Dz (w : World) (s : ByteArray) (i : Nat) (e : Ending) (w' : World) : Prop := (∃ q, w' = w.drewN q) ∧ ∃ (r : Int) (m : Nat), e = .returned (.tuple #[.int .i32 r, .int .i64 (m : Int)]) ∧ 1 ≤ m ∧ m ≤ 4 ∧ i + m ≤ s.size ∧ Hid (Dv s i r m ∨ (r = 65533 ∧ m = 1))
theorem dz_t {w : World} {s : ByteArray} {i : Nat} {r : Int} {m q : Nat} (h : Dv s i r m) : Dz w s i (.returned (.tuple #[.int .i32 r, .int .i64 (m : Int)])) (w.drewN q) := by
  have := dv_lt h
  exact ⟨⟨q, rfl⟩, r, m, rfl, this.2.1, this.2.2.1, this.2.2.2, Lib.hid (.inl h)⟩
theorem dz_f {w : World} {s : ByteArray} {i : Nat} {q : Nat} (hi : i < s.size) : Dz w s i (.returned (.tuple #[.int .i32 65533, .int .i64 1])) (w.drewN q) := ⟨⟨q, rfl⟩, 65533, 1, rfl, by omega, by omega, by omega, Lib.hid (.inr ⟨rfl, rfl⟩)⟩

set_option maxRecDepth 100000 in
set_option maxHeartbeats 8000000 in
theorem dza (s : ByteArray) (i : Nat) (hs : s.size ≤ 16777216) (hi : i < s.size) (b0 : Int) (e0 : bt s i = b0) (c0 : 0 ≤ b0) (c1 : b0 ≤ 255) (h0 : b0 < 128) (w : World) : Calls Tryf.prog 5 #[.string s, .int .i64 (i : Int)] w (Dz w s i) := by
  have g0 : ∀ h' : i < s.size, ((s[i]'h').toNat : Int) = b0 := fun h' => (get_bt s i h').trans e0
  have HE0 := Lib.hid e0
  clear e0
  go_enter Tryf.func5, Tryf.ntmps5
  go_wp2_with fail
  exact bodyPost_ret (v := .tuple #[.int .i32 (b0), .int .i64 1]) (by simp [results, Tryf.results5, go_sem]) rfl (dz_t (q := 0) (m := 1) (by have t0 := HE0.out; unfold Dv; omega))
set_option maxRecDepth 100000 in
set_option maxHeartbeats 8000000 in
theorem dzb (s : ByteArray) (i : Nat) (hs : s.size ≤ 16777216) (hi : i < s.size) (b0 : Int) (e0 : bt s i = b0) (c0 : 0 ≤ b0) (c1 : b0 ≤ 255) (h0 : 128 ≤ b0) (h1 : b0 < 194) (w : World) : Calls Tryf.prog 5 #[.string s, .int .i64 (i : Int)] w (Dz w s i) := by
  have g0 : ∀ h' : i < s.size, ((s[i]'h').toNat : Int) = b0 := fun h' => (get_bt s i h').trans e0
  have HE0 := Lib.hid e0
  clear e0
  go_enter Tryf.func5, Tryf.ntmps5
  go_wp2_with fail
  exact bodyPost_ret (v := .tuple #[.int .i32 65533, .int .i64 1]) (by simp [results, Tryf.results5, go_sem]) rfl (dz_f (q := 0) hi)
set_option maxRecDepth 100000 in
set_option maxHeartbeats 8000000 in
theorem dzc (s : ByteArray) (i : Nat) (hs : s.size ≤ 16777216) (hi : i < s.size) (b0 : Int) (e0 : bt s i = b0) (c0 : 0 ≤ b0) (c1 : b0 ≤ 255) (h1 : 244 < b0) (w : World) : Calls Tryf.prog 5 #[.string s, .int .i64 (i : Int)] w (Dz w s i) := by
  have g0 : ∀ h' : i < s.size, ((s[i]'h').toNat : Int) = b0 := fun h' => (get_bt s i h').trans e0
  have HE0 := Lib.hid e0
  clear e0
  go_enter Tryf.func5, Tryf.ntmps5
  go_wp2_with fail
  exact bodyPost_ret (v := .tuple #[.int .i32 65533, .int .i64 1]) (by simp [results, Tryf.results5, go_sem]) rfl (dz_f (q := 0) hi)
set_option maxRecDepth 100000 in
set_option maxHeartbeats 8000000 in
theorem dz2 (s : ByteArray) (i : Nat) (hs : s.size ≤ 16777216) (hi : i < s.size) (b0 : Int) (e0 : bt s i = b0) (c0 : 0 ≤ b0) (c1 : b0 ≤ 255) (h0 : 194 ≤ b0) (h1 : b0 ≤ 223) (w : World) : Calls Tryf.prog 5 #[.string s, .int .i64 (i : Int)] w (Dz w s i) := by
  have g0 : ∀ h' : i < s.size, ((s[i]'h').toNat : Int) = b0 := fun h' => (get_bt s i h').trans e0
  have HE0 := Lib.hid e0
  clear e0
  by_cases hl : i + 1 < s.size
  · have hn : (2 : Int) ≤ (s.size : Int) - (i : Int) := by omega
    have k1 : i + 1 < s.size := by omega
    have ei1 : ((i : Int) + 1).toNat = i + 1 := by omega
    have iw1 : IntKind.i64.wrap ((i : Int) + 1) = (i : Int) + 1 := IntWalk.i64_in _ (by omega)
    have hlt1 : (i : Int) + 1 < (s.size : Int) := by omega
    obtain ⟨b1, e1, x1, y1⟩ : ∃ b : Int, bt s (i + 1) = b ∧ 0 ≤ b ∧ b ≤ 255 := ⟨_, rfl, (bt_rng s _).1, (bt_rng s _).2⟩
    have g1 : ∀ h' : i + 1 < s.size, ((s[i + 1]'h').toNat : Int) = b1 := fun h' => (get_bt s (i + 1) h').trans e1
    have HE1 := Lib.hid e1
    clear e1
    have n1 : bits .and .u8 b1 63 = b1 % 64 := u8_and63 _ (by omega) (by omega)
    have m0 : bits .and .u8 b0 31 = b0 % 32 := u8_and31 _ (by omega) (by omega)
    have s0 : IntKind.i32.wrap ((b0 % 32) * 64) = (b0 % 32) * 64 := IntWalk.i32_in _ (by omega)
    have o1 : bits .or .i32 ((b0 % 32) * 64) (b1 % 64) = (b0 % 32) * 64 + b1 % 64 := i32_or6 _ _ (by omega) (by omega) (by omega) (by omega) (by omega)
    go_enter Tryf.func5, Tryf.ntmps5
    have I1 := Lib.hid (fun w => in10 b1 128 191 w)
    go_wp2_with (first | (have I0 := I1; clear I1; go_at_call 10; refine (I0.out _).mono ?_; clear I0; rintro e w ⟨rfl, v1, rfl, HV1⟩))
    all_goals first
      | (refine bodyPost_ret (v := .tuple #[.int .i32 65533, .int .i64 1]) ?_ rfl (dz_f (q := 0) hi); simp [results, Tryf.results5, go_sem]; done)
      | skip
    have u1 := HV1.out (by simp_all)
    have t0 := HE0.out
    have t1 := HE1.out
    refine bodyPost_ret (v := .tuple #[.int .i32 ((b0 % 32) * 64 + b1 % 64), .int .i64 2]) ?_ rfl (dz_t (m := 2) (q := 0) (by unfold Dv; omega))
    simp [results, Tryf.results5, go_sem]
  · have hn : ¬ (2 : Int) ≤ (s.size : Int) - (i : Int) := by omega
    go_enter Tryf.func5, Tryf.ntmps5
    go_wp2_with fail
    exact bodyPost_ret (v := .tuple #[.int .i32 65533, .int .i64 1]) (by simp [results, Tryf.results5, go_sem]) rfl (dz_f (q := 0) hi)
set_option maxRecDepth 100000 in
set_option maxHeartbeats 8000000 in
theorem dz3a (s : ByteArray) (i : Nat) (hs : s.size ≤ 16777216) (hi : i < s.size) (b0 : Int) (e0 : bt s i = b0) (c0 : 0 ≤ b0) (c1 : b0 ≤ 255) (h0 : 224 ≤ b0) (h1 : b0 ≤ 239) (h2 : (b0 == 224) = true) (h3 : (b0 == 237) = false) (w : World) : Calls Tryf.prog 5 #[.string s, .int .i64 (i : Int)] w (Dz w s i) := by
  have g0 : ∀ h' : i < s.size, ((s[i]'h').toNat : Int) = b0 := fun h' => (get_bt s i h').trans e0
  have HE0 := Lib.hid e0
  clear e0
  by_cases hl : i + 2 < s.size
  · have hn : (3 : Int) ≤ (s.size : Int) - (i : Int) := by omega
    have k1 : i + 1 < s.size := by omega
    have ei1 : ((i : Int) + 1).toNat = i + 1 := by omega
    have iw1 : IntKind.i64.wrap ((i : Int) + 1) = (i : Int) + 1 := IntWalk.i64_in _ (by omega)
    have hlt1 : (i : Int) + 1 < (s.size : Int) := by omega
    obtain ⟨b1, e1, x1, y1⟩ : ∃ b : Int, bt s (i + 1) = b ∧ 0 ≤ b ∧ b ≤ 255 := ⟨_, rfl, (bt_rng s _).1, (bt_rng s _).2⟩
    have g1 : ∀ h' : i + 1 < s.size, ((s[i + 1]'h').toNat : Int) = b1 := fun h' => (get_bt s (i + 1) h').trans e1
    have HE1 := Lib.hid e1
    clear e1
    have n1 : bits .and .u8 b1 63 = b1 % 64 := u8_and63 _ (by omega) (by omega)
    have k2 : i + 2 < s.size := by omega
    have ei2 : ((i : Int) + 2).toNat = i + 2 := by omega
    have iw2 : IntKind.i64.wrap ((i : Int) + 2) = (i : Int) + 2 := IntWalk.i64_in _ (by omega)
    have hlt2 : (i : Int) + 2 < (s.size : Int) := by omega
    obtain ⟨b2, e2, x2, y2⟩ : ∃ b : Int, bt s (i + 2) = b ∧ 0 ≤ b ∧ b ≤ 255 := ⟨_, rfl, (bt_rng s _).1, (bt_rng s _).2⟩
    have g2 : ∀ h' : i + 2 < s.size, ((s[i + 2]'h').toNat : Int) = b2 := fun h' => (get_bt s (i + 2) h').trans e2
    have HE2 := Lib.hid e2
    clear e2
    have n2 : bits .and .u8 b2 63 = b2 % 64 := u8_and63 _ (by omega) (by omega)
    have m0 : bits .and .u8 b0 15 = b0 % 16 := u8_and15 _ (by omega) (by omega)
    have s0 : IntKind.i32.wrap ((b0 % 16) * 4096) = (b0 % 16) * 4096 := IntWalk.i32_in _ (by omega)
    have s1 : IntKind.i32.wrap ((b1 % 64) * 64) = (b1 % 64) * 64 := IntWalk.i32_in _ (by omega)
    have o1 : bits .or .i32 ((b0 % 16) * 4096) ((b1 % 64) * 64) = (b0 % 16) * 4096 + (b1 % 64) * 64 := i32_or12 _ _ (by omega) (by omega) (by omega) (by omega) (by omega)
    have o2 : bits .or .i32 ((b0 % 16) * 4096 + (b1 % 64) * 64) (b2 % 64) = (b0 % 16) * 4096 + (b1 % 64) * 64 + b2 % 64 := i32_or6 _ _ (by omega) (by omega) (by omega) (by omega) (by omega)
    go_enter Tryf.func5, Tryf.ntmps5
    have I1 := Lib.hid (fun w => in10 b1 160 191 w)
    have I2 := Lib.hid (fun w => in10 b2 128 191 w)
    go_wp2_with (first | (have I0 := I1; clear I1; go_at_call 10; refine (I0.out _).mono ?_; clear I0; rintro e w ⟨rfl, v1, rfl, HV1⟩) | (have I0 := I2; clear I2; go_at_call 10; refine (I0.out _).mono ?_; clear I0; rintro e w ⟨rfl, v2, rfl, HV2⟩))
    all_goals first
      | (refine bodyPost_ret (v := .tuple #[.int .i32 65533, .int .i64 1]) ?_ rfl (dz_f (q := 0) hi); simp [results, Tryf.results5, go_sem]; done)
      | skip
    go_quiet (fail)
    go_wp2_with fail
    have u1 := HV1.out (by simp_all)
    have u2 := HV2.out (by simp_all)
    have t0 := HE0.out
    have t1 := HE1.out
    have t2 := HE2.out
    have z2 := h2
    have z3 := h3
    simp only [beq_eq_false_iff_ne, ne_eq, beq_iff_eq] at z2 z3
    refine bodyPost_ret (v := .tuple #[.int .i32 ((b0 % 16) * 4096 + (b1 % 64) * 64 + b2 % 64), .int .i64 3]) ?_ rfl (dz_t (m := 3) (by unfold Dv; omega))
    simp [results, Tryf.results5, go_sem]
  · have hn : ¬ (3 : Int) ≤ (s.size : Int) - (i : Int) := by omega
    go_enter Tryf.func5, Tryf.ntmps5
    go_wp2_with fail
    exact bodyPost_ret (v := .tuple #[.int .i32 65533, .int .i64 1]) (by simp [results, Tryf.results5, go_sem]) rfl (dz_f (q := 0) hi)
set_option maxRecDepth 100000 in
set_option maxHeartbeats 8000000 in
theorem dz3b (s : ByteArray) (i : Nat) (hs : s.size ≤ 16777216) (hi : i < s.size) (b0 : Int) (e0 : bt s i = b0) (c0 : 0 ≤ b0) (c1 : b0 ≤ 255) (h0 : 224 ≤ b0) (h1 : b0 ≤ 239) (h2 : (b0 == 224) = false) (h3 : (b0 == 237) = true) (w : World) : Calls Tryf.prog 5 #[.string s, .int .i64 (i : Int)] w (Dz w s i) := by
  have g0 : ∀ h' : i < s.size, ((s[i]'h').toNat : Int) = b0 := fun h' => (get_bt s i h').trans e0
  have HE0 := Lib.hid e0
  clear e0
  by_cases hl : i + 2 < s.size
  · have hn : (3 : Int) ≤ (s.size : Int) - (i : Int) := by omega
    have k1 : i + 1 < s.size := by omega
    have ei1 : ((i : Int) + 1).toNat = i + 1 := by omega
    have iw1 : IntKind.i64.wrap ((i : Int) + 1) = (i : Int) + 1 := IntWalk.i64_in _ (by omega)
    have hlt1 : (i : Int) + 1 < (s.size : Int) := by omega
    obtain ⟨b1, e1, x1, y1⟩ : ∃ b : Int, bt s (i + 1) = b ∧ 0 ≤ b ∧ b ≤ 255 := ⟨_, rfl, (bt_rng s _).1, (bt_rng s _).2⟩
    have g1 : ∀ h' : i + 1 < s.size, ((s[i + 1]'h').toNat : Int) = b1 := fun h' => (get_bt s (i + 1) h').trans e1
    have HE1 := Lib.hid e1
    clear e1
    have n1 : bits .and .u8 b1 63 = b1 % 64 := u8_and63 _ (by omega) (by omega)
    have k2 : i + 2 < s.size := by omega
    have ei2 : ((i : Int) + 2).toNat = i + 2 := by omega
    have iw2 : IntKind.i64.wrap ((i : Int) + 2) = (i : Int) + 2 := IntWalk.i64_in _ (by omega)
    have hlt2 : (i : Int) + 2 < (s.size : Int) := by omega
    obtain ⟨b2, e2, x2, y2⟩ : ∃ b : Int, bt s (i + 2) = b ∧ 0 ≤ b ∧ b ≤ 255 := ⟨_, rfl, (bt_rng s _).1, (bt_rng s _).2⟩
    have g2 : ∀ h' : i + 2 < s.size, ((s[i + 2]'h').toNat : Int) = b2 := fun h' => (get_bt s (i + 2) h').trans e2
    have HE2 := Lib.hid e2
    clear e2
    have n2 : bits .and .u8 b2 63 = b2 % 64 := u8_and63 _ (by omega) (by omega)
    have m0 : bits .and .u8 b0 15 = b0 % 16 := u8_and15 _ (by omega) (by omega)
    have s0 : IntKind.i32.wrap ((b0 % 16) * 4096) = (b0 % 16) * 4096 := IntWalk.i32_in _ (by omega)
    have s1 : IntKind.i32.wrap ((b1 % 64) * 64) = (b1 % 64) * 64 := IntWalk.i32_in _ (by omega)
    have o1 : bits .or .i32 ((b0 % 16) * 4096) ((b1 % 64) * 64) = (b0 % 16) * 4096 + (b1 % 64) * 64 := i32_or12 _ _ (by omega) (by omega) (by omega) (by omega) (by omega)
    have o2 : bits .or .i32 ((b0 % 16) * 4096 + (b1 % 64) * 64) (b2 % 64) = (b0 % 16) * 4096 + (b1 % 64) * 64 + b2 % 64 := i32_or6 _ _ (by omega) (by omega) (by omega) (by omega) (by omega)
    go_enter Tryf.func5, Tryf.ntmps5
    have I1 := Lib.hid (fun w => in10 b1 128 159 w)
    have I2 := Lib.hid (fun w => in10 b2 128 191 w)
    go_wp2_with (first | (have I0 := I1; clear I1; go_at_call 10; refine (I0.out _).mono ?_; clear I0; rintro e w ⟨rfl, v1, rfl, HV1⟩) | (have I0 := I2; clear I2; go_at_call 10; refine (I0.out _).mono ?_; clear I0; rintro e w ⟨rfl, v2, rfl, HV2⟩))
    all_goals first
      | (refine bodyPost_ret (v := .tuple #[.int .i32 65533, .int .i64 1]) ?_ rfl (dz_f (q := 0) hi); simp [results, Tryf.results5, go_sem]; done)
      | skip
    go_quiet (fail)
    go_wp2_with fail
    have u1 := HV1.out (by simp_all)
    have u2 := HV2.out (by simp_all)
    have t0 := HE0.out
    have t1 := HE1.out
    have t2 := HE2.out
    have z2 := h2
    have z3 := h3
    simp only [beq_eq_false_iff_ne, ne_eq, beq_iff_eq] at z2 z3
    refine bodyPost_ret (v := .tuple #[.int .i32 ((b0 % 16) * 4096 + (b1 % 64) * 64 + b2 % 64), .int .i64 3]) ?_ rfl (dz_t (m := 3) (by unfold Dv; omega))
    simp [results, Tryf.results5, go_sem]
  · have hn : ¬ (3 : Int) ≤ (s.size : Int) - (i : Int) := by omega
    go_enter Tryf.func5, Tryf.ntmps5
    go_wp2_with fail
    exact bodyPost_ret (v := .tuple #[.int .i32 65533, .int .i64 1]) (by simp [results, Tryf.results5, go_sem]) rfl (dz_f (q := 0) hi)
set_option maxRecDepth 100000 in
set_option maxHeartbeats 8000000 in
theorem dz3c (s : ByteArray) (i : Nat) (hs : s.size ≤ 16777216) (hi : i < s.size) (b0 : Int) (e0 : bt s i = b0) (c0 : 0 ≤ b0) (c1 : b0 ≤ 255) (h0 : 224 ≤ b0) (h1 : b0 ≤ 239) (h2 : (b0 == 224) = false) (h3 : (b0 == 237) = false) (w : World) : Calls Tryf.prog 5 #[.string s, .int .i64 (i : Int)] w (Dz w s i) := by
  have g0 : ∀ h' : i < s.size, ((s[i]'h').toNat : Int) = b0 := fun h' => (get_bt s i h').trans e0
  have HE0 := Lib.hid e0
  clear e0
  by_cases hl : i + 2 < s.size
  · have hn : (3 : Int) ≤ (s.size : Int) - (i : Int) := by omega
    have k1 : i + 1 < s.size := by omega
    have ei1 : ((i : Int) + 1).toNat = i + 1 := by omega
    have iw1 : IntKind.i64.wrap ((i : Int) + 1) = (i : Int) + 1 := IntWalk.i64_in _ (by omega)
    have hlt1 : (i : Int) + 1 < (s.size : Int) := by omega
    obtain ⟨b1, e1, x1, y1⟩ : ∃ b : Int, bt s (i + 1) = b ∧ 0 ≤ b ∧ b ≤ 255 := ⟨_, rfl, (bt_rng s _).1, (bt_rng s _).2⟩
    have g1 : ∀ h' : i + 1 < s.size, ((s[i + 1]'h').toNat : Int) = b1 := fun h' => (get_bt s (i + 1) h').trans e1
    have HE1 := Lib.hid e1
    clear e1
    have n1 : bits .and .u8 b1 63 = b1 % 64 := u8_and63 _ (by omega) (by omega)
    have k2 : i + 2 < s.size := by omega
    have ei2 : ((i : Int) + 2).toNat = i + 2 := by omega
    have iw2 : IntKind.i64.wrap ((i : Int) + 2) = (i : Int) + 2 := IntWalk.i64_in _ (by omega)
    have hlt2 : (i : Int) + 2 < (s.size : Int) := by omega
    obtain ⟨b2, e2, x2, y2⟩ : ∃ b : Int, bt s (i + 2) = b ∧ 0 ≤ b ∧ b ≤ 255 := ⟨_, rfl, (bt_rng s _).1, (bt_rng s _).2⟩
    have g2 : ∀ h' : i + 2 < s.size, ((s[i + 2]'h').toNat : Int) = b2 := fun h' => (get_bt s (i + 2) h').trans e2
    have HE2 := Lib.hid e2
    clear e2
    have n2 : bits .and .u8 b2 63 = b2 % 64 := u8_and63 _ (by omega) (by omega)
    have m0 : bits .and .u8 b0 15 = b0 % 16 := u8_and15 _ (by omega) (by omega)
    have s0 : IntKind.i32.wrap ((b0 % 16) * 4096) = (b0 % 16) * 4096 := IntWalk.i32_in _ (by omega)
    have s1 : IntKind.i32.wrap ((b1 % 64) * 64) = (b1 % 64) * 64 := IntWalk.i32_in _ (by omega)
    have o1 : bits .or .i32 ((b0 % 16) * 4096) ((b1 % 64) * 64) = (b0 % 16) * 4096 + (b1 % 64) * 64 := i32_or12 _ _ (by omega) (by omega) (by omega) (by omega) (by omega)
    have o2 : bits .or .i32 ((b0 % 16) * 4096 + (b1 % 64) * 64) (b2 % 64) = (b0 % 16) * 4096 + (b1 % 64) * 64 + b2 % 64 := i32_or6 _ _ (by omega) (by omega) (by omega) (by omega) (by omega)
    go_enter Tryf.func5, Tryf.ntmps5
    have I1 := Lib.hid (fun w => in10 b1 128 191 w)
    have I2 := Lib.hid (fun w => in10 b2 128 191 w)
    go_wp2_with (first | (have I0 := I1; clear I1; go_at_call 10; refine (I0.out _).mono ?_; clear I0; rintro e w ⟨rfl, v1, rfl, HV1⟩) | (have I0 := I2; clear I2; go_at_call 10; refine (I0.out _).mono ?_; clear I0; rintro e w ⟨rfl, v2, rfl, HV2⟩))
    all_goals first
      | (refine bodyPost_ret (v := .tuple #[.int .i32 65533, .int .i64 1]) ?_ rfl (dz_f (q := 0) hi); simp [results, Tryf.results5, go_sem]; done)
      | skip
    go_quiet (fail)
    go_wp2_with fail
    have u1 := HV1.out (by simp_all)
    have u2 := HV2.out (by simp_all)
    have t0 := HE0.out
    have t1 := HE1.out
    have t2 := HE2.out
    have z2 := h2
    have z3 := h3
    simp only [beq_eq_false_iff_ne, ne_eq, beq_iff_eq] at z2 z3
    refine bodyPost_ret (v := .tuple #[.int .i32 ((b0 % 16) * 4096 + (b1 % 64) * 64 + b2 % 64), .int .i64 3]) ?_ rfl (dz_t (m := 3) (by unfold Dv; omega))
    simp [results, Tryf.results5, go_sem]
  · have hn : ¬ (3 : Int) ≤ (s.size : Int) - (i : Int) := by omega
    go_enter Tryf.func5, Tryf.ntmps5
    go_wp2_with fail
    exact bodyPost_ret (v := .tuple #[.int .i32 65533, .int .i64 1]) (by simp [results, Tryf.results5, go_sem]) rfl (dz_f (q := 0) hi)
set_option maxRecDepth 100000 in
set_option maxHeartbeats 8000000 in
theorem dz4a (s : ByteArray) (i : Nat) (hs : s.size ≤ 16777216) (hi : i < s.size) (b0 : Int) (e0 : bt s i = b0) (c0 : 0 ≤ b0) (c1 : b0 ≤ 255) (h0 : 240 ≤ b0) (h1 : b0 ≤ 244) (h2 : (b0 == 240) = true) (h3 : (b0 == 244) = false) (w : World) : Calls Tryf.prog 5 #[.string s, .int .i64 (i : Int)] w (Dz w s i) := by
  have g0 : ∀ h' : i < s.size, ((s[i]'h').toNat : Int) = b0 := fun h' => (get_bt s i h').trans e0
  have HE0 := Lib.hid e0
  clear e0
  by_cases hl : i + 3 < s.size
  · have hn : (4 : Int) ≤ (s.size : Int) - (i : Int) := by omega
    have k1 : i + 1 < s.size := by omega
    have ei1 : ((i : Int) + 1).toNat = i + 1 := by omega
    have iw1 : IntKind.i64.wrap ((i : Int) + 1) = (i : Int) + 1 := IntWalk.i64_in _ (by omega)
    have hlt1 : (i : Int) + 1 < (s.size : Int) := by omega
    obtain ⟨b1, e1, x1, y1⟩ : ∃ b : Int, bt s (i + 1) = b ∧ 0 ≤ b ∧ b ≤ 255 := ⟨_, rfl, (bt_rng s _).1, (bt_rng s _).2⟩
    have g1 : ∀ h' : i + 1 < s.size, ((s[i + 1]'h').toNat : Int) = b1 := fun h' => (get_bt s (i + 1) h').trans e1
    have HE1 := Lib.hid e1
    clear e1
    have n1 : bits .and .u8 b1 63 = b1 % 64 := u8_and63 _ (by omega) (by omega)
    have k2 : i + 2 < s.size := by omega
    have ei2 : ((i : Int) + 2).toNat = i + 2 := by omega
    have iw2 : IntKind.i64.wrap ((i : Int) + 2) = (i : Int) + 2 := IntWalk.i64_in _ (by omega)
    have hlt2 : (i : Int) + 2 < (s.size : Int) := by omega
    obtain ⟨b2, e2, x2, y2⟩ : ∃ b : Int, bt s (i + 2) = b ∧ 0 ≤ b ∧ b ≤ 255 := ⟨_, rfl, (bt_rng s _).1, (bt_rng s _).2⟩
    have g2 : ∀ h' : i + 2 < s.size, ((s[i + 2]'h').toNat : Int) = b2 := fun h' => (get_bt s (i + 2) h').trans e2
    have HE2 := Lib.hid e2
    clear e2
    have n2 : bits .and .u8 b2 63 = b2 % 64 := u8_and63 _ (by omega) (by omega)
    have k3 : i + 3 < s.size := by omega
    have ei3 : ((i : Int) + 3).toNat = i + 3 := by omega
    have iw3 : IntKind.i64.wrap ((i : Int) + 3) = (i : Int) + 3 := IntWalk.i64_in _ (by omega)
    have hlt3 : (i : Int) + 3 < (s.size : Int) := by omega
    obtain ⟨b3, e3, x3, y3⟩ : ∃ b : Int, bt s (i + 3) = b ∧ 0 ≤ b ∧ b ≤ 255 := ⟨_, rfl, (bt_rng s _).1, (bt_rng s _).2⟩
    have g3 : ∀ h' : i + 3 < s.size, ((s[i + 3]'h').toNat : Int) = b3 := fun h' => (get_bt s (i + 3) h').trans e3
    have HE3 := Lib.hid e3
    clear e3
    have n3 : bits .and .u8 b3 63 = b3 % 64 := u8_and63 _ (by omega) (by omega)
    have m0 : bits .and .u8 b0 7 = b0 % 8 := u8_and7 _ (by omega) (by omega)
    have s0 : IntKind.i32.wrap ((b0 % 8) * 262144) = (b0 % 8) * 262144 := IntWalk.i32_in _ (by omega)
    have s1 : IntKind.i32.wrap ((b1 % 64) * 4096) = (b1 % 64) * 4096 := IntWalk.i32_in _ (by omega)
    have o1 : bits .or .i32 ((b0 % 8) * 262144) ((b1 % 64) * 4096) = (b0 % 8) * 262144 + (b1 % 64) * 4096 := i32_or18 _ _ (by omega) (by omega) (by omega) (by omega) (by omega)
    have s2 : IntKind.i32.wrap ((b2 % 64) * 64) = (b2 % 64) * 64 := IntWalk.i32_in _ (by omega)
    have o2 : bits .or .i32 ((b0 % 8) * 262144 + (b1 % 64) * 4096) ((b2 % 64) * 64) = (b0 % 8) * 262144 + (b1 % 64) * 4096 + (b2 % 64) * 64 := i32_or12 _ _ (by omega) (by omega) (by omega) (by omega) (by omega)
    have o3 : bits .or .i32 ((b0 % 8) * 262144 + (b1 % 64) * 4096 + (b2 % 64) * 64) (b3 % 64) = (b0 % 8) * 262144 + (b1 % 64) * 4096 + (b2 % 64) * 64 + b3 % 64 := i32_or6 _ _ (by omega) (by omega) (by omega) (by omega) (by omega)
    go_enter Tryf.func5, Tryf.ntmps5
    have I1 := Lib.hid (fun w => in10 b1 144 191 w)
    have I2 := Lib.hid (fun w => in10 b2 128 191 w)
    have I3 := Lib.hid (fun w => in10 b3 128 191 w)
    go_wp2_with (first | (have I0 := I1; clear I1; go_at_call 10; refine (I0.out _).mono ?_; clear I0; rintro e w ⟨rfl, v1, rfl, HV1⟩) | (have I0 := I2; clear I2; go_at_call 10; refine (I0.out _).mono ?_; clear I0; rintro e w ⟨rfl, v2, rfl, HV2⟩) | (have I0 := I3; clear I3; go_at_call 10; refine (I0.out _).mono ?_; clear I0; rintro e w ⟨rfl, v3, rfl, HV3⟩))
    all_goals first
      | (refine bodyPost_ret (v := .tuple #[.int .i32 65533, .int .i64 1]) ?_ rfl (dz_f (q := 0) hi); simp [results, Tryf.results5, go_sem]; done)
      | skip
    go_quiet (fail)
    go_wp2_with fail
    have u1 := HV1.out (by simp_all)
    have u2 := HV2.out (by simp_all)
    have u3 := HV3.out (by simp_all)
    have t0 := HE0.out
    have t1 := HE1.out
    have t2 := HE2.out
    have t3 := HE3.out
    have z2 := h2
    have z3 := h3
    simp only [beq_eq_false_iff_ne, ne_eq, beq_iff_eq] at z2 z3
    refine bodyPost_ret (v := .tuple #[.int .i32 ((b0 % 8) * 262144 + (b1 % 64) * 4096 + (b2 % 64) * 64 + b3 % 64), .int .i64 4]) ?_ rfl (dz_t (m := 4) (by unfold Dv; omega))
    simp [results, Tryf.results5, go_sem]
  · have hn : ¬ (4 : Int) ≤ (s.size : Int) - (i : Int) := by omega
    go_enter Tryf.func5, Tryf.ntmps5
    go_wp2_with fail
    exact bodyPost_ret (v := .tuple #[.int .i32 65533, .int .i64 1]) (by simp [results, Tryf.results5, go_sem]) rfl (dz_f (q := 0) hi)
set_option maxRecDepth 100000 in
set_option maxHeartbeats 8000000 in
theorem dz4b (s : ByteArray) (i : Nat) (hs : s.size ≤ 16777216) (hi : i < s.size) (b0 : Int) (e0 : bt s i = b0) (c0 : 0 ≤ b0) (c1 : b0 ≤ 255) (h0 : 240 ≤ b0) (h1 : b0 ≤ 244) (h2 : (b0 == 240) = false) (h3 : (b0 == 244) = true) (w : World) : Calls Tryf.prog 5 #[.string s, .int .i64 (i : Int)] w (Dz w s i) := by
  have g0 : ∀ h' : i < s.size, ((s[i]'h').toNat : Int) = b0 := fun h' => (get_bt s i h').trans e0
  have HE0 := Lib.hid e0
  clear e0
  by_cases hl : i + 3 < s.size
  · have hn : (4 : Int) ≤ (s.size : Int) - (i : Int) := by omega
    have k1 : i + 1 < s.size := by omega
    have ei1 : ((i : Int) + 1).toNat = i + 1 := by omega
    have iw1 : IntKind.i64.wrap ((i : Int) + 1) = (i : Int) + 1 := IntWalk.i64_in _ (by omega)
    have hlt1 : (i : Int) + 1 < (s.size : Int) := by omega
    obtain ⟨b1, e1, x1, y1⟩ : ∃ b : Int, bt s (i + 1) = b ∧ 0 ≤ b ∧ b ≤ 255 := ⟨_, rfl, (bt_rng s _).1, (bt_rng s _).2⟩
    have g1 : ∀ h' : i + 1 < s.size, ((s[i + 1]'h').toNat : Int) = b1 := fun h' => (get_bt s (i + 1) h').trans e1
    have HE1 := Lib.hid e1
    clear e1
    have n1 : bits .and .u8 b1 63 = b1 % 64 := u8_and63 _ (by omega) (by omega)
    have k2 : i + 2 < s.size := by omega
    have ei2 : ((i : Int) + 2).toNat = i + 2 := by omega
    have iw2 : IntKind.i64.wrap ((i : Int) + 2) = (i : Int) + 2 := IntWalk.i64_in _ (by omega)
    have hlt2 : (i : Int) + 2 < (s.size : Int) := by omega
    obtain ⟨b2, e2, x2, y2⟩ : ∃ b : Int, bt s (i + 2) = b ∧ 0 ≤ b ∧ b ≤ 255 := ⟨_, rfl, (bt_rng s _).1, (bt_rng s _).2⟩
    have g2 : ∀ h' : i + 2 < s.size, ((s[i + 2]'h').toNat : Int) = b2 := fun h' => (get_bt s (i + 2) h').trans e2
    have HE2 := Lib.hid e2
    clear e2
    have n2 : bits .and .u8 b2 63 = b2 % 64 := u8_and63 _ (by omega) (by omega)
    have k3 : i + 3 < s.size := by omega
    have ei3 : ((i : Int) + 3).toNat = i + 3 := by omega
    have iw3 : IntKind.i64.wrap ((i : Int) + 3) = (i : Int) + 3 := IntWalk.i64_in _ (by omega)
    have hlt3 : (i : Int) + 3 < (s.size : Int) := by omega
    obtain ⟨b3, e3, x3, y3⟩ : ∃ b : Int, bt s (i + 3) = b ∧ 0 ≤ b ∧ b ≤ 255 := ⟨_, rfl, (bt_rng s _).1, (bt_rng s _).2⟩
    have g3 : ∀ h' : i + 3 < s.size, ((s[i + 3]'h').toNat : Int) = b3 := fun h' => (get_bt s (i + 3) h').trans e3
    have HE3 := Lib.hid e3
    clear e3
    have n3 : bits .and .u8 b3 63 = b3 % 64 := u8_and63 _ (by omega) (by omega)
    have m0 : bits .and .u8 b0 7 = b0 % 8 := u8_and7 _ (by omega) (by omega)
    have s0 : IntKind.i32.wrap ((b0 % 8) * 262144) = (b0 % 8) * 262144 := IntWalk.i32_in _ (by omega)
    have s1 : IntKind.i32.wrap ((b1 % 64) * 4096) = (b1 % 64) * 4096 := IntWalk.i32_in _ (by omega)
    have o1 : bits .or .i32 ((b0 % 8) * 262144) ((b1 % 64) * 4096) = (b0 % 8) * 262144 + (b1 % 64) * 4096 := i32_or18 _ _ (by omega) (by omega) (by omega) (by omega) (by omega)
    have s2 : IntKind.i32.wrap ((b2 % 64) * 64) = (b2 % 64) * 64 := IntWalk.i32_in _ (by omega)
    have o2 : bits .or .i32 ((b0 % 8) * 262144 + (b1 % 64) * 4096) ((b2 % 64) * 64) = (b0 % 8) * 262144 + (b1 % 64) * 4096 + (b2 % 64) * 64 := i32_or12 _ _ (by omega) (by omega) (by omega) (by omega) (by omega)
    have o3 : bits .or .i32 ((b0 % 8) * 262144 + (b1 % 64) * 4096 + (b2 % 64) * 64) (b3 % 64) = (b0 % 8) * 262144 + (b1 % 64) * 4096 + (b2 % 64) * 64 + b3 % 64 := i32_or6 _ _ (by omega) (by omega) (by omega) (by omega) (by omega)
    go_enter Tryf.func5, Tryf.ntmps5
    have I1 := Lib.hid (fun w => in10 b1 128 143 w)
    have I2 := Lib.hid (fun w => in10 b2 128 191 w)
    have I3 := Lib.hid (fun w => in10 b3 128 191 w)
    go_wp2_with (first | (have I0 := I1; clear I1; go_at_call 10; refine (I0.out _).mono ?_; clear I0; rintro e w ⟨rfl, v1, rfl, HV1⟩) | (have I0 := I2; clear I2; go_at_call 10; refine (I0.out _).mono ?_; clear I0; rintro e w ⟨rfl, v2, rfl, HV2⟩) | (have I0 := I3; clear I3; go_at_call 10; refine (I0.out _).mono ?_; clear I0; rintro e w ⟨rfl, v3, rfl, HV3⟩))
    all_goals first
      | (refine bodyPost_ret (v := .tuple #[.int .i32 65533, .int .i64 1]) ?_ rfl (dz_f (q := 0) hi); simp [results, Tryf.results5, go_sem]; done)
      | skip
    go_quiet (fail)
    go_wp2_with fail
    have u1 := HV1.out (by simp_all)
    have u2 := HV2.out (by simp_all)
    have u3 := HV3.out (by simp_all)
    have t0 := HE0.out
    have t1 := HE1.out
    have t2 := HE2.out
    have t3 := HE3.out
    have z2 := h2
    have z3 := h3
    simp only [beq_eq_false_iff_ne, ne_eq, beq_iff_eq] at z2 z3
    refine bodyPost_ret (v := .tuple #[.int .i32 ((b0 % 8) * 262144 + (b1 % 64) * 4096 + (b2 % 64) * 64 + b3 % 64), .int .i64 4]) ?_ rfl (dz_t (m := 4) (by unfold Dv; omega))
    simp [results, Tryf.results5, go_sem]
  · have hn : ¬ (4 : Int) ≤ (s.size : Int) - (i : Int) := by omega
    go_enter Tryf.func5, Tryf.ntmps5
    go_wp2_with fail
    exact bodyPost_ret (v := .tuple #[.int .i32 65533, .int .i64 1]) (by simp [results, Tryf.results5, go_sem]) rfl (dz_f (q := 0) hi)
set_option maxRecDepth 100000 in
set_option maxHeartbeats 8000000 in
theorem dz4c (s : ByteArray) (i : Nat) (hs : s.size ≤ 16777216) (hi : i < s.size) (b0 : Int) (e0 : bt s i = b0) (c0 : 0 ≤ b0) (c1 : b0 ≤ 255) (h0 : 240 ≤ b0) (h1 : b0 ≤ 244) (h2 : (b0 == 240) = false) (h3 : (b0 == 244) = false) (w : World) : Calls Tryf.prog 5 #[.string s, .int .i64 (i : Int)] w (Dz w s i) := by
  have g0 : ∀ h' : i < s.size, ((s[i]'h').toNat : Int) = b0 := fun h' => (get_bt s i h').trans e0
  have HE0 := Lib.hid e0
  clear e0
  by_cases hl : i + 3 < s.size
  · have hn : (4 : Int) ≤ (s.size : Int) - (i : Int) := by omega
    have k1 : i + 1 < s.size := by omega
    have ei1 : ((i : Int) + 1).toNat = i + 1 := by omega
    have iw1 : IntKind.i64.wrap ((i : Int) + 1) = (i : Int) + 1 := IntWalk.i64_in _ (by omega)
    have hlt1 : (i : Int) + 1 < (s.size : Int) := by omega
    obtain ⟨b1, e1, x1, y1⟩ : ∃ b : Int, bt s (i + 1) = b ∧ 0 ≤ b ∧ b ≤ 255 := ⟨_, rfl, (bt_rng s _).1, (bt_rng s _).2⟩
    have g1 : ∀ h' : i + 1 < s.size, ((s[i + 1]'h').toNat : Int) = b1 := fun h' => (get_bt s (i + 1) h').trans e1
    have HE1 := Lib.hid e1
    clear e1
    have n1 : bits .and .u8 b1 63 = b1 % 64 := u8_and63 _ (by omega) (by omega)
    have k2 : i + 2 < s.size := by omega
    have ei2 : ((i : Int) + 2).toNat = i + 2 := by omega
    have iw2 : IntKind.i64.wrap ((i : Int) + 2) = (i : Int) + 2 := IntWalk.i64_in _ (by omega)
    have hlt2 : (i : Int) + 2 < (s.size : Int) := by omega
    obtain ⟨b2, e2, x2, y2⟩ : ∃ b : Int, bt s (i + 2) = b ∧ 0 ≤ b ∧ b ≤ 255 := ⟨_, rfl, (bt_rng s _).1, (bt_rng s _).2⟩
    have g2 : ∀ h' : i + 2 < s.size, ((s[i + 2]'h').toNat : Int) = b2 := fun h' => (get_bt s (i + 2) h').trans e2
    have HE2 := Lib.hid e2
    clear e2
    have n2 : bits .and .u8 b2 63 = b2 % 64 := u8_and63 _ (by omega) (by omega)
    have k3 : i + 3 < s.size := by omega
    have ei3 : ((i : Int) + 3).toNat = i + 3 := by omega
    have iw3 : IntKind.i64.wrap ((i : Int) + 3) = (i : Int) + 3 := IntWalk.i64_in _ (by omega)
    have hlt3 : (i : Int) + 3 < (s.size : Int) := by omega
    obtain ⟨b3, e3, x3, y3⟩ : ∃ b : Int, bt s (i + 3) = b ∧ 0 ≤ b ∧ b ≤ 255 := ⟨_, rfl, (bt_rng s _).1, (bt_rng s _).2⟩
    have g3 : ∀ h' : i + 3 < s.size, ((s[i + 3]'h').toNat : Int) = b3 := fun h' => (get_bt s (i + 3) h').trans e3
    have HE3 := Lib.hid e3
    clear e3
    have n3 : bits .and .u8 b3 63 = b3 % 64 := u8_and63 _ (by omega) (by omega)
    have m0 : bits .and .u8 b0 7 = b0 % 8 := u8_and7 _ (by omega) (by omega)
    have s0 : IntKind.i32.wrap ((b0 % 8) * 262144) = (b0 % 8) * 262144 := IntWalk.i32_in _ (by omega)
    have s1 : IntKind.i32.wrap ((b1 % 64) * 4096) = (b1 % 64) * 4096 := IntWalk.i32_in _ (by omega)
    have o1 : bits .or .i32 ((b0 % 8) * 262144) ((b1 % 64) * 4096) = (b0 % 8) * 262144 + (b1 % 64) * 4096 := i32_or18 _ _ (by omega) (by omega) (by omega) (by omega) (by omega)
    have s2 : IntKind.i32.wrap ((b2 % 64) * 64) = (b2 % 64) * 64 := IntWalk.i32_in _ (by omega)
    have o2 : bits .or .i32 ((b0 % 8) * 262144 + (b1 % 64) * 4096) ((b2 % 64) * 64) = (b0 % 8) * 262144 + (b1 % 64) * 4096 + (b2 % 64) * 64 := i32_or12 _ _ (by omega) (by omega) (by omega) (by omega) (by omega)
    have o3 : bits .or .i32 ((b0 % 8) * 262144 + (b1 % 64) * 4096 + (b2 % 64) * 64) (b3 % 64) = (b0 % 8) * 262144 + (b1 % 64) * 4096 + (b2 % 64) * 64 + b3 % 64 := i32_or6 _ _ (by omega) (by omega) (by omega) (by omega) (by omega)
    go_enter Tryf.func5, Tryf.ntmps5
    have I1 := Lib.hid (fun w => in10 b1 128 191 w)
    have I2 := Lib.hid (fun w => in10 b2 128 191 w)
    have I3 := Lib.hid (fun w => in10 b3 128 191 w)
    go_wp2_with (first | (have I0 := I1; clear I1; go_at_call 10; refine (I0.out _).mono ?_; clear I0; rintro e w ⟨rfl, v1, rfl, HV1⟩) | (have I0 := I2; clear I2; go_at_call 10; refine (I0.out _).mono ?_; clear I0; rintro e w ⟨rfl, v2, rfl, HV2⟩) | (have I0 := I3; clear I3; go_at_call 10; refine (I0.out _).mono ?_; clear I0; rintro e w ⟨rfl, v3, rfl, HV3⟩))
    all_goals first
      | (refine bodyPost_ret (v := .tuple #[.int .i32 65533, .int .i64 1]) ?_ rfl (dz_f (q := 0) hi); simp [results, Tryf.results5, go_sem]; done)
      | skip
    go_quiet (fail)
    go_wp2_with fail
    have u1 := HV1.out (by simp_all)
    have u2 := HV2.out (by simp_all)
    have u3 := HV3.out (by simp_all)
    have t0 := HE0.out
    have t1 := HE1.out
    have t2 := HE2.out
    have t3 := HE3.out
    have z2 := h2
    have z3 := h3
    simp only [beq_eq_false_iff_ne, ne_eq, beq_iff_eq] at z2 z3
    refine bodyPost_ret (v := .tuple #[.int .i32 ((b0 % 8) * 262144 + (b1 % 64) * 4096 + (b2 % 64) * 64 + b3 % 64), .int .i64 4]) ?_ rfl (dz_t (m := 4) (by unfold Dv; omega))
    simp [results, Tryf.results5, go_sem]
  · have hn : ¬ (4 : Int) ≤ (s.size : Int) - (i : Int) := by omega
    go_enter Tryf.func5, Tryf.ntmps5
    go_wp2_with fail
    exact bodyPost_ret (v := .tuple #[.int .i32 65533, .int .i64 1]) (by simp [results, Tryf.results5, go_sem]) rfl (dz_f (q := 0) hi)
end Go.Proofs.YtpnhldglcnmhdaaFmt.Aux
