/- Contracts of functions that the law of this seat reaches, and plain facts; no condition. -/
import Derived.Test.YtfhafelkkophgaaFmtProg
import Derived.WalkKit
import Derived.ProofKit
import Derived.OpenShut
import Derived.ShutString
import Derived.Test.YtfhafelkkophgaaFmtAid
import Derived.Test.YtfhafelkkophgaaFmtC
import Derived.ArgAppend
import Derived.WalkSpells
import Derived.LoopTactic
import Derived.IntWalk
import Derived.Outline
import Derived.Deep.QuietTactic
import Derived.BigQuiet
import Derived.Deep.RegionHeld3
import Derived.Deep.RegionLaw
import Derived.StillTailTactics
import Derived.OwnWalk
import Derived.RegionTactic
import Derived.Laws.BitsAllLaws
import Derived.Laws.BitsLemmas
import Derived.Lib.ConvBytes
namespace Go.Proofs.YtfhafelkkophgaaFmt.Aux
open Go.ChangeShapes Go.WideShapes Go.ChangeAt Go.RowKit
open Go.ChangeMaps (open_string shut_string)
set_option linter.unusedVariables false
set_option linter.unusedSimpArgs false
open Fl Str Pb Qd PlainAid Aux
/-- The strict reader, at a text that is well formed. -/
theorem cont30 (b : Int) (h0 : 128 ≤ b) (h1 : b ≤ 191) (w : World) : Calls Tryf.prog 30 #[.int .u8 b] w fun e w' => e = .returned (.bool true) ∧ w' = w := by
  go_enter Tryf.func30, Tryf.ntmps30
  go_wp2_with fail
  go_ret
  exact ⟨rfl, rfl⟩
def DecT (w : World) (r : Int) (m : Nat) (e : Ending) (w' : World) : Prop := e = .returned (.tuple #[.int .i32 r, .int .i64 (m : Int), .bool true]) ∧ ∃ q, w' = w.drewN q
set_option maxRecDepth 100000 in
set_option maxHeartbeats 8000000 in
theorem dec2 (s : ByteArray) (i : Nat) (hs : s.size ≤ 16777216) (hi : i + 1 < s.size) (b0 b1 : Int) (e0 : bt s i = b0) (e1 : bt s (i + 1) = b1) (h0 : 194 ≤ b0) (h1 : b0 ≤ 223) (h2 : 128 ≤ b1) (h3 : b1 ≤ 191) (w : World) :
    Calls Tryf.prog 14 #[.string s, .int .i64 (i : Int)] w (DecT w ((b0 - 192) * 64 + (b1 - 128)) 2) := by
  have g0 : ∀ h' : i < s.size, ((s[i]'h').toNat : Int) = b0 := fun h' => (get_bt s i h').trans e0
  have g1 : ∀ h' : i + 1 < s.size, ((s[i + 1]'h').toNat : Int) = b1 := fun h' => (get_bt s (i + 1) h').trans e1
  have k0 : i < s.size := by omega
  have k1 : i + 1 < s.size := by omega
  have ei1 : ((i : Int) + 1).toNat = i + 1 := by omega
  have iw1 : IntKind.i64.wrap ((i : Int) + 1) = (i : Int) + 1 := IntWalk.i64_in _ (by omega)
  have hlt1 : (i : Int) + 1 < (s.size : Int) := by omega
  have m0 : bits .and .u8 b0 31 = b0 - 192 := by rw [u8_and31 _ (by omega) (by omega)]; omega
  have m1 : bits .and .u8 b1 63 = b1 - 128 := by rw [u8_and63 _ (by omega) (by omega)]; omega
  have o1 : bits .or .i32 ((b0 - 192) * 64) (b1 - 128) = (b0 - 192) * 64 + (b1 - 128) := i32_or6 _ _ (by omega) (by omega) (by omega) (by omega) (by omega)
  have C1 := Lib.hid (fun w => cont30 b1 (by omega) (by omega) w)
  clear e0 e1
  go_enter Tryf.func14, Tryf.ntmps14
  go_wp2_with (go_at_call 30; first | (refine (C1.out _).mono ?_; rintro e w1 ⟨rfl, rfl⟩))
  exact bodyPost_ret (v := .tuple #[.int .i32 ((b0 - 192) * 64 + (b1 - 128)), .int .i64 2, .bool true]) (by simp [results, Tryf.results14, go_sem]) rfl ⟨rfl, 0, rfl⟩
set_option maxRecDepth 100000 in
set_option maxHeartbeats 8000000 in
theorem dec3a (s : ByteArray) (i : Nat) (hs : s.size ≤ 16777216) (hi : i + 2 < s.size) (b0 b1 b2 : Int) (e0 : bt s i = b0) (e1 : bt s (i + 1) = b1) (e2 : bt s (i + 2) = b2) (h0 : b0 = 224) (h2 : 160 ≤ b1) (h3 : b1 ≤ 191) (h4 : 128 ≤ b2) (h5 : b2 ≤ 191) (w : World) :
    Calls Tryf.prog 14 #[.string s, .int .i64 (i : Int)] w (DecT w ((b1 - 128) * 64 + (b2 - 128)) 3) := by
  have g0 : ∀ h' : i < s.size, ((s[i]'h').toNat : Int) = b0 := fun h' => (get_bt s i h').trans e0
  have g1 : ∀ h' : i + 1 < s.size, ((s[i + 1]'h').toNat : Int) = b1 := fun h' => (get_bt s (i + 1) h').trans e1
  have g2 : ∀ h' : i + 2 < s.size, ((s[i + 2]'h').toNat : Int) = b2 := fun h' => (get_bt s (i + 2) h').trans e2
  have k0 : i < s.size := by omega
  have k1 : i + 1 < s.size := by omega
  have ei1 : ((i : Int) + 1).toNat = i + 1 := by omega
  have iw1 : IntKind.i64.wrap ((i : Int) + 1) = (i : Int) + 1 := IntWalk.i64_in _ (by omega)
  have hlt1 : (i : Int) + 1 < (s.size : Int) := by omega
  have k2 : i + 2 < s.size := by omega
  have ei2 : ((i : Int) + 2).toNat = i + 2 := by omega
  have iw2 : IntKind.i64.wrap ((i : Int) + 2) = (i : Int) + 2 := IntWalk.i64_in _ (by omega)
  have hlt2 : (i : Int) + 2 < (s.size : Int) := by omega
  have m0 : bits .and .u8 b0 15 = b0 - 224 := by rw [u8_and15 _ (by omega) (by omega)]; omega
  have m1 : bits .and .u8 b1 63 = b1 - 128 := by rw [u8_and63 _ (by omega) (by omega)]; omega
  have m2 : bits .and .u8 b2 63 = b2 - 128 := by rw [u8_and63 _ (by omega) (by omega)]; omega
  have s1 : IntKind.i32.wrap ((b0 - 224) * 4096) = (b0 - 224) * 4096 := IntWalk.i32_in _ (by omega)
  have s2 : IntKind.i32.wrap ((b1 - 128) * 64) = (b1 - 128) * 64 := IntWalk.i32_in _ (by omega)
  have o1 : bits .or .i32 ((b0 - 224) * 4096) ((b1 - 128) * 64) = (b0 - 224) * 4096 + (b1 - 128) * 64 := i32_or12 _ _ (by omega) (by omega) (by omega) (by omega) (by omega)
  have o2 : bits .or .i32 ((b0 - 224) * 4096 + (b1 - 128) * 64) (b2 - 128) = (b0 - 224) * 4096 + (b1 - 128) * 64 + (b2 - 128) := i32_or6 _ _ (by omega) (by omega) (by omega) (by omega) (by omega)
  have C1 := Lib.hid (fun w => cont30 b1 (by omega) (by omega) w)
  have C2 := Lib.hid (fun w => cont30 b2 (by omega) (by omega) w)
  clear e0 e1 e2
  go_enter Tryf.func14, Tryf.ntmps14
  go_wp2_with (go_at_call 30; first | (refine (C1.out _).mono ?_; rintro e w1 ⟨rfl, rfl⟩) | (refine (C2.out _).mono ?_; rintro e w1 ⟨rfl, rfl⟩))
  go_quiet (fail)
  go_wp2_with fail
  exact bodyPost_ret (v := .tuple #[.int .i32 ((b1 - 128) * 64 + (b2 - 128)), .int .i64 3, .bool true]) (by simp [results, Tryf.results14, go_sem]) rfl ⟨rfl, _, rfl⟩
set_option maxRecDepth 100000 in
set_option maxHeartbeats 8000000 in
theorem dec3b (s : ByteArray) (i : Nat) (hs : s.size ≤ 16777216) (hi : i + 2 < s.size) (b0 b1 b2 : Int) (e0 : bt s i = b0) (e1 : bt s (i + 1) = b1) (e2 : bt s (i + 2) = b2) (h0 : b0 = 237) (h2 : 128 ≤ b1) (h3 : b1 ≤ 159) (h4 : 128 ≤ b2) (h5 : b2 ≤ 191) (w : World) :
    Calls Tryf.prog 14 #[.string s, .int .i64 (i : Int)] w (DecT w (53248 + (b1 - 128) * 64 + (b2 - 128)) 3) := by
  have g0 : ∀ h' : i < s.size, ((s[i]'h').toNat : Int) = b0 := fun h' => (get_bt s i h').trans e0
  have g1 : ∀ h' : i + 1 < s.size, ((s[i + 1]'h').toNat : Int) = b1 := fun h' => (get_bt s (i + 1) h').trans e1
  have g2 : ∀ h' : i + 2 < s.size, ((s[i + 2]'h').toNat : Int) = b2 := fun h' => (get_bt s (i + 2) h').trans e2
  have k0 : i < s.size := by omega
  have k1 : i + 1 < s.size := by omega
  have ei1 : ((i : Int) + 1).toNat = i + 1 := by omega
  have iw1 : IntKind.i64.wrap ((i : Int) + 1) = (i : Int) + 1 := IntWalk.i64_in _ (by omega)
  have hlt1 : (i : Int) + 1 < (s.size : Int) := by omega
  have k2 : i + 2 < s.size := by omega
  have ei2 : ((i : Int) + 2).toNat = i + 2 := by omega
  have iw2 : IntKind.i64.wrap ((i : Int) + 2) = (i : Int) + 2 := IntWalk.i64_in _ (by omega)
  have hlt2 : (i : Int) + 2 < (s.size : Int) := by omega
  have m0 : bits .and .u8 b0 15 = b0 - 224 := by rw [u8_and15 _ (by omega) (by omega)]; omega
  have m1 : bits .and .u8 b1 63 = b1 - 128 := by rw [u8_and63 _ (by omega) (by omega)]; omega
  have m2 : bits .and .u8 b2 63 = b2 - 128 := by rw [u8_and63 _ (by omega) (by omega)]; omega
  have s1 : IntKind.i32.wrap ((b0 - 224) * 4096) = (b0 - 224) * 4096 := IntWalk.i32_in _ (by omega)
  have s2 : IntKind.i32.wrap ((b1 - 128) * 64) = (b1 - 128) * 64 := IntWalk.i32_in _ (by omega)
  have o1 : bits .or .i32 ((b0 - 224) * 4096) ((b1 - 128) * 64) = (b0 - 224) * 4096 + (b1 - 128) * 64 := i32_or12 _ _ (by omega) (by omega) (by omega) (by omega) (by omega)
  have o2 : bits .or .i32 ((b0 - 224) * 4096 + (b1 - 128) * 64) (b2 - 128) = (b0 - 224) * 4096 + (b1 - 128) * 64 + (b2 - 128) := i32_or6 _ _ (by omega) (by omega) (by omega) (by omega) (by omega)
  have C1 := Lib.hid (fun w => cont30 b1 (by omega) (by omega) w)
  have C2 := Lib.hid (fun w => cont30 b2 (by omega) (by omega) w)
  clear e0 e1 e2
  go_enter Tryf.func14, Tryf.ntmps14
  go_wp2_with (go_at_call 30; first | (refine (C1.out _).mono ?_; rintro e w1 ⟨rfl, rfl⟩) | (refine (C2.out _).mono ?_; rintro e w1 ⟨rfl, rfl⟩))
  go_quiet (fail)
  go_wp2_with fail
  exact bodyPost_ret (v := .tuple #[.int .i32 (53248 + (b1 - 128) * 64 + (b2 - 128)), .int .i64 3, .bool true]) (by simp [results, Tryf.results14, go_sem]) rfl ⟨rfl, _, rfl⟩
set_option maxRecDepth 100000 in
set_option maxHeartbeats 8000000 in
theorem dec3c (s : ByteArray) (i : Nat) (hs : s.size ≤ 16777216) (hi : i + 2 < s.size) (b0 b1 b2 : Int) (e0 : bt s i = b0) (e1 : bt s (i + 1) = b1) (e2 : bt s (i + 2) = b2) (h0 : 225 ≤ b0) (h1 : b0 ≤ 239) (hn : (b0 == 237) = false) (h2 : 128 ≤ b1) (h3 : b1 ≤ 191) (h4 : 128 ≤ b2) (h5 : b2 ≤ 191) (w : World) :
    Calls Tryf.prog 14 #[.string s, .int .i64 (i : Int)] w (DecT w ((b0 - 224) * 4096 + (b1 - 128) * 64 + (b2 - 128)) 3) := by
  have g0 : ∀ h' : i < s.size, ((s[i]'h').toNat : Int) = b0 := fun h' => (get_bt s i h').trans e0
  have g1 : ∀ h' : i + 1 < s.size, ((s[i + 1]'h').toNat : Int) = b1 := fun h' => (get_bt s (i + 1) h').trans e1
  have g2 : ∀ h' : i + 2 < s.size, ((s[i + 2]'h').toNat : Int) = b2 := fun h' => (get_bt s (i + 2) h').trans e2
  have k0 : i < s.size := by omega
  have k1 : i + 1 < s.size := by omega
  have ei1 : ((i : Int) + 1).toNat = i + 1 := by omega
  have iw1 : IntKind.i64.wrap ((i : Int) + 1) = (i : Int) + 1 := IntWalk.i64_in _ (by omega)
  have hlt1 : (i : Int) + 1 < (s.size : Int) := by omega
  have k2 : i + 2 < s.size := by omega
  have ei2 : ((i : Int) + 2).toNat = i + 2 := by omega
  have iw2 : IntKind.i64.wrap ((i : Int) + 2) = (i : Int) + 2 := IntWalk.i64_in _ (by omega)
  have hlt2 : (i : Int) + 2 < (s.size : Int) := by omega
  have m0 : bits .and .u8 b0 15 = b0 - 224 := by rw [u8_and15 _ (by omega) (by omega)]; omega
  have m1 : bits .and .u8 b1 63 = b1 - 128 := by rw [u8_and63 _ (by omega) (by omega)]; omega
  have m2 : bits .and .u8 b2 63 = b2 - 128 := by rw [u8_and63 _ (by omega) (by omega)]; omega
  have s1 : IntKind.i32.wrap ((b0 - 224) * 4096) = (b0 - 224) * 4096 := IntWalk.i32_in _ (by omega)
  have s2 : IntKind.i32.wrap ((b1 - 128) * 64) = (b1 - 128) * 64 := IntWalk.i32_in _ (by omega)
  have o1 : bits .or .i32 ((b0 - 224) * 4096) ((b1 - 128) * 64) = (b0 - 224) * 4096 + (b1 - 128) * 64 := i32_or12 _ _ (by omega) (by omega) (by omega) (by omega) (by omega)
  have o2 : bits .or .i32 ((b0 - 224) * 4096 + (b1 - 128) * 64) (b2 - 128) = (b0 - 224) * 4096 + (b1 - 128) * 64 + (b2 - 128) := i32_or6 _ _ (by omega) (by omega) (by omega) (by omega) (by omega)
  have q1 : (b0 == 224) = false := by simp; omega
  have C1 := Lib.hid (fun w => cont30 b1 (by omega) (by omega) w)
  have C2 := Lib.hid (fun w => cont30 b2 (by omega) (by omega) w)
  clear e0 e1 e2
  go_enter Tryf.func14, Tryf.ntmps14
  go_wp2_with (go_at_call 30; first | (refine (C1.out _).mono ?_; rintro e w1 ⟨rfl, rfl⟩) | (refine (C2.out _).mono ?_; rintro e w1 ⟨rfl, rfl⟩))
  go_quiet (fail)
  go_wp2_with fail
  exact bodyPost_ret (v := .tuple #[.int .i32 ((b0 - 224) * 4096 + (b1 - 128) * 64 + (b2 - 128)), .int .i64 3, .bool true]) (by simp [results, Tryf.results14, go_sem]) rfl ⟨rfl, _, rfl⟩
end Go.Proofs.YtfhafelkkophgaaFmt.Aux
