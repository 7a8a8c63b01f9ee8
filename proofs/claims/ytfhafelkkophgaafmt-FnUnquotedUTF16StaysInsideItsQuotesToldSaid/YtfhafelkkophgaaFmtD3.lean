/- Contracts of functions that the law of this seat reaches, and plain facts; no condition. -/
import Derived.Test.YtfhafelkkophgaaFmtProg
import Derived.WalkKit
import Derived.ProofKit
import Derived.OpenShut
import Derived.ShutString
import Derived.Test.YtfhafelkkophgaaFmtAid
import Derived.Test.YtfhafelkkophgaaFmtD2
import Derived.ArgAppend
import Derived.WalkSpells
import Derived.LoopTactic
import Derived.IntWalk
import Derived.Outline
import Derived.Deep.QuietTactic
import Derived.BigQuiet
import Derived.Deep.RegionHeld3
import Derived.Deep.RegionLaw
import Derived.StillTailTactics
import Derived.OwnWalk
import Derived.RegionTactic
import Derived.Laws.BitsAllLaws
import Derived.Laws.BitsLemmas
import Derived.Lib.ConvBytes
namespace Go.Proofs.YtfhafelkkophgaaFmt.Aux
open Go.ChangeShapes Go.WideShapes Go.ChangeAt Go.RowKit
open Go.ChangeMaps (open_string shut_string)
set_option linter.unusedVariables false
set_option linter.unusedSimpArgs false
open Fl Str Pb Qd PlainAid Aux
set_option maxRecDepth 100000 in
set_option maxHeartbeats 8000000 in
theorem dec4a (s : ByteArray) (i : Nat) (hs : s.size ≤ 16777216) (hi : i + 3 < s.size) (b0 b1 b2 b3 : Int) (e0 : bt s i = b0) (e1 : bt s (i + 1) = b1) (e2 : bt s (i + 2) = b2) (e3 : bt s (i + 3) = b3) (h0 : b0 = 240) (h2 : 144 ≤ b1) (h3 : b1 ≤ 191) (h4 : 128 ≤ b2) (h5 : b2 ≤ 191) (h6 : 128 ≤ b3) (h7 : b3 ≤ 191) (w : World) :
    Calls Tryf.prog 14 #[.string s, .int .i64 (i : Int)] w (DecT w ((b1 - 128) * 4096 + (b2 - 128) * 64 + (b3 - 128)) 4) := by
  have g0 : ∀ h' : i < s.size, ((s[i]'h').toNat : Int) = b0 := fun h' => (get_bt s i h').trans e0
  have g1 : ∀ h' : i + 1 < s.size, ((s[i + 1]'h').toNat : Int) = b1 := fun h' => (get_bt s (i + 1) h').trans e1
  have g2 : ∀ h' : i + 2 < s.size, ((s[i + 2]'h').toNat : Int) = b2 := fun h' => (get_bt s (i + 2) h').trans e2
  have g3 : ∀ h' : i + 3 < s.size, ((s[i + 3]'h').toNat : Int) = b3 := fun h' => (get_bt s (i + 3) h').trans e3
  have k0 : i < s.size := by omega
  have k1 : i + 1 < s.size := by omega
  have ei1 : ((i : Int) + 1).toNat = i + 1 := by omega
  have iw1 : IntKind.i64.wrap ((i : Int) + 1) = (i : Int) + 1 := IntWalk.i64_in _ (by omega)
  have hlt1 : (i : Int) + 1 < (s.size : Int) := by omega
  have k2 : i + 2 < s.size := by omega
  have ei2 : ((i : Int) + 2).toNat = i + 2 := by omega
  have iw2 : IntKind.i64.wrap ((i : Int) + 2) = (i : Int) + 2 := IntWalk.i64_in _ (by omega)
  have hlt2 : (i : Int) + 2 < (s.size : Int) := by omega
  have k3 : i + 3 < s.size := by omega
  have ei3 : ((i : Int) + 3).toNat = i + 3 := by omega
  have iw3 : IntKind.i64.wrap ((i : Int) + 3) = (i : Int) + 3 := IntWalk.i64_in _ (by omega)
  have hlt3 : (i : Int) + 3 < (s.size : Int) := by omega
  have m0 : bits .and .u8 b0 7 = b0 - 240 := by rw [u8_and7 _ (by omega) (by omega)]; omega
  have m1 : bits .and .u8 b1 63 = b1 - 128 := by rw [u8_and63 _ (by omega) (by omega)]; omega
  have m2 : bits .and .u8 b2 63 = b2 - 128 := by rw [u8_and63 _ (by omega) (by omega)]; omega
  have m3 : bits .and .u8 b3 63 = b3 - 128 := by rw [u8_and63 _ (by omega) (by omega)]; omega
  have s1 : IntKind.i32.wrap ((b0 - 240) * 262144) = (b0 - 240) * 262144 := IntWalk.i32_in _ (by omega)
  have s2 : IntKind.i32.wrap ((b1 - 128) * 4096) = (b1 - 128) * 4096 := IntWalk.i32_in _ (by omega)
  have s3 : IntKind.i32.wrap ((b2 - 128) * 64) = (b2 - 128) * 64 := IntWalk.i32_in _ (by omega)
  have o1 : bits .or .i32 ((b0 - 240) * 262144) ((b1 - 128) * 4096) = (b0 - 240) * 262144 + (b1 - 128) * 4096 := i32_or18 _ _ (by omega) (by omega) (by omega) (by omega) (by omega)
  have o2 : bits .or .i32 ((b0 - 240) * 262144 + (b1 - 128) * 4096) ((b2 - 128) * 64) = (b0 - 240) * 262144 + (b1 - 128) * 4096 + (b2 - 128) * 64 := i32_or12 _ _ (by omega) (by omega) (by omega) (by omega) (by omega)
  have o3 : bits .or .i32 ((b0 - 240) * 262144 + (b1 - 128) * 4096 + (b2 - 128) * 64) (b3 - 128) = (b0 - 240) * 262144 + (b1 - 128) * 4096 + (b2 - 128) * 64 + (b3 - 128) := i32_or6 _ _ (by omega) (by omega) (by omega) (by omega) (by omega)
  have C1 := Lib.hid (fun w => cont30 b1 (by omega) (by omega) w)
  have C2 := Lib.hid (fun w => cont30 b2 (by omega) (by omega) w)
  have C3 := Lib.hid (fun w => cont30 b3 (by omega) (by omega) w)
  clear e0 e1 e2 e3
  go_enter Tryf.func14, Tryf.ntmps14
  go_wp2_with (go_at_call 30; first | (refine (C1.out _).mono ?_; rintro e w1 ⟨rfl, rfl⟩) | (refine (C2.out _).mono ?_; rintro e w1 ⟨rfl, rfl⟩) | (refine (C3.out _).mono ?_; rintro e w1 ⟨rfl, rfl⟩))
  go_quiet (fail)
  go_wp2_with fail
  exact bodyPost_ret (v := .tuple #[.int .i32 ((b1 - 128) * 4096 + (b2 - 128) * 64 + (b3 - 128)), .int .i64 4, .bool true]) (by simp [results, Tryf.results14, go_sem]) rfl ⟨rfl, _, rfl⟩
set_option maxRecDepth 100000 in
set_option maxHeartbeats 8000000 in
theorem dec4b (s : ByteArray) (i : Nat) (hs : s.size ≤ 16777216) (hi : i + 3 < s.size) (b0 b1 b2 b3 : Int) (e0 : bt s i = b0) (e1 : bt s (i + 1) = b1) (e2 : bt s (i + 2) = b2) (e3 : bt s (i + 3) = b3) (h0 : b0 = 244) (h2 : 128 ≤ b1) (h3 : b1 ≤ 143) (h4 : 128 ≤ b2) (h5 : b2 ≤ 191) (h6 : 128 ≤ b3) (h7 : b3 ≤ 191) (w : World) :
    Calls Tryf.prog 14 #[.string s, .int .i64 (i : Int)] w (DecT w (1048576 + (b1 - 128) * 4096 + (b2 - 128) * 64 + (b3 - 128)) 4) := by
  have g0 : ∀ h' : i < s.size, ((s[i]'h').toNat : Int) = b0 := fun h' => (get_bt s i h').trans e0
  have g1 : ∀ h' : i + 1 < s.size, ((s[i + 1]'h').toNat : Int) = b1 := fun h' => (get_bt s (i + 1) h').trans e1
  have g2 : ∀ h' : i + 2 < s.size, ((s[i + 2]'h').toNat : Int) = b2 := fun h' => (get_bt s (i + 2) h').trans e2
  have g3 : ∀ h' : i + 3 < s.size, ((s[i + 3]'h').toNat : Int) = b3 := fun h' => (get_bt s (i + 3) h').trans e3
  have k0 : i < s.size := by omega
  have k1 : i + 1 < s.size := by omega
  have ei1 : ((i : Int) + 1).toNat = i + 1 := by omega
  have iw1 : IntKind.i64.wrap ((i : Int) + 1) = (i : Int) + 1 := IntWalk.i64_in _ (by omega)
  have hlt1 : (i : Int) + 1 < (s.size : Int) := by omega
  have k2 : i + 2 < s.size := by omega
  have ei2 : ((i : Int) + 2).toNat = i + 2 := by omega
  have iw2 : IntKind.i64.wrap ((i : Int) + 2) = (i : Int) + 2 := IntWalk.i64_in _ (by omega)
  have hlt2 : (i : Int) + 2 < (s.size : Int) := by omega
  have k3 : i + 3 < s.size := by omega
  have ei3 : ((i : Int) + 3).toNat = i + 3 := by omega
  have iw3 : IntKind.i64.wrap ((i : Int) + 3) = (i : Int) + 3 := IntWalk.i64_in _ (by omega)
  have hlt3 : (i : Int) + 3 < (s.size : Int) := by omega
  have m0 : bits .and .u8 b0 7 = b0 - 240 := by rw [u8_and7 _ (by omega) (by omega)]; omega
  have m1 : bits .and .u8 b1 63 = b1 - 128 := by rw [u8_and63 _ (by omega) (by omega)]; omega
  have m2 : bits .and .u8 b2 63 = b2 - 128 := by rw [u8_and63 _ (by omega) (by omega)]; omega
  have m3 : bits .and .u8 b3 63 = b3 - 128 := by rw [u8_and63 _ (by omega) (by omega)]; omega
  have s1 : IntKind.i32.wrap ((b0 - 240) * 262144) = (b0 - 240) * 262144 := IntWalk.i32_in _ (by omega)
  have s2 : IntKind.i32.wrap ((b1 - 128) * 4096) = (b1 - 128) * 4096 := IntWalk.i32_in _ (by omega)
  have s3 : IntKind.i32.wrap ((b2 - 128) * 64) = (b2 - 128) * 64 := IntWalk.i32_in _ (by omega)
  have o1 : bits .or .i32 ((b0 - 240) * 262144) ((b1 - 128) * 4096) = (b0 - 240) * 262144 + (b1 - 128) * 4096 := i32_or18 _ _ (by omega) (by omega) (by omega) (by omega) (by omega)
  have o2 : bits .or .i32 ((b0 - 240) * 262144 + (b1 - 128) * 4096) ((b2 - 128) * 64) = (b0 - 240) * 262144 + (b1 - 128) * 4096 + (b2 - 128) * 64 := i32_or12 _ _ (by omega) (by omega) (by omega) (by omega) (by omega)
  have o3 : bits .or .i32 ((b0 - 240) * 262144 + (b1 - 128) * 4096 + (b2 - 128) * 64) (b3 - 128) = (b0 - 240) * 262144 + (b1 - 128) * 4096 + (b2 - 128) * 64 + (b3 - 128) := i32_or6 _ _ (by omega) (by omega) (by omega) (by omega) (by omega)
  have C1 := Lib.hid (fun w => cont30 b1 (by omega) (by omega) w)
  have C2 := Lib.hid (fun w => cont30 b2 (by omega) (by omega) w)
  have C3 := Lib.hid (fun w => cont30 b3 (by omega) (by omega) w)
  clear e0 e1 e2 e3
  go_enter Tryf.func14, Tryf.ntmps14
  go_wp2_with (go_at_call 30; first | (refine (C1.out _).mono ?_; rintro e w1 ⟨rfl, rfl⟩) | (refine (C2.out _).mono ?_; rintro e w1 ⟨rfl, rfl⟩) | (refine (C3.out _).mono ?_; rintro e w1 ⟨rfl, rfl⟩))
  go_quiet (fail)
  go_wp2_with fail
  exact bodyPost_ret (v := .tuple #[.int .i32 (1048576 + (b1 - 128) * 4096 + (b2 - 128) * 64 + (b3 - 128)), .int .i64 4, .bool true]) (by simp [results, Tryf.results14, go_sem]) rfl ⟨rfl, _, rfl⟩
set_option maxRecDepth 100000 in
set_option maxHeartbeats 8000000 in
theorem dec4c (s : ByteArray) (i : Nat) (hs : s.size ≤ 16777216) (hi : i + 3 < s.size) (b0 b1 b2 b3 : Int) (e0 : bt s i = b0) (e1 : bt s (i + 1) = b1) (e2 : bt s (i + 2) = b2) (e3 : bt s (i + 3) = b3) (h0 : 241 ≤ b0) (h1 : b0 ≤ 243) (h2 : 128 ≤ b1) (h3 : b1 ≤ 191) (h4 : 128 ≤ b2) (h5 : b2 ≤ 191) (h6 : 128 ≤ b3) (h7 : b3 ≤ 191) (w : World) :
    Calls Tryf.prog 14 #[.string s, .int .i64 (i : Int)] w (DecT w ((b0 - 240) * 262144 + (b1 - 128) * 4096 + (b2 - 128) * 64 + (b3 - 128)) 4) := by
  have g0 : ∀ h' : i < s.size, ((s[i]'h').toNat : Int) = b0 := fun h' => (get_bt s i h').trans e0
  have g1 : ∀ h' : i + 1 < s.size, ((s[i + 1]'h').toNat : Int) = b1 := fun h' => (get_bt s (i + 1) h').trans e1
  have g2 : ∀ h' : i + 2 < s.size, ((s[i + 2]'h').toNat : Int) = b2 := fun h' => (get_bt s (i + 2) h').trans e2
  have g3 : ∀ h' : i + 3 < s.size, ((s[i + 3]'h').toNat : Int) = b3 := fun h' => (get_bt s (i + 3) h').trans e3
  have k0 : i < s.size := by omega
  have k1 : i + 1 < s.size := by omega
  have ei1 : ((i : Int) + 1).toNat = i + 1 := by omega
  have iw1 : IntKind.i64.wrap ((i : Int) + 1) = (i : Int) + 1 := IntWalk.i64_in _ (by omega)
  have hlt1 : (i : Int) + 1 < (s.size : Int) := by omega
  have k2 : i + 2 < s.size := by omega
  have ei2 : ((i : Int) + 2).toNat = i + 2 := by omega
  have iw2 : IntKind.i64.wrap ((i : Int) + 2) = (i : Int) + 2 := IntWalk.i64_in _ (by omega)
  have hlt2 : (i : Int) + 2 < (s.size : Int) := by omega
  have k3 : i + 3 < s.size := by omega
  have ei3 : ((i : Int) + 3).toNat = i + 3 := by omega
  have iw3 : IntKind.i64.wrap ((i : Int) + 3) = (i : Int) + 3 := IntWalk.i64_in _ (by omega)
  have hlt3 : (i : Int) + 3 < (s.size : Int) := by omega
  have m0 : bits .and .u8 b0 7 = b0 - 240 := by rw [u8_and7 _ (by omega) (by omega)]; omega
  have m1 : bits .and .u8 b1 63 = b1 - 128 := by rw [u8_and63 _ (by omega) (by omega)]; omega
  have m2 : bits .and .u8 b2 63 = b2 - 128 := by rw [u8_and63 _ (by omega) (by omega)]; omega
  have m3 : bits .and .u8 b3 63 = b3 - 128 := by rw [u8_and63 _ (by omega) (by omega)]; omega
  have s1 : IntKind.i32.wrap ((b0 - 240) * 262144) = (b0 - 240) * 262144 := IntWalk.i32_in _ (by omega)
  have s2 : IntKind.i32.wrap ((b1 - 128) * 4096) = (b1 - 128) * 4096 := IntWalk.i32_in _ (by omega)
  have s3 : IntKind.i32.wrap ((b2 - 128) * 64) = (b2 - 128) * 64 := IntWalk.i32_in _ (by omega)
  have o1 : bits .or .i32 ((b0 - 240) * 262144) ((b1 - 128) * 4096) = (b0 - 240) * 262144 + (b1 - 128) * 4096 := i32_or18 _ _ (by omega) (by omega) (by omega) (by omega) (by omega)
  have o2 : bits .or .i32 ((b0 - 240) * 262144 + (b1 - 128) * 4096) ((b2 - 128) * 64) = (b0 - 240) * 262144 + (b1 - 128) * 4096 + (b2 - 128) * 64 := i32_or12 _ _ (by omega) (by omega) (by omega) (by omega) (by omega)
  have o3 : bits .or .i32 ((b0 - 240) * 262144 + (b1 - 128) * 4096 + (b2 - 128) * 64) (b3 - 128) = (b0 - 240) * 262144 + (b1 - 128) * 4096 + (b2 - 128) * 64 + (b3 - 128) := i32_or6 _ _ (by omega) (by omega) (by omega) (by omega) (by omega)
  have q1 : (b0 == 240) = false := by simp; omega
  have q2 : (b0 == 244) = false := by simp; omega
  have C1 := Lib.hid (fun w => cont30 b1 (by omega) (by omega) w)
  have C2 := Lib.hid (fun w => cont30 b2 (by omega) (by omega) w)
  have C3 := Lib.hid (fun w => cont30 b3 (by omega) (by omega) w)
  clear e0 e1 e2 e3
  go_enter Tryf.func14, Tryf.ntmps14
  go_wp2_with (go_at_call 30; first | (refine (C1.out _).mono ?_; rintro e w1 ⟨rfl, rfl⟩) | (refine (C2.out _).mono ?_; rintro e w1 ⟨rfl, rfl⟩) | (refine (C3.out _).mono ?_; rintro e w1 ⟨rfl, rfl⟩))
  go_quiet (fail)
  go_wp2_with fail
  exact bodyPost_ret (v := .tuple #[.int .i32 ((b0 - 240) * 262144 + (b1 - 128) * 4096 + (b2 - 128) * 64 + (b3 - 128)), .int .i64 4, .bool true]) (by simp [results, Tryf.results14, go_sem]) rfl ⟨rfl, _, rfl⟩
end Go.Proofs.YtfhafelkkophgaaFmt.Aux
