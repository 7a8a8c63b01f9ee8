/- Contracts of functions that the law of this seat reaches, and plain facts; no condition. -/
import Derived.Test.YtfhafelkkophgaaFmtProg
import Derived.WalkKit
import Derived.ProofKit
import Derived.OpenShut
import Derived.ShutString
import Derived.Test.YtfhafelkkophgaaFmtAid
import Derived.Test.YtfhafelkkophgaaFmtD2
import Derived.ArgAppend
import Derived.WalkSpells
import Derived.LoopTactic
import Derived.IntWalk
import Derived.Outline
import Derived.Deep.QuietTactic
import Derived.BigQuiet
import Derived.Deep.RegionHeld3
import Derived.Deep.RegionLaw
import Derived.StillTailTactics
import Derived.OwnWalk
import Derived.RegionTactic
import Derived.Laws.BitsAllLaws
import Derived.Laws.BitsLemmas
import Derived.Lib.ConvBytes
namespace Go.Proofs.YtfhafelkkophgaaFmt.Aux
open Go.ChangeShapes Go.WideShapes Go.ChangeAt Go.RowKit
open Go.ChangeMaps (open_string shut_string)
set_option linter.unusedVariables false
set_option linter.unusedSimpArgs false
open Fl Str Pb Qd PlainAid Aux
/-- A rune that stands in a text at i, with its width. -/
def Dv (s : ByteArray) (i : Nat) (r : Int) (m : Nat) : Prop :=
  (m = 1 ∧ i < s.size ∧ bt s i < 128 ∧ r = bt s i) ∨
  (m = 2 ∧ i + 1 < s.size ∧ 194 ≤ bt s i ∧ bt s i ≤ 223 ∧ 128 ≤ bt s (i + 1) ∧ bt s (i + 1) ≤ 191 ∧ r = (bt s i - 192) * 64 + (bt s (i + 1) - 128)) ∨
  (m = 3 ∧ i + 2 < s.size ∧ 224 ≤ bt s i ∧ bt s i ≤ 239 ∧ 128 ≤ bt s (i + 1) ∧ bt s (i + 1) ≤ 191 ∧ (bt s i = 224 → 160 ≤ bt s (i + 1)) ∧ (bt s i = 237 → bt s (i + 1) ≤ 159) ∧ 128 ≤ bt s (i + 2) ∧ bt s (i + 2) ≤ 191 ∧ r = (bt s i - 224) * 4096 + (bt s (i + 1) - 128) * 64 + (bt s (i + 2) - 128)) ∨
  (m = 4 ∧ i + 3 < s.size ∧ 240 ≤ bt s i ∧ bt s i ≤ 244 ∧ 128 ≤ bt s (i + 1) ∧ bt s (i + 1) ≤ 191 ∧ (bt s i = 240 → 144 ≤ bt s (i + 1)) ∧ (bt s i = 244 → bt s (i + 1) ≤ 143) ∧ 128 ≤ bt s (i + 2) ∧ bt s (i + 2) ≤ 191 ∧ 128 ≤ bt s (i + 3) ∧ bt s (i + 3) ≤ 191 ∧ r = (bt s i - 240) * 262144 + (bt s (i + 1) - 128) * 4096 + (bt s (i + 2) - 128) * 64 + (bt s (i + 3) - 128))
def D31 (w : World) (s : ByteArray) (i : Nat) (e : Ending) (w' : World) : Prop := (∃ q, w' = w.drewN q) ∧ ∃ (r : Int) (m : Nat) (ok : Bool), e = .returned (.tuple #[.int .i32 r, .int .i64 (m : Int), .bool ok]) ∧ Hid ((ok = true ∧ Dv s i r m) ∨ (ok = false ∧ m = 1 ∧ r = 0 ∧ ∀ r m, ¬ Dv s i r m))
theorem d31t {w : World} {s : ByteArray} {i : Nat} {r : Int} {m q : Nat} (h : Dv s i r m) : D31 w s i (.returned (.tuple #[.int .i32 r, .int .i64 (m : Int), .bool true])) (w.drewN q) := ⟨⟨q, rfl⟩, r, m, true, rfl, Lib.hid (.inl ⟨rfl, h⟩)⟩
theorem d31f {w : World} {s : ByteArray} {i : Nat} {q : Nat} (h : ∀ r m, ¬ Dv s i r m) : D31 w s i (.returned (.tuple #[.int .i32 0, .int .i64 1, .bool false])) (w.drewN q) := ⟨⟨q, rfl⟩, 0, 1, false, rfl, Lib.hid (.inr ⟨rfl, rfl, rfl, h⟩)⟩
set_option maxRecDepth 100000 in
set_option maxHeartbeats 8000000 in
theorem d31a (s : ByteArray) (i : Nat) (hs : s.size ≤ 16777216) (hi : i < s.size) (b0 : Int) (e0 : bt s i = b0) (c0 : 0 ≤ b0) (c1 : b0 ≤ 255) (h0 : b0 < 128) (w : World) : Calls Tryf.prog 31 #[.string s, .int .i64 (i : Int)] w (D31 w s i) := by
  have g0 : ∀ h' : i < s.size, ((s[i]'h').toNat : Int) = b0 := fun h' => (get_bt s i h').trans e0
  have HE0 := Lib.hid e0
  clear e0
  go_enter Tryf.func31, Tryf.ntmps31
  go_wp2_with fail
  exact bodyPost_ret (v := .tuple #[.int .i32 (b0), .int .i64 1, .bool true]) (by simp [results, Tryf.results31, go_sem]) rfl (d31t (m := 1) (q := 0) (by have t0 := HE0.out; unfold Dv; omega))
set_option maxRecDepth 100000 in
set_option maxHeartbeats 8000000 in
theorem d31b (s : ByteArray) (i : Nat) (hs : s.size ≤ 16777216) (hi : i < s.size) (b0 : Int) (e0 : bt s i = b0) (c1 : b0 ≤ 255) (h0 : 128 ≤ b0) (h1 : b0 < 194 ∨ 244 < b0) (w : World) : Calls Tryf.prog 31 #[.string s, .int .i64 (i : Int)] w (D31 w s i) := by
  have g0 : ∀ h' : i < s.size, ((s[i]'h').toNat : Int) = b0 := fun h' => (get_bt s i h').trans e0
  have HE0 := Lib.hid e0
  clear e0
  rcases h1 with h1 | h1
  · go_enter Tryf.func31, Tryf.ntmps31
    go_wp2_with fail
    exact bodyPost_ret (v := .tuple #[.int .i32 0, .int .i64 1, .bool false]) (by simp [results, Tryf.results31, go_sem]) rfl (d31f (q := 0) (by have t0 := HE0.out; intro r m h; unfold Dv at h; omega))
  · go_enter Tryf.func31, Tryf.ntmps31
    go_wp2_with fail
    exact bodyPost_ret (v := .tuple #[.int .i32 0, .int .i64 1, .bool false]) (by simp [results, Tryf.results31, go_sem]) rfl (d31f (q := 0) (by have t0 := HE0.out; intro r m h; unfold Dv at h; omega))
set_option maxRecDepth 100000 in
set_option maxHeartbeats 8000000 in
theorem d31c (s : ByteArray) (i : Nat) (hs : s.size ≤ 16777216) (hi : i < s.size) (b0 : Int) (e0 : bt s i = b0) (h0 : 194 ≤ b0) (h1 : b0 ≤ 223) (w : World) : Calls Tryf.prog 31 #[.string s, .int .i64 (i : Int)] w (D31 w s i) := by
  have g0 : ∀ h' : i < s.size, ((s[i]'h').toNat : Int) = b0 := fun h' => (get_bt s i h').trans e0
  have HE0 := Lib.hid e0
  clear e0
  have iwn : IntKind.i64.wrap ((i : Int) + 1) = (i : Int) + 1 := IntWalk.i64_in _ (by omega)
  by_cases hl : i + 1 < s.size
  · have hln : (i : Int) + 1 < (s.size : Int) := by omega
    have k1 : i + 1 < s.size := by omega
    have ei1 : ((i : Int) + 1).toNat = i + 1 := by omega
    have iw1 : IntKind.i64.wrap ((i : Int) + 1) = (i : Int) + 1 := IntWalk.i64_in _ (by omega)
    have hlt1 : (i : Int) + 1 < (s.size : Int) := by omega
    obtain ⟨b1, e1, x1, y1⟩ : ∃ b : Int, bt s (i + 1) = b ∧ 0 ≤ b ∧ b ≤ 255 := by
      have h1 := get_bt s (i + 1) k1
      have h2 := (s[i + 1]'k1).toNat_lt
      exact ⟨_, rfl, by omega, by omega⟩
    have g1 : ∀ h' : i + 1 < s.size, ((s[i + 1]'h').toNat : Int) = b1 := fun h' => (get_bt s (i + 1) h').trans e1
    have HE1 := Lib.hid e1
    clear e1
    have m0 : bits .and .u8 b0 31 = b0 - 192 := by rw [u8_and31 _ (by omega) (by omega)]; omega
    by_cases u1 : b1 < 128
    · skip
      go_enter Tryf.func31, Tryf.ntmps31
      go_wp2_with fail
      go_loopw [13, 12] (fun k r wr => ((k = .int .i64 1 ∧ r = .int .i32 (b0 - 192))) ∧ ∃ q, wr = w.drewN q) (fun k _ _ => 5 - (intOf k).toNat)
      case atStart => exact ⟨⟨rfl, rfl⟩, 0, rfl⟩
      case round =>
        obtain ⟨hk, qq, rfl⟩ := hrel
        obtain ⟨rfl, rfl⟩ := hk
        · go_wp2_with fail
          exact bodyPost_ret (v := .tuple #[.int .i32 0, .int .i64 1, .bool false]) (by simp [results, Tryf.results31, go_sem]) rfl (d31f (q := qq) (by have t0 := HE0.out; have t1 := HE1.out; intro r m h; unfold Dv at h; omega))
    by_cases v1 : 191 < b1
    · skip
      go_enter Tryf.func31, Tryf.ntmps31
      go_wp2_with fail
      go_loopw [13, 12] (fun k r wr => ((k = .int .i64 1 ∧ r = .int .i32 (b0 - 192))) ∧ ∃ q, wr = w.drewN q) (fun k _ _ => 5 - (intOf k).toNat)
      case atStart => exact ⟨⟨rfl, rfl⟩, 0, rfl⟩
      case round =>
        obtain ⟨hk, qq, rfl⟩ := hrel
        obtain ⟨rfl, rfl⟩ := hk
        · go_wp2_with fail
          exact bodyPost_ret (v := .tuple #[.int .i32 0, .int .i64 1, .bool false]) (by simp [results, Tryf.results31, go_sem]) rfl (d31f (q := qq) (by have t0 := HE0.out; have t1 := HE1.out; intro r m h; unfold Dv at h; omega))
    have n1 : bits .and .u8 b1 63 = b1 - 128 := by rw [u8_and63 _ (by omega) (by omega)]; omega
    have s1 : IntKind.i32.wrap ((b0 - 192) * 64) = (b0 - 192) * 64 := IntWalk.i32_in _ (by omega)
    have o1 : bits .or .i32 ((b0 - 192) * 64) (b1 - 128) = (b0 - 192) * 64 + (b1 - 128) := i32_or6 _ _ (by omega) (by omega) (by omega) (by omega) (by omega)
    go_enter Tryf.func31, Tryf.ntmps31
    go_wp2_with fail
    go_loopw [13, 12] (fun k r wr => ((k = .int .i64 1 ∧ r = .int .i32 (b0 - 192)) ∨ (k = .int .i64 2 ∧ r = .int .i32 ((b0 - 192) * 64 + (b1 - 128)))) ∧ ∃ q, wr = w.drewN q) (fun k _ _ => 5 - (intOf k).toNat)
    case atStart => exact ⟨.inl ⟨rfl, rfl⟩, 0, rfl⟩
    case round =>
      obtain ⟨hk, qq, rfl⟩ := hrel
      rcases hk with ⟨rfl, rfl⟩ | ⟨rfl, rfl⟩
      · go_wp2_with fail
        go_roundw
        case rel => exact ⟨.inr (⟨rfl, rfl⟩), _, rfl⟩
        case measure => simp [intOf]
      · go_wp2_with fail
        exact bodyPost_ret (v := .tuple #[.int .i32 ((b0 - 192) * 64 + (b1 - 128)), .int .i64 2, .bool true]) (by simp [results, Tryf.results31, go_sem]) rfl (d31t (m := 2) (q := qq) (by have t0 := HE0.out; have t1 := HE1.out; unfold Dv; omega))
  · have hln : ¬ (i : Int) + 1 < (s.size : Int) := by omega
    go_enter Tryf.func31, Tryf.ntmps31
    go_wp2_with fail
    exact bodyPost_ret (v := .tuple #[.int .i32 0, .int .i64 1, .bool false]) (by simp [results, Tryf.results31, go_sem]) rfl (d31f (q := 0) (by have t0 := HE0.out; intro r m h; unfold Dv at h; omega))
set_option maxRecDepth 100000 in
set_option maxHeartbeats 8000000 in
theorem d31d (s : ByteArray) (i : Nat) (hs : s.size ≤ 16777216) (hi : i < s.size) (b0 : Int) (e0 : bt s i = b0) (h0 : b0 = 224) (w : World) : Calls Tryf.prog 31 #[.string s, .int .i64 (i : Int)] w (D31 w s i) := by
  have g0 : ∀ h' : i < s.size, ((s[i]'h').toNat : Int) = b0 := fun h' => (get_bt s i h').trans e0
  have HE0 := Lib.hid e0
  clear e0
  have iwn : IntKind.i64.wrap ((i : Int) + 2) = (i : Int) + 2 := IntWalk.i64_in _ (by omega)
  by_cases hl : i + 2 < s.size
  · have hln : (i : Int) + 2 < (s.size : Int) := by omega
    have k1 : i + 1 < s.size := by omega
    have ei1 : ((i : Int) + 1).toNat = i + 1 := by omega
    have iw1 : IntKind.i64.wrap ((i : Int) + 1) = (i : Int) + 1 := IntWalk.i64_in _ (by omega)
    have hlt1 : (i : Int) + 1 < (s.size : Int) := by omega
    obtain ⟨b1, e1, x1, y1⟩ : ∃ b : Int, bt s (i + 1) = b ∧ 0 ≤ b ∧ b ≤ 255 := by
      have h1 := get_bt s (i + 1) k1
      have h2 := (s[i + 1]'k1).toNat_lt
      exact ⟨_, rfl, by omega, by omega⟩
    have g1 : ∀ h' : i + 1 < s.size, ((s[i + 1]'h').toNat : Int) = b1 := fun h' => (get_bt s (i + 1) h').trans e1
    have HE1 := Lib.hid e1
    clear e1
    have k2 : i + 2 < s.size := by omega
    have ei2 : ((i : Int) + 2).toNat = i + 2 := by omega
    have iw2 : IntKind.i64.wrap ((i : Int) + 2) = (i : Int) + 2 := IntWalk.i64_in _ (by omega)
    have hlt2 : (i : Int) + 2 < (s.size : Int) := by omega
    obtain ⟨b2, e2, x2, y2⟩ : ∃ b : Int, bt s (i + 2) = b ∧ 0 ≤ b ∧ b ≤ 255 := by
      have h1 := get_bt s (i + 2) k2
      have h2 := (s[i + 2]'k2).toNat_lt
      exact ⟨_, rfl, by omega, by omega⟩
    have g2 : ∀ h' : i + 2 < s.size, ((s[i + 2]'h').toNat : Int) = b2 := fun h' => (get_bt s (i + 2) h').trans e2
    have HE2 := Lib.hid e2
    clear e2
    have m0 : bits .and .u8 b0 15 = b0 - 224 := by rw [u8_and15 _ (by omega) (by omega)]; omega
    by_cases u1 : b1 < 160
    · skip
      go_enter Tryf.func31, Tryf.ntmps31
      go_wp2_with fail
      go_loopw [13, 12] (fun k r wr => ((k = .int .i64 1 ∧ r = .int .i32 (0))) ∧ ∃ q, wr = w.drewN q) (fun k _ _ => 5 - (intOf k).toNat)
      case atStart => exact ⟨⟨rfl, rfl⟩, 0, rfl⟩
      case round =>
        obtain ⟨hk, qq, rfl⟩ := hrel
        obtain ⟨rfl, rfl⟩ := hk
        · go_wp2_with fail
          exact bodyPost_ret (v := .tuple #[.int .i32 0, .int .i64 1, .bool false]) (by simp [results, Tryf.results31, go_sem]) rfl (d31f (q := qq) (by have t0 := HE0.out; have t1 := HE1.out; have t2 := HE2.out; intro r m h; unfold Dv at h; omega))
    by_cases v1 : 191 < b1
    · skip
      go_enter Tryf.func31, Tryf.ntmps31
      go_wp2_with fail
      go_loopw [13, 12] (fun k r wr => ((k = .int .i64 1 ∧ r = .int .i32 (0))) ∧ ∃ q, wr = w.drewN q) (fun k _ _ => 5 - (intOf k).toNat)
      case atStart => exact ⟨⟨rfl, rfl⟩, 0, rfl⟩
      case round =>
        obtain ⟨hk, qq, rfl⟩ := hrel
        obtain ⟨rfl, rfl⟩ := hk
        · go_wp2_with fail
          exact bodyPost_ret (v := .tuple #[.int .i32 0, .int .i64 1, .bool false]) (by simp [results, Tryf.results31, go_sem]) rfl (d31f (q := qq) (by have t0 := HE0.out; have t1 := HE1.out; have t2 := HE2.out; intro r m h; unfold Dv at h; omega))
    by_cases u2 : b2 < 128
    · skip
      have n1 : bits .and .u8 b1 63 = b1 - 128 := by rw [u8_and63 _ (by omega) (by omega)]; omega
      have o1 : bits .or .i32 (0) (b1 - 128) = b1 - 128 := (i32_or6 0 (b1 - 128) (by omega) (by omega) (by omega) (by omega) (by omega)).trans (by omega)
      go_enter Tryf.func31, Tryf.ntmps31
      go_wp2_with fail
      go_loopw [13, 12] (fun k r wr => ((k = .int .i64 1 ∧ r = .int .i32 (0)) ∨ (k = .int .i64 2 ∧ r = .int .i32 (b1 - 128))) ∧ ∃ q, wr = w.drewN q) (fun k _ _ => 5 - (intOf k).toNat)
      case atStart => exact ⟨.inl ⟨rfl, rfl⟩, 0, rfl⟩
      case round =>
        obtain ⟨hk, qq, rfl⟩ := hrel
        rcases hk with ⟨rfl, rfl⟩ | ⟨rfl, rfl⟩
        · go_wp2_with fail
          go_roundw
          case rel => exact ⟨.inr (⟨rfl, rfl⟩), _, rfl⟩
          case measure => simp [intOf]
        · go_wp2_with fail
          exact bodyPost_ret (v := .tuple #[.int .i32 0, .int .i64 1, .bool false]) (by simp [results, Tryf.results31, go_sem]) rfl (d31f (q := qq) (by have t0 := HE0.out; have t1 := HE1.out; have t2 := HE2.out; intro r m h; unfold Dv at h; omega))
    by_cases v2 : 191 < b2
    · skip
      have n1 : bits .and .u8 b1 63 = b1 - 128 := by rw [u8_and63 _ (by omega) (by omega)]; omega
      have o1 : bits .or .i32 (0) (b1 - 128) = b1 - 128 := (i32_or6 0 (b1 - 128) (by omega) (by omega) (by omega) (by omega) (by omega)).trans (by omega)
      go_enter Tryf.func31, Tryf.ntmps31
      go_wp2_with fail
      go_loopw [13, 12] (fun k r wr => ((k = .int .i64 1 ∧ r = .int .i32 (0)) ∨ (k = .int .i64 2 ∧ r = .int .i32 (b1 - 128))) ∧ ∃ q, wr = w.drewN q) (fun k _ _ => 5 - (intOf k).toNat)
      case atStart => exact ⟨.inl ⟨rfl, rfl⟩, 0, rfl⟩
      case round =>
        obtain ⟨hk, qq, rfl⟩ := hrel
        rcases hk with ⟨rfl, rfl⟩ | ⟨rfl, rfl⟩
        · go_wp2_with fail
          go_roundw
          case rel => exact ⟨.inr (⟨rfl, rfl⟩), _, rfl⟩
          case measure => simp [intOf]
        · go_wp2_with fail
          exact bodyPost_ret (v := .tuple #[.int .i32 0, .int .i64 1, .bool false]) (by simp [results, Tryf.results31, go_sem]) rfl (d31f (q := qq) (by have t0 := HE0.out; have t1 := HE1.out; have t2 := HE2.out; intro r m h; unfold Dv at h; omega))
    have n1 : bits .and .u8 b1 63 = b1 - 128 := by rw [u8_and63 _ (by omega) (by omega)]; omega
    have o1 : bits .or .i32 (0) (b1 - 128) = b1 - 128 := (i32_or6 0 (b1 - 128) (by omega) (by omega) (by omega) (by omega) (by omega)).trans (by omega)
    have n2 : bits .and .u8 b2 63 = b2 - 128 := by rw [u8_and63 _ (by omega) (by omega)]; omega
    have s2 : IntKind.i32.wrap ((b1 - 128) * 64) = (b1 - 128) * 64 := IntWalk.i32_in _ (by omega)
    have o2 : bits .or .i32 ((b1 - 128) * 64) (b2 - 128) = (b1 - 128) * 64 + (b2 - 128) := i32_or6 _ _ (by omega) (by omega) (by omega) (by omega) (by omega)
    go_enter Tryf.func31, Tryf.ntmps31
    go_wp2_with fail
    go_loopw [13, 12] (fun k r wr => ((k = .int .i64 1 ∧ r = .int .i32 (0)) ∨ (k = .int .i64 2 ∧ r = .int .i32 (b1 - 128)) ∨ (k = .int .i64 3 ∧ r = .int .i32 ((b1 - 128) * 64 + (b2 - 128)))) ∧ ∃ q, wr = w.drewN q) (fun k _ _ => 5 - (intOf k).toNat)
    case atStart => exact ⟨.inl ⟨rfl, rfl⟩, 0, rfl⟩
    case round =>
      obtain ⟨hk, qq, rfl⟩ := hrel
      rcases hk with ⟨rfl, rfl⟩ | ⟨rfl, rfl⟩ | ⟨rfl, rfl⟩
      · go_wp2_with fail
        go_roundw
        case rel => exact ⟨.inr (.inl ⟨rfl, rfl⟩), _, rfl⟩
        case measure => simp [intOf]
      · go_wp2_with fail
        go_roundw
        case rel => exact ⟨.inr (.inr (⟨rfl, rfl⟩)), _, rfl⟩
        case measure => simp [intOf]
      · go_wp2_with fail
        exact bodyPost_ret (v := .tuple #[.int .i32 ((b1 - 128) * 64 + (b2 - 128)), .int .i64 3, .bool true]) (by simp [results, Tryf.results31, go_sem]) rfl (d31t (m := 3) (q := qq) (by have t0 := HE0.out; have t1 := HE1.out; have t2 := HE2.out; unfold Dv; omega))
  · have hln : ¬ (i : Int) + 2 < (s.size : Int) := by omega
    go_enter Tryf.func31, Tryf.ntmps31
    go_wp2_with fail
    exact bodyPost_ret (v := .tuple #[.int .i32 0, .int .i64 1, .bool false]) (by simp [results, Tryf.results31, go_sem]) rfl (d31f (q := 0) (by have t0 := HE0.out; intro r m h; unfold Dv at h; omega))
set_option maxRecDepth 100000 in
set_option maxHeartbeats 8000000 in
theorem d31e (s : ByteArray) (i : Nat) (hs : s.size ≤ 16777216) (hi : i < s.size) (b0 : Int) (e0 : bt s i = b0) (h0 : b0 = 237) (w : World) : Calls Tryf.prog 31 #[.string s, .int .i64 (i : Int)] w (D31 w s i) := by
  have g0 : ∀ h' : i < s.size, ((s[i]'h').toNat : Int) = b0 := fun h' => (get_bt s i h').trans e0
  have HE0 := Lib.hid e0
  clear e0
  have iwn : IntKind.i64.wrap ((i : Int) + 2) = (i : Int) + 2 := IntWalk.i64_in _ (by omega)
  by_cases hl : i + 2 < s.size
  · have hln : (i : Int) + 2 < (s.size : Int) := by omega
    have k1 : i + 1 < s.size := by omega
    have ei1 : ((i : Int) + 1).toNat = i + 1 := by omega
    have iw1 : IntKind.i64.wrap ((i : Int) + 1) = (i : Int) + 1 := IntWalk.i64_in _ (by omega)
    have hlt1 : (i : Int) + 1 < (s.size : Int) := by omega
    obtain ⟨b1, e1, x1, y1⟩ : ∃ b : Int, bt s (i + 1) = b ∧ 0 ≤ b ∧ b ≤ 255 := by
      have h1 := get_bt s (i + 1) k1
      have h2 := (s[i + 1]'k1).toNat_lt
      exact ⟨_, rfl, by omega, by omega⟩
    have g1 : ∀ h' : i + 1 < s.size, ((s[i + 1]'h').toNat : Int) = b1 := fun h' => (get_bt s (i + 1) h').trans e1
    have HE1 := Lib.hid e1
    clear e1
    have k2 : i + 2 < s.size := by omega
    have ei2 : ((i : Int) + 2).toNat = i + 2 := by omega
    have iw2 : IntKind.i64.wrap ((i : Int) + 2) = (i : Int) + 2 := IntWalk.i64_in _ (by omega)
    have hlt2 : (i : Int) + 2 < (s.size : Int) := by omega
    obtain ⟨b2, e2, x2, y2⟩ : ∃ b : Int, bt s (i + 2) = b ∧ 0 ≤ b ∧ b ≤ 255 := by
      have h1 := get_bt s (i + 2) k2
      have h2 := (s[i + 2]'k2).toNat_lt
      exact ⟨_, rfl, by omega, by omega⟩
    have g2 : ∀ h' : i + 2 < s.size, ((s[i + 2]'h').toNat : Int) = b2 := fun h' => (get_bt s (i + 2) h').trans e2
    have HE2 := Lib.hid e2
    clear e2
    have m0 : bits .and .u8 b0 15 = b0 - 224 := by rw [u8_and15 _ (by omega) (by omega)]; omega
    by_cases u1 : b1 < 128
    · skip
      go_enter Tryf.func31, Tryf.ntmps31
      go_wp2_with fail
      go_loopw [13, 12] (fun k r wr => ((k = .int .i64 1 ∧ r = .int .i32 (13))) ∧ ∃ q, wr = w.drewN q) (fun k _ _ => 5 - (intOf k).toNat)
      case atStart => exact ⟨⟨rfl, rfl⟩, 0, rfl⟩
      case round =>
        obtain ⟨hk, qq, rfl⟩ := hrel
        obtain ⟨rfl, rfl⟩ := hk
        · go_wp2_with fail
          exact bodyPost_ret (v := .tuple #[.int .i32 0, .int .i64 1, .bool false]) (by simp [results, Tryf.results31, go_sem]) rfl (d31f (q := qq) (by have t0 := HE0.out; have t1 := HE1.out; have t2 := HE2.out; intro r m h; unfold Dv at h; omega))
    by_cases v1 : 159 < b1
    · skip
      go_enter Tryf.func31, Tryf.ntmps31
      go_wp2_with fail
      go_loopw [13, 12] (fun k r wr => ((k = .int .i64 1 ∧ r = .int .i32 (13))) ∧ ∃ q, wr = w.drewN q) (fun k _ _ => 5 - (intOf k).toNat)
      case atStart => exact ⟨⟨rfl, rfl⟩, 0, rfl⟩
      case round =>
        obtain ⟨hk, qq, rfl⟩ := hrel
        obtain ⟨rfl, rfl⟩ := hk
        · go_wp2_with fail
          exact bodyPost_ret (v := .tuple #[.int .i32 0, .int .i64 1, .bool false]) (by simp [results, Tryf.results31, go_sem]) rfl (d31f (q := qq) (by have t0 := HE0.out; have t1 := HE1.out; have t2 := HE2.out; intro r m h; unfold Dv at h; omega))
    by_cases u2 : b2 < 128
    · skip
      have n1 : bits .and .u8 b1 63 = b1 - 128 := by rw [u8_and63 _ (by omega) (by omega)]; omega
      have o1 : bits .or .i32 (832) (b1 - 128) = 832 + (b1 - 128) := i32_or6 _ _ (by omega) (by omega) (by omega) (by omega) (by omega)
      go_enter Tryf.func31, Tryf.ntmps31
      go_wp2_with fail
      go_loopw [13, 12] (fun k r wr => ((k = .int .i64 1 ∧ r = .int .i32 (13)) ∨ (k = .int .i64 2 ∧ r = .int .i32 (832 + (b1 - 128)))) ∧ ∃ q, wr = w.drewN q) (fun k _ _ => 5 - (intOf k).toNat)
      case atStart => exact ⟨.inl ⟨rfl, rfl⟩, 0, rfl⟩
      case round =>
        obtain ⟨hk, qq, rfl⟩ := hrel
        rcases hk with ⟨rfl, rfl⟩ | ⟨rfl, rfl⟩
        · go_wp2_with fail
          go_roundw
          case rel => exact ⟨.inr (⟨rfl, rfl⟩), _, rfl⟩
          case measure => simp [intOf]
        · go_wp2_with fail
          exact bodyPost_ret (v := .tuple #[.int .i32 0, .int .i64 1, .bool false]) (by simp [results, Tryf.results31, go_sem]) rfl (d31f (q := qq) (by have t0 := HE0.out; have t1 := HE1.out; have t2 := HE2.out; intro r m h; unfold Dv at h; omega))
    by_cases v2 : 191 < b2
    · skip
      have n1 : bits .and .u8 b1 63 = b1 - 128 := by rw [u8_and63 _ (by omega) (by omega)]; omega
      have o1 : bits .or .i32 (832) (b1 - 128) = 832 + (b1 - 128) := i32_or6 _ _ (by omega) (by omega) (by omega) (by omega) (by omega)
      go_enter Tryf.func31, Tryf.ntmps31
      go_wp2_with fail
      go_loopw [13, 12] (fun k r wr => ((k = .int .i64 1 ∧ r = .int .i32 (13)) ∨ (k = .int .i64 2 ∧ r = .int .i32 (832 + (b1 - 128)))) ∧ ∃ q, wr = w.drewN q) (fun k _ _ => 5 - (intOf k).toNat)
      case atStart => exact ⟨.inl ⟨rfl, rfl⟩, 0, rfl⟩
      case round =>
        obtain ⟨hk, qq, rfl⟩ := hrel
        rcases hk with ⟨rfl, rfl⟩ | ⟨rfl, rfl⟩
        · go_wp2_with fail
          go_roundw
          case rel => exact ⟨.inr (⟨rfl, rfl⟩), _, rfl⟩
          case measure => simp [intOf]
        · go_wp2_with fail
          exact bodyPost_ret (v := .tuple #[.int .i32 0, .int .i64 1, .bool false]) (by simp [results, Tryf.results31, go_sem]) rfl (d31f (q := qq) (by have t0 := HE0.out; have t1 := HE1.out; have t2 := HE2.out; intro r m h; unfold Dv at h; omega))
    have n1 : bits .and .u8 b1 63 = b1 - 128 := by rw [u8_and63 _ (by omega) (by omega)]; omega
    have o1 : bits .or .i32 (832) (b1 - 128) = 832 + (b1 - 128) := i32_or6 _ _ (by omega) (by omega) (by omega) (by omega) (by omega)
    have n2 : bits .and .u8 b2 63 = b2 - 128 := by rw [u8_and63 _ (by omega) (by omega)]; omega
    have s2 : IntKind.i32.wrap ((832 + (b1 - 128)) * 64) = (832 + (b1 - 128)) * 64 := IntWalk.i32_in _ (by omega)
    have o2 : bits .or .i32 ((832 + (b1 - 128)) * 64) (b2 - 128) = (832 + (b1 - 128)) * 64 + (b2 - 128) := i32_or6 _ _ (by omega) (by omega) (by omega) (by omega) (by omega)
    go_enter Tryf.func31, Tryf.ntmps31
    go_wp2_with fail
    go_loopw [13, 12] (fun k r wr => ((k = .int .i64 1 ∧ r = .int .i32 (13)) ∨ (k = .int .i64 2 ∧ r = .int .i32 (832 + (b1 - 128))) ∨ (k = .int .i64 3 ∧ r = .int .i32 ((832 + (b1 - 128)) * 64 + (b2 - 128)))) ∧ ∃ q, wr = w.drewN q) (fun k _ _ => 5 - (intOf k).toNat)
    case atStart => exact ⟨.inl ⟨rfl, rfl⟩, 0, rfl⟩
    case round =>
      obtain ⟨hk, qq, rfl⟩ := hrel
      rcases hk with ⟨rfl, rfl⟩ | ⟨rfl, rfl⟩ | ⟨rfl, rfl⟩
      · go_wp2_with fail
        go_roundw
        case rel => exact ⟨.inr (.inl ⟨rfl, rfl⟩), _, rfl⟩
        case measure => simp [intOf]
      · go_wp2_with fail
        go_roundw
        case rel => exact ⟨.inr (.inr (⟨rfl, rfl⟩)), _, rfl⟩
        case measure => simp [intOf]
      · go_wp2_with fail
        exact bodyPost_ret (v := .tuple #[.int .i32 ((832 + (b1 - 128)) * 64 + (b2 - 128)), .int .i64 3, .bool true]) (by simp [results, Tryf.results31, go_sem]) rfl (d31t (m := 3) (q := qq) (by have t0 := HE0.out; have t1 := HE1.out; have t2 := HE2.out; unfold Dv; omega))
  · have hln : ¬ (i : Int) + 2 < (s.size : Int) := by omega
    go_enter Tryf.func31, Tryf.ntmps31
    go_wp2_with fail
    exact bodyPost_ret (v := .tuple #[.int .i32 0, .int .i64 1, .bool false]) (by simp [results, Tryf.results31, go_sem]) rfl (d31f (q := 0) (by have t0 := HE0.out; intro r m h; unfold Dv at h; omega))
set_option maxRecDepth 100000 in
set_option maxHeartbeats 8000000 in
theorem d31f_ (s : ByteArray) (i : Nat) (hs : s.size ≤ 16777216) (hi : i < s.size) (b0 : Int) (e0 : bt s i = b0) (h0 : 225 ≤ b0) (h1 : b0 ≤ 239) (hn : (b0 == 237) = false) (w : World) : Calls Tryf.prog 31 #[.string s, .int .i64 (i : Int)] w (D31 w s i) := by
  have g0 : ∀ h' : i < s.size, ((s[i]'h').toNat : Int) = b0 := fun h' => (get_bt s i h').trans e0
  have HE0 := Lib.hid e0
  clear e0
  have iwn : IntKind.i64.wrap ((i : Int) + 2) = (i : Int) + 2 := IntWalk.i64_in _ (by omega)
  have q1 : (b0 == 224) = false := by simp; omega
  have hn2 : ¬ b0 = 237 := by simpa using hn
  by_cases hl : i + 2 < s.size
  · have hln : (i : Int) + 2 < (s.size : Int) := by omega
    have k1 : i + 1 < s.size := by omega
    have ei1 : ((i : Int) + 1).toNat = i + 1 := by omega
    have iw1 : IntKind.i64.wrap ((i : Int) + 1) = (i : Int) + 1 := IntWalk.i64_in _ (by omega)
    have hlt1 : (i : Int) + 1 < (s.size : Int) := by omega
    obtain ⟨b1, e1, x1, y1⟩ : ∃ b : Int, bt s (i + 1) = b ∧ 0 ≤ b ∧ b ≤ 255 := by
      have h1 := get_bt s (i + 1) k1
      have h2 := (s[i + 1]'k1).toNat_lt
      exact ⟨_, rfl, by omega, by omega⟩
    have g1 : ∀ h' : i + 1 < s.size, ((s[i + 1]'h').toNat : Int) = b1 := fun h' => (get_bt s (i + 1) h').trans e1
    have HE1 := Lib.hid e1
    clear e1
    have k2 : i + 2 < s.size := by omega
    have ei2 : ((i : Int) + 2).toNat = i + 2 := by omega
    have iw2 : IntKind.i64.wrap ((i : Int) + 2) = (i : Int) + 2 := IntWalk.i64_in _ (by omega)
    have hlt2 : (i : Int) + 2 < (s.size : Int) := by omega
    obtain ⟨b2, e2, x2, y2⟩ : ∃ b : Int, bt s (i + 2) = b ∧ 0 ≤ b ∧ b ≤ 255 := by
      have h1 := get_bt s (i + 2) k2
      have h2 := (s[i + 2]'k2).toNat_lt
      exact ⟨_, rfl, by omega, by omega⟩
    have g2 : ∀ h' : i + 2 < s.size, ((s[i + 2]'h').toNat : Int) = b2 := fun h' => (get_bt s (i + 2) h').trans e2
    have HE2 := Lib.hid e2
    clear e2
    have m0 : bits .and .u8 b0 15 = b0 - 224 := by rw [u8_and15 _ (by omega) (by omega)]; omega
    by_cases u1 : b1 < 128
    · skip
      go_enter Tryf.func31, Tryf.ntmps31
      go_wp2_with fail
      go_loopw [13, 12] (fun k r wr => ((k = .int .i64 1 ∧ r = .int .i32 (b0 - 224))) ∧ ∃ q, wr = w.drewN q) (fun k _ _ => 5 - (intOf k).toNat)
      case atStart => exact ⟨⟨rfl, rfl⟩, 0, rfl⟩
      case round =>
        obtain ⟨hk, qq, rfl⟩ := hrel
        obtain ⟨rfl, rfl⟩ := hk
        · go_wp2_with fail
          exact bodyPost_ret (v := .tuple #[.int .i32 0, .int .i64 1, .bool false]) (by simp [results, Tryf.results31, go_sem]) rfl (d31f (q := qq) (by have t0 := HE0.out; have t1 := HE1.out; have t2 := HE2.out; intro r m h; unfold Dv at h; omega))
    by_cases v1 : 191 < b1
    · skip
      go_enter Tryf.func31, Tryf.ntmps31
      go_wp2_with fail
      go_loopw [13, 12] (fun k r wr => ((k = .int .i64 1 ∧ r = .int .i32 (b0 - 224))) ∧ ∃ q, wr = w.drewN q) (fun k _ _ => 5 - (intOf k).toNat)
      case atStart => exact ⟨⟨rfl, rfl⟩, 0, rfl⟩
      case round =>
        obtain ⟨hk, qq, rfl⟩ := hrel
        obtain ⟨rfl, rfl⟩ := hk
        · go_wp2_with fail
          exact bodyPost_ret (v := .tuple #[.int .i32 0, .int .i64 1, .bool false]) (by simp [results, Tryf.results31, go_sem]) rfl (d31f (q := qq) (by have t0 := HE0.out; have t1 := HE1.out; have t2 := HE2.out; intro r m h; unfold Dv at h; omega))
    by_cases u2 : b2 < 128
    · skip
      have n1 : bits .and .u8 b1 63 = b1 - 128 := by rw [u8_and63 _ (by omega) (by omega)]; omega
      have s1 : IntKind.i32.wrap ((b0 - 224) * 64) = (b0 - 224) * 64 := IntWalk.i32_in _ (by omega)
      have o1 : bits .or .i32 ((b0 - 224) * 64) (b1 - 128) = (b0 - 224) * 64 + (b1 - 128) := i32_or6 _ _ (by omega) (by omega) (by omega) (by omega) (by omega)
      go_enter Tryf.func31, Tryf.ntmps31
      go_wp2_with fail
      go_loopw [13, 12] (fun k r wr => ((k = .int .i64 1 ∧ r = .int .i32 (b0 - 224)) ∨ (k = .int .i64 2 ∧ r = .int .i32 ((b0 - 224) * 64 + (b1 - 128)))) ∧ ∃ q, wr = w.drewN q) (fun k _ _ => 5 - (intOf k).toNat)
      case atStart => exact ⟨.inl ⟨rfl, rfl⟩, 0, rfl⟩
      case round =>
        obtain ⟨hk, qq, rfl⟩ := hrel
        rcases hk with ⟨rfl, rfl⟩ | ⟨rfl, rfl⟩
        · go_wp2_with fail
          go_roundw
          case rel => exact ⟨.inr (⟨rfl, rfl⟩), _, rfl⟩
          case measure => simp [intOf]
        · go_wp2_with fail
          exact bodyPost_ret (v := .tuple #[.int .i32 0, .int .i64 1, .bool false]) (by simp [results, Tryf.results31, go_sem]) rfl (d31f (q := qq) (by have t0 := HE0.out; have t1 := HE1.out; have t2 := HE2.out; intro r m h; unfold Dv at h; omega))
    by_cases v2 : 191 < b2
    · skip
      have n1 : bits .and .u8 b1 63 = b1 - 128 := by rw [u8_and63 _ (by omega) (by omega)]; omega
      have s1 : IntKind.i32.wrap ((b0 - 224) * 64) = (b0 - 224) * 64 := IntWalk.i32_in _ (by omega)
      have o1 : bits .or .i32 ((b0 - 224) * 64) (b1 - 128) = (b0 - 224) * 64 + (b1 - 128) := i32_or6 _ _ (by omega) (by omega) (by omega) (by omega) (by omega)
      go_enter Tryf.func31, Tryf.ntmps31
      go_wp2_with fail
      go_loopw [13, 12] (fun k r wr => ((k = .int .i64 1 ∧ r = .int .i32 (b0 - 224)) ∨ (k = .int .i64 2 ∧ r = .int .i32 ((b0 - 224) * 64 + (b1 - 128)))) ∧ ∃ q, wr = w.drewN q) (fun k _ _ => 5 - (intOf k).toNat)
      case atStart => exact ⟨.inl ⟨rfl, rfl⟩, 0, rfl⟩
      case round =>
        obtain ⟨hk, qq, rfl⟩ := hrel
        rcases hk with ⟨rfl, rfl⟩ | ⟨rfl, rfl⟩
        · go_wp2_with fail
          go_roundw
          case rel => exact ⟨.inr (⟨rfl, rfl⟩), _, rfl⟩
          case measure => simp [intOf]
        · go_wp2_with fail
          exact bodyPost_ret (v := .tuple #[.int .i32 0, .int .i64 1, .bool false]) (by simp [results, Tryf.results31, go_sem]) rfl (d31f (q := qq) (by have t0 := HE0.out; have t1 := HE1.out; have t2 := HE2.out; intro r m h; unfold Dv at h; omega))
    have n1 : bits .and .u8 b1 63 = b1 - 128 := by rw [u8_and63 _ (by omega) (by omega)]; omega
    have s1 : IntKind.i32.wrap ((b0 - 224) * 64) = (b0 - 224) * 64 := IntWalk.i32_in _ (by omega)
    have o1 : bits .or .i32 ((b0 - 224) * 64) (b1 - 128) = (b0 - 224) * 64 + (b1 - 128) := i32_or6 _ _ (by omega) (by omega) (by omega) (by omega) (by omega)
    have n2 : bits .and .u8 b2 63 = b2 - 128 := by rw [u8_and63 _ (by omega) (by omega)]; omega
    have s2 : IntKind.i32.wrap (((b0 - 224) * 64 + (b1 - 128)) * 64) = ((b0 - 224) * 64 + (b1 - 128)) * 64 := IntWalk.i32_in _ (by omega)
    have o2 : bits .or .i32 (((b0 - 224) * 64 + (b1 - 128)) * 64) (b2 - 128) = ((b0 - 224) * 64 + (b1 - 128)) * 64 + (b2 - 128) := i32_or6 _ _ (by omega) (by omega) (by omega) (by omega) (by omega)
    go_enter Tryf.func31, Tryf.ntmps31
    go_wp2_with fail
    go_loopw [13, 12] (fun k r wr => ((k = .int .i64 1 ∧ r = .int .i32 (b0 - 224)) ∨ (k = .int .i64 2 ∧ r = .int .i32 ((b0 - 224) * 64 + (b1 - 128))) ∨ (k = .int .i64 3 ∧ r = .int .i32 (((b0 - 224) * 64 + (b1 - 128)) * 64 + (b2 - 128)))) ∧ ∃ q, wr = w.drewN q) (fun k _ _ => 5 - (intOf k).toNat)
    case atStart => exact ⟨.inl ⟨rfl, rfl⟩, 0, rfl⟩
    case round =>
      obtain ⟨hk, qq, rfl⟩ := hrel
      rcases hk with ⟨rfl, rfl⟩ | ⟨rfl, rfl⟩ | ⟨rfl, rfl⟩
      · go_wp2_with fail
        go_roundw
        case rel => exact ⟨.inr (.inl ⟨rfl, rfl⟩), _, rfl⟩
        case measure => simp [intOf]
      · go_wp2_with fail
        go_roundw
        case rel => exact ⟨.inr (.inr (⟨rfl, rfl⟩)), _, rfl⟩
        case measure => simp [intOf]
      · go_wp2_with fail
        exact bodyPost_ret (v := .tuple #[.int .i32 (((b0 - 224) * 64 + (b1 - 128)) * 64 + (b2 - 128)), .int .i64 3, .bool true]) (by simp [results, Tryf.results31, go_sem]) rfl (d31t (m := 3) (q := qq) (by have t0 := HE0.out; have t1 := HE1.out; have t2 := HE2.out; unfold Dv; omega))
  · have hln : ¬ (i : Int) + 2 < (s.size : Int) := by omega
    go_enter Tryf.func31, Tryf.ntmps31
    go_wp2_with fail
    exact bodyPost_ret (v := .tuple #[.int .i32 0, .int .i64 1, .bool false]) (by simp [results, Tryf.results31, go_sem]) rfl (d31f (q := 0) (by have t0 := HE0.out; intro r m h; unfold Dv at h; omega))
set_option maxRecDepth 100000 in
set_option maxHeartbeats 8000000 in
theorem d31g (s : ByteArray) (i : Nat) (hs : s.size ≤ 16777216) (hi : i < s.size) (b0 : Int) (e0 : bt s i = b0) (h0 : b0 = 240) (w : World) : Calls Tryf.prog 31 #[.string s, .int .i64 (i : Int)] w (D31 w s i) := by
  have g0 : ∀ h' : i < s.size, ((s[i]'h').toNat : Int) = b0 := fun h' => (get_bt s i h').trans e0
  have HE0 := Lib.hid e0
  clear e0
  have iwn : IntKind.i64.wrap ((i : Int) + 3) = (i : Int) + 3 := IntWalk.i64_in _ (by omega)
  by_cases hl : i + 3 < s.size
  · have hln : (i : Int) + 3 < (s.size : Int) := by omega
    have k1 : i + 1 < s.size := by omega
    have ei1 : ((i : Int) + 1).toNat = i + 1 := by omega
    have iw1 : IntKind.i64.wrap ((i : Int) + 1) = (i : Int) + 1 := IntWalk.i64_in _ (by omega)
    have hlt1 : (i : Int) + 1 < (s.size : Int) := by omega
    obtain ⟨b1, e1, x1, y1⟩ : ∃ b : Int, bt s (i + 1) = b ∧ 0 ≤ b ∧ b ≤ 255 := by
      have h1 := get_bt s (i + 1) k1
      have h2 := (s[i + 1]'k1).toNat_lt
      exact ⟨_, rfl, by omega, by omega⟩
    have g1 : ∀ h' : i + 1 < s.size, ((s[i + 1]'h').toNat : Int) = b1 := fun h' => (get_bt s (i + 1) h').trans e1
    have HE1 := Lib.hid e1
    clear e1
    have k2 : i + 2 < s.size := by omega
    have ei2 : ((i : Int) + 2).toNat = i + 2 := by omega
    have iw2 : IntKind.i64.wrap ((i : Int) + 2) = (i : Int) + 2 := IntWalk.i64_in _ (by omega)
    have hlt2 : (i : Int) + 2 < (s.size : Int) := by omega
    obtain ⟨b2, e2, x2, y2⟩ : ∃ b : Int, bt s (i + 2) = b ∧ 0 ≤ b ∧ b ≤ 255 := by
      have h1 := get_bt s (i + 2) k2
      have h2 := (s[i + 2]'k2).toNat_lt
      exact ⟨_, rfl, by omega, by omega⟩
    have g2 : ∀ h' : i + 2 < s.size, ((s[i + 2]'h').toNat : Int) = b2 := fun h' => (get_bt s (i + 2) h').trans e2
    have HE2 := Lib.hid e2
    clear e2
    have k3 : i + 3 < s.size := by omega
    have ei3 : ((i : Int) + 3).toNat = i + 3 := by omega
    have iw3 : IntKind.i64.wrap ((i : Int) + 3) = (i : Int) + 3 := IntWalk.i64_in _ (by omega)
    have hlt3 : (i : Int) + 3 < (s.size : Int) := by omega
    obtain ⟨b3, e3, x3, y3⟩ : ∃ b : Int, bt s (i + 3) = b ∧ 0 ≤ b ∧ b ≤ 255 := by
      have h1 := get_bt s (i + 3) k3
      have h2 := (s[i + 3]'k3).toNat_lt
      exact ⟨_, rfl, by omega, by omega⟩
    have g3 : ∀ h' : i + 3 < s.size, ((s[i + 3]'h').toNat : Int) = b3 := fun h' => (get_bt s (i + 3) h').trans e3
    have HE3 := Lib.hid e3
    clear e3
    have m0 : bits .and .u8 b0 7 = b0 - 240 := by rw [u8_and7 _ (by omega) (by omega)]; omega
    by_cases u1 : b1 < 144
    · skip
      go_enter Tryf.func31, Tryf.ntmps31
      go_wp2_with fail
      go_loopw [13, 12] (fun k r wr => ((k = .int .i64 1 ∧ r = .int .i32 (0))) ∧ ∃ q, wr = w.drewN q) (fun k _ _ => 5 - (intOf k).toNat)
      case atStart => exact ⟨⟨rfl, rfl⟩, 0, rfl⟩
      case round =>
        obtain ⟨hk, qq, rfl⟩ := hrel
        obtain ⟨rfl, rfl⟩ := hk
        · go_wp2_with fail
          exact bodyPost_ret (v := .tuple #[.int .i32 0, .int .i64 1, .bool false]) (by simp [results, Tryf.results31, go_sem]) rfl (d31f (q := qq) (by have t0 := HE0.out; have t1 := HE1.out; have t2 := HE2.out; have t3 := HE3.out; intro r m h; unfold Dv at h; omega))
    by_cases v1 : 191 < b1
    · skip
      go_enter Tryf.func31, Tryf.ntmps31
      go_wp2_with fail
      go_loopw [13, 12] (fun k r wr => ((k = .int .i64 1 ∧ r = .int .i32 (0))) ∧ ∃ q, wr = w.drewN q) (fun k _ _ => 5 - (intOf k).toNat)
      case atStart => exact ⟨⟨rfl, rfl⟩, 0, rfl⟩
      case round =>
        obtain ⟨hk, qq, rfl⟩ := hrel
        obtain ⟨rfl, rfl⟩ := hk
        · go_wp2_with fail
          exact bodyPost_ret (v := .tuple #[.int .i32 0, .int .i64 1, .bool false]) (by simp [results, Tryf.results31, go_sem]) rfl (d31f (q := qq) (by have t0 := HE0.out; have t1 := HE1.out; have t2 := HE2.out; have t3 := HE3.out; intro r m h; unfold Dv at h; omega))
    by_cases u2 : b2 < 128
    · skip
      have n1 : bits .and .u8 b1 63 = b1 - 128 := by rw [u8_and63 _ (by omega) (by omega)]; omega
      have o1 : bits .or .i32 (0) (b1 - 128) = b1 - 128 := (i32_or6 0 (b1 - 128) (by omega) (by omega) (by omega) (by omega) (by omega)).trans (by omega)
      go_enter Tryf.func31, Tryf.ntmps31
      go_wp2_with fail
      go_loopw [13, 12] (fun k r wr => ((k = .int .i64 1 ∧ r = .int .i32 (0)) ∨ (k = .int .i64 2 ∧ r = .int .i32 (b1 - 128))) ∧ ∃ q, wr = w.drewN q) (fun k _ _ => 5 - (intOf k).toNat)
      case atStart => exact ⟨.inl ⟨rfl, rfl⟩, 0, rfl⟩
      case round =>
        obtain ⟨hk, qq, rfl⟩ := hrel
        rcases hk with ⟨rfl, rfl⟩ | ⟨rfl, rfl⟩
        · go_wp2_with fail
          go_roundw
          case rel => exact ⟨.inr (⟨rfl, rfl⟩), _, rfl⟩
          case measure => simp [intOf]
        · go_wp2_with fail
          exact bodyPost_ret (v := .tuple #[.int .i32 0, .int .i64 1, .bool false]) (by simp [results, Tryf.results31, go_sem]) rfl (d31f (q := qq) (by have t0 := HE0.out; have t1 := HE1.out; have t2 := HE2.out; have t3 := HE3.out; intro r m h; unfold Dv at h; omega))
    by_cases v2 : 191 < b2
    · skip
      have n1 : bits .and .u8 b1 63 = b1 - 128 := by rw [u8_and63 _ (by omega) (by omega)]; omega
      have o1 : bits .or .i32 (0) (b1 - 128) = b1 - 128 := (i32_or6 0 (b1 - 128) (by omega) (by omega) (by omega) (by omega) (by omega)).trans (by omega)
      go_enter Tryf.func31, Tryf.ntmps31
      go_wp2_with fail
      go_loopw [13, 12] (fun k r wr => ((k = .int .i64 1 ∧ r = .int .i32 (0)) ∨ (k = .int .i64 2 ∧ r = .int .i32 (b1 - 128))) ∧ ∃ q, wr = w.drewN q) (fun k _ _ => 5 - (intOf k).toNat)
      case atStart => exact ⟨.inl ⟨rfl, rfl⟩, 0, rfl⟩
      case round =>
        obtain ⟨hk, qq, rfl⟩ := hrel
        rcases hk with ⟨rfl, rfl⟩ | ⟨rfl, rfl⟩
        · go_wp2_with fail
          go_roundw
          case rel => exact ⟨.inr (⟨rfl, rfl⟩), _, rfl⟩
          case measure => simp [intOf]
        · go_wp2_with fail
          exact bodyPost_ret (v := .tuple #[.int .i32 0, .int .i64 1, .bool false]) (by simp [results, Tryf.results31, go_sem]) rfl (d31f (q := qq) (by have t0 := HE0.out; have t1 := HE1.out; have t2 := HE2.out; have t3 := HE3.out; intro r m h; unfold Dv at h; omega))
    by_cases u3 : b3 < 128
    · skip
      have n1 : bits .and .u8 b1 63 = b1 - 128 := by rw [u8_and63 _ (by omega) (by omega)]; omega
      have o1 : bits .or .i32 (0) (b1 - 128) = b1 - 128 := (i32_or6 0 (b1 - 128) (by omega) (by omega) (by omega) (by omega) (by omega)).trans (by omega)
      have n2 : bits .and .u8 b2 63 = b2 - 128 := by rw [u8_and63 _ (by omega) (by omega)]; omega
      have s2 : IntKind.i32.wrap ((b1 - 128) * 64) = (b1 - 128) * 64 := IntWalk.i32_in _ (by omega)
      have o2 : bits .or .i32 ((b1 - 128) * 64) (b2 - 128) = (b1 - 128) * 64 + (b2 - 128) := i32_or6 _ _ (by omega) (by omega) (by omega) (by omega) (by omega)
      go_enter Tryf.func31, Tryf.ntmps31
      go_wp2_with fail
      go_loopw [13, 12] (fun k r wr => ((k = .int .i64 1 ∧ r = .int .i32 (0)) ∨ (k = .int .i64 2 ∧ r = .int .i32 (b1 - 128)) ∨ (k = .int .i64 3 ∧ r = .int .i32 ((b1 - 128) * 64 + (b2 - 128)))) ∧ ∃ q, wr = w.drewN q) (fun k _ _ => 5 - (intOf k).toNat)
      case atStart => exact ⟨.inl ⟨rfl, rfl⟩, 0, rfl⟩
      case round =>
        obtain ⟨hk, qq, rfl⟩ := hrel
        rcases hk with ⟨rfl, rfl⟩ | ⟨rfl, rfl⟩ | ⟨rfl, rfl⟩
        · go_wp2_with fail
          go_roundw
          case rel => exact ⟨.inr (.inl ⟨rfl, rfl⟩), _, rfl⟩
          case measure => simp [intOf]
        · go_wp2_with fail
          go_roundw
          case rel => exact ⟨.inr (.inr (⟨rfl, rfl⟩)), _, rfl⟩
          case measure => simp [intOf]
        · go_wp2_with fail
          exact bodyPost_ret (v := .tuple #[.int .i32 0, .int .i64 1, .bool false]) (by simp [results, Tryf.results31, go_sem]) rfl (d31f (q := qq) (by have t0 := HE0.out; have t1 := HE1.out; have t2 := HE2.out; have t3 := HE3.out; intro r m h; unfold Dv at h; omega))
    by_cases v3 : 191 < b3
    · skip
      have n1 : bits .and .u8 b1 63 = b1 - 128 := by rw [u8_and63 _ (by omega) (by omega)]; omega
      have o1 : bits .or .i32 (0) (b1 - 128) = b1 - 128 := (i32_or6 0 (b1 - 128) (by omega) (by omega) (by omega) (by omega) (by omega)).trans (by omega)
      have n2 : bits .and .u8 b2 63 = b2 - 128 := by rw [u8_and63 _ (by omega) (by omega)]; omega
      have s2 : IntKind.i32.wrap ((b1 - 128) * 64) = (b1 - 128) * 64 := IntWalk.i32_in _ (by omega)
      have o2 : bits .or .i32 ((b1 - 128) * 64) (b2 - 128) = (b1 - 128) * 64 + (b2 - 128) := i32_or6 _ _ (by omega) (by omega) (by omega) (by omega) (by omega)
      go_enter Tryf.func31, Tryf.ntmps31
      go_wp2_with fail
      go_loopw [13, 12] (fun k r wr => ((k = .int .i64 1 ∧ r = .int .i32 (0)) ∨ (k = .int .i64 2 ∧ r = .int .i32 (b1 - 128)) ∨ (k = .int .i64 3 ∧ r = .int .i32 ((b1 - 128) * 64 + (b2 - 128)))) ∧ ∃ q, wr = w.drewN q) (fun k _ _ => 5 - (intOf k).toNat)
      case atStart => exact ⟨.inl ⟨rfl, rfl⟩, 0, rfl⟩
      case round =>
        obtain ⟨hk, qq, rfl⟩ := hrel
        rcases hk with ⟨rfl, rfl⟩ | ⟨rfl, rfl⟩ | ⟨rfl, rfl⟩
        · go_wp2_with fail
          go_roundw
          case rel => exact ⟨.inr (.inl ⟨rfl, rfl⟩), _, rfl⟩
          case measure => simp [intOf]
        · go_wp2_with fail
          go_roundw
          case rel => exact ⟨.inr (.inr (⟨rfl, rfl⟩)), _, rfl⟩
          case measure => simp [intOf]
        · go_wp2_with fail
          exact bodyPost_ret (v := .tuple #[.int .i32 0, .int .i64 1, .bool false]) (by simp [results, Tryf.results31, go_sem]) rfl (d31f (q := qq) (by have t0 := HE0.out; have t1 := HE1.out; have t2 := HE2.out; have t3 := HE3.out; intro r m h; unfold Dv at h; omega))
    have n1 : bits .and .u8 b1 63 = b1 - 128 := by rw [u8_and63 _ (by omega) (by omega)]; omega
    have o1 : bits .or .i32 (0) (b1 - 128) = b1 - 128 := (i32_or6 0 (b1 - 128) (by omega) (by omega) (by omega) (by omega) (by omega)).trans (by omega)
    have n2 : bits .and .u8 b2 63 = b2 - 128 := by rw [u8_and63 _ (by omega) (by omega)]; omega
    have s2 : IntKind.i32.wrap ((b1 - 128) * 64) = (b1 - 128) * 64 := IntWalk.i32_in _ (by omega)
    have o2 : bits .or .i32 ((b1 - 128) * 64) (b2 - 128) = (b1 - 128) * 64 + (b2 - 128) := i32_or6 _ _ (by omega) (by omega) (by omega) (by omega) (by omega)
    have n3 : bits .and .u8 b3 63 = b3 - 128 := by rw [u8_and63 _ (by omega) (by omega)]; omega
    have s3 : IntKind.i32.wrap (((b1 - 128) * 64 + (b2 - 128)) * 64) = ((b1 - 128) * 64 + (b2 - 128)) * 64 := IntWalk.i32_in _ (by omega)
    have o3 : bits .or .i32 (((b1 - 128) * 64 + (b2 - 128)) * 64) (b3 - 128) = ((b1 - 128) * 64 + (b2 - 128)) * 64 + (b3 - 128) := i32_or6 _ _ (by omega) (by omega) (by omega) (by omega) (by omega)
    go_enter Tryf.func31, Tryf.ntmps31
    go_wp2_with fail
    go_loopw [13, 12] (fun k r wr => ((k = .int .i64 1 ∧ r = .int .i32 (0)) ∨ (k = .int .i64 2 ∧ r = .int .i32 (b1 - 128)) ∨ (k = .int .i64 3 ∧ r = .int .i32 ((b1 - 128) * 64 + (b2 - 128))) ∨ (k = .int .i64 4 ∧ r = .int .i32 (((b1 - 128) * 64 + (b2 - 128)) * 64 + (b3 - 128)))) ∧ ∃ q, wr = w.drewN q) (fun k _ _ => 5 - (intOf k).toNat)
    case atStart => exact ⟨.inl ⟨rfl, rfl⟩, 0, rfl⟩
    case round =>
      obtain ⟨hk, qq, rfl⟩ := hrel
      rcases hk with ⟨rfl, rfl⟩ | ⟨rfl, rfl⟩ | ⟨rfl, rfl⟩ | ⟨rfl, rfl⟩
      · go_wp2_with fail
        go_roundw
        case rel => exact ⟨.inr (.inl ⟨rfl, rfl⟩), _, rfl⟩
        case measure => simp [intOf]
      · go_wp2_with fail
        go_roundw
        case rel => exact ⟨.inr (.inr (.inl ⟨rfl, rfl⟩)), _, rfl⟩
        case measure => simp [intOf]
      · go_wp2_with fail
        go_roundw
        case rel => exact ⟨.inr (.inr (.inr (⟨rfl, rfl⟩))), _, rfl⟩
        case measure => simp [intOf]
      · go_wp2_with fail
        exact bodyPost_ret (v := .tuple #[.int .i32 (((b1 - 128) * 64 + (b2 - 128)) * 64 + (b3 - 128)), .int .i64 4, .bool true]) (by simp [results, Tryf.results31, go_sem]) rfl (d31t (m := 4) (q := qq) (by have t0 := HE0.out; have t1 := HE1.out; have t2 := HE2.out; have t3 := HE3.out; unfold Dv; omega))
  · have hln : ¬ (i : Int) + 3 < (s.size : Int) := by omega
    go_enter Tryf.func31, Tryf.ntmps31
    go_wp2_with fail
    exact bodyPost_ret (v := .tuple #[.int .i32 0, .int .i64 1, .bool false]) (by simp [results, Tryf.results31, go_sem]) rfl (d31f (q := 0) (by have t0 := HE0.out; intro r m h; unfold Dv at h; omega))
set_option maxRecDepth 100000 in
set_option maxHeartbeats 8000000 in
theorem d31h (s : ByteArray) (i : Nat) (hs : s.size ≤ 16777216) (hi : i < s.size) (b0 : Int) (e0 : bt s i = b0) (h0 : b0 = 244) (w : World) : Calls Tryf.prog 31 #[.string s, .int .i64 (i : Int)] w (D31 w s i) := by
  have g0 : ∀ h' : i < s.size, ((s[i]'h').toNat : Int) = b0 := fun h' => (get_bt s i h').trans e0
  have HE0 := Lib.hid e0
  clear e0
  have iwn : IntKind.i64.wrap ((i : Int) + 3) = (i : Int) + 3 := IntWalk.i64_in _ (by omega)
  by_cases hl : i + 3 < s.size
  · have hln : (i : Int) + 3 < (s.size : Int) := by omega
    have k1 : i + 1 < s.size := by omega
    have ei1 : ((i : Int) + 1).toNat = i + 1 := by omega
    have iw1 : IntKind.i64.wrap ((i : Int) + 1) = (i : Int) + 1 := IntWalk.i64_in _ (by omega)
    have hlt1 : (i : Int) + 1 < (s.size : Int) := by omega
    obtain ⟨b1, e1, x1, y1⟩ : ∃ b : Int, bt s (i + 1) = b ∧ 0 ≤ b ∧ b ≤ 255 := by
      have h1 := get_bt s (i + 1) k1
      have h2 := (s[i + 1]'k1).toNat_lt
      exact ⟨_, rfl, by omega, by omega⟩
    have g1 : ∀ h' : i + 1 < s.size, ((s[i + 1]'h').toNat : Int) = b1 := fun h' => (get_bt s (i + 1) h').trans e1
    have HE1 := Lib.hid e1
    clear e1
    have k2 : i + 2 < s.size := by omega
    have ei2 : ((i : Int) + 2).toNat = i + 2 := by omega
    have iw2 : IntKind.i64.wrap ((i : Int) + 2) = (i : Int) + 2 := IntWalk.i64_in _ (by omega)
    have hlt2 : (i : Int) + 2 < (s.size : Int) := by omega
    obtain ⟨b2, e2, x2, y2⟩ : ∃ b : Int, bt s (i + 2) = b ∧ 0 ≤ b ∧ b ≤ 255 := by
      have h1 := get_bt s (i + 2) k2
      have h2 := (s[i + 2]'k2).toNat_lt
      exact ⟨_, rfl, by omega, by omega⟩
    have g2 : ∀ h' : i + 2 < s.size, ((s[i + 2]'h').toNat : Int) = b2 := fun h' => (get_bt s (i + 2) h').trans e2
    have HE2 := Lib.hid e2
    clear e2
    have k3 : i + 3 < s.size := by omega
    have ei3 : ((i : Int) + 3).toNat = i + 3 := by omega
    have iw3 : IntKind.i64.wrap ((i : Int) + 3) = (i : Int) + 3 := IntWalk.i64_in _ (by omega)
    have hlt3 : (i : Int) + 3 < (s.size : Int) := by omega
    obtain ⟨b3, e3, x3, y3⟩ : ∃ b : Int, bt s (i + 3) = b ∧ 0 ≤ b ∧ b ≤ 255 := by
      have h1 := get_bt s (i + 3) k3
      have h2 := (s[i + 3]'k3).toNat_lt
      exact ⟨_, rfl, by omega, by omega⟩
    have g3 : ∀ h' : i + 3 < s.size, ((s[i + 3]'h').toNat : Int) = b3 := fun h' => (get_bt s (i + 3) h').trans e3
    have HE3 := Lib.hid e3
    clear e3
    have m0 : bits .and .u8 b0 7 = b0 - 240 := by rw [u8_and7 _ (by omega) (by omega)]; omega
    by_cases u1 : b1 < 128
    · skip
      go_enter Tryf.func31, Tryf.ntmps31
      go_wp2_with fail
      go_loopw [13, 12] (fun k r wr => ((k = .int .i64 1 ∧ r = .int .i32 (4))) ∧ ∃ q, wr = w.drewN q) (fun k _ _ => 5 - (intOf k).toNat)
      case atStart => exact ⟨⟨rfl, rfl⟩, 0, rfl⟩
      case round =>
        obtain ⟨hk, qq, rfl⟩ := hrel
        obtain ⟨rfl, rfl⟩ := hk
        · go_wp2_with fail
          exact bodyPost_ret (v := .tuple #[.int .i32 0, .int .i64 1, .bool false]) (by simp [results, Tryf.results31, go_sem]) rfl (d31f (q := qq) (by have t0 := HE0.out; have t1 := HE1.out; have t2 := HE2.out; have t3 := HE3.out; intro r m h; unfold Dv at h; omega))
    by_cases v1 : 143 < b1
    · skip
      go_enter Tryf.func31, Tryf.ntmps31
      go_wp2_with fail
      go_loopw [13, 12] (fun k r wr => ((k = .int .i64 1 ∧ r = .int .i32 (4))) ∧ ∃ q, wr = w.drewN q) (fun k _ _ => 5 - (intOf k).toNat)
      case atStart => exact ⟨⟨rfl, rfl⟩, 0, rfl⟩
      case round =>
        obtain ⟨hk, qq, rfl⟩ := hrel
        obtain ⟨rfl, rfl⟩ := hk
        · go_wp2_with fail
          exact bodyPost_ret (v := .tuple #[.int .i32 0, .int .i64 1, .bool false]) (by simp [results, Tryf.results31, go_sem]) rfl (d31f (q := qq) (by have t0 := HE0.out; have t1 := HE1.out; have t2 := HE2.out; have t3 := HE3.out; intro r m h; unfold Dv at h; omega))
    by_cases u2 : b2 < 128
    · skip
      have n1 : bits .and .u8 b1 63 = b1 - 128 := by rw [u8_and63 _ (by omega) (by omega)]; omega
      have o1 : bits .or .i32 (256) (b1 - 128) = 256 + (b1 - 128) := i32_or6 _ _ (by omega) (by omega) (by omega) (by omega) (by omega)
      go_enter Tryf.func31, Tryf.ntmps31
      go_wp2_with fail
      go_loopw [13, 12] (fun k r wr => ((k = .int .i64 1 ∧ r = .int .i32 (4)) ∨ (k = .int .i64 2 ∧ r = .int .i32 (256 + (b1 - 128)))) ∧ ∃ q, wr = w.drewN q) (fun k _ _ => 5 - (intOf k).toNat)
      case atStart => exact ⟨.inl ⟨rfl, rfl⟩, 0, rfl⟩
      case round =>
        obtain ⟨hk, qq, rfl⟩ := hrel
        rcases hk with ⟨rfl, rfl⟩ | ⟨rfl, rfl⟩
        · go_wp2_with fail
          go_roundw
          case rel => exact ⟨.inr (⟨rfl, rfl⟩), _, rfl⟩
          case measure => simp [intOf]
        · go_wp2_with fail
          exact bodyPost_ret (v := .tuple #[.int .i32 0, .int .i64 1, .bool false]) (by simp [results, Tryf.results31, go_sem]) rfl (d31f (q := qq) (by have t0 := HE0.out; have t1 := HE1.out; have t2 := HE2.out; have t3 := HE3.out; intro r m h; unfold Dv at h; omega))
    by_cases v2 : 191 < b2
    · skip
      have n1 : bits .and .u8 b1 63 = b1 - 128 := by rw [u8_and63 _ (by omega) (by omega)]; omega
      have o1 : bits .or .i32 (256) (b1 - 128) = 256 + (b1 - 128) := i32_or6 _ _ (by omega) (by omega) (by omega) (by omega) (by omega)
      go_enter Tryf.func31, Tryf.ntmps31
      go_wp2_with fail
      go_loopw [13, 12] (fun k r wr => ((k = .int .i64 1 ∧ r = .int .i32 (4)) ∨ (k = .int .i64 2 ∧ r = .int .i32 (256 + (b1 - 128)))) ∧ ∃ q, wr = w.drewN q) (fun k _ _ => 5 - (intOf k).toNat)
      case atStart => exact ⟨.inl ⟨rfl, rfl⟩, 0, rfl⟩
      case round =>
        obtain ⟨hk, qq, rfl⟩ := hrel
        rcases hk with ⟨rfl, rfl⟩ | ⟨rfl, rfl⟩
        · go_wp2_with fail
          go_roundw
          case rel => exact ⟨.inr (⟨rfl, rfl⟩), _, rfl⟩
          case measure => simp [intOf]
        · go_wp2_with fail
          exact bodyPost_ret (v := .tuple #[.int .i32 0, .int .i64 1, .bool false]) (by simp [results, Tryf.results31, go_sem]) rfl (d31f (q := qq) (by have t0 := HE0.out; have t1 := HE1.out; have t2 := HE2.out; have t3 := HE3.out; intro r m h; unfold Dv at h; omega))
    by_cases u3 : b3 < 128
    · skip
      have n1 : bits .and .u8 b1 63 = b1 - 128 := by rw [u8_and63 _ (by omega) (by omega)]; omega
      have o1 : bits .or .i32 (256) (b1 - 128) = 256 + (b1 - 128) := i32_or6 _ _ (by omega) (by omega) (by omega) (by omega) (by omega)
      have n2 : bits .and .u8 b2 63 = b2 - 128 := by rw [u8_and63 _ (by omega) (by omega)]; omega
      have s2 : IntKind.i32.wrap ((256 + (b1 - 128)) * 64) = (256 + (b1 - 128)) * 64 := IntWalk.i32_in _ (by omega)
      have o2 : bits .or .i32 ((256 + (b1 - 128)) * 64) (b2 - 128) = (256 + (b1 - 128)) * 64 + (b2 - 128) := i32_or6 _ _ (by omega) (by omega) (by omega) (by omega) (by omega)
      go_enter Tryf.func31, Tryf.ntmps31
      go_wp2_with fail
      go_loopw [13, 12] (fun k r wr => ((k = .int .i64 1 ∧ r = .int .i32 (4)) ∨ (k = .int .i64 2 ∧ r = .int .i32 (256 + (b1 - 128))) ∨ (k = .int .i64 3 ∧ r = .int .i32 ((256 + (b1 - 128)) * 64 + (b2 - 128)))) ∧ ∃ q, wr = w.drewN q) (fun k _ _ => 5 - (intOf k).toNat)
      case atStart => exact ⟨.inl ⟨rfl, rfl⟩, 0, rfl⟩
      case round =>
        obtain ⟨hk, qq, rfl⟩ := hrel
        rcases hk with ⟨rfl, rfl⟩ | ⟨rfl, rfl⟩ | ⟨rfl, rfl⟩
        · go_wp2_with fail
          go_roundw
          case rel => exact ⟨.inr (.inl ⟨rfl, rfl⟩), _, rfl⟩
          case measure => simp [intOf]
        · go_wp2_with fail
          go_roundw
          case rel => exact ⟨.inr (.inr (⟨rfl, rfl⟩)), _, rfl⟩
          case measure => simp [intOf]
        · go_wp2_with fail
          exact bodyPost_ret (v := .tuple #[.int .i32 0, .int .i64 1, .bool false]) (by simp [results, Tryf.results31, go_sem]) rfl (d31f (q := qq) (by have t0 := HE0.out; have t1 := HE1.out; have t2 := HE2.out; have t3 := HE3.out; intro r m h; unfold Dv at h; omega))
    by_cases v3 : 191 < b3
    · skip
      have n1 : bits .and .u8 b1 63 = b1 - 128 := by rw [u8_and63 _ (by omega) (by omega)]; omega
      have o1 : bits .or .i32 (256) (b1 - 128) = 256 + (b1 - 128) := i32_or6 _ _ (by omega) (by omega) (by omega) (by omega) (by omega)
      have n2 : bits .and .u8 b2 63 = b2 - 128 := by rw [u8_and63 _ (by omega) (by omega)]; omega
      have s2 : IntKind.i32.wrap ((256 + (b1 - 128)) * 64) = (256 + (b1 - 128)) * 64 := IntWalk.i32_in _ (by omega)
      have o2 : bits .or .i32 ((256 + (b1 - 128)) * 64) (b2 - 128) = (256 + (b1 - 128)) * 64 + (b2 - 128) := i32_or6 _ _ (by omega) (by omega) (by omega) (by omega) (by omega)
      go_enter Tryf.func31, Tryf.ntmps31
      go_wp2_with fail
      go_loopw [13, 12] (fun k r wr => ((k = .int .i64 1 ∧ r = .int .i32 (4)) ∨ (k = .int .i64 2 ∧ r = .int .i32 (256 + (b1 - 128))) ∨ (k = .int .i64 3 ∧ r = .int .i32 ((256 + (b1 - 128)) * 64 + (b2 - 128)))) ∧ ∃ q, wr = w.drewN q) (fun k _ _ => 5 - (intOf k).toNat)
      case atStart => exact ⟨.inl ⟨rfl, rfl⟩, 0, rfl⟩
      case round =>
        obtain ⟨hk, qq, rfl⟩ := hrel
        rcases hk with ⟨rfl, rfl⟩ | ⟨rfl, rfl⟩ | ⟨rfl, rfl⟩
        · go_wp2_with fail
          go_roundw
          case rel => exact ⟨.inr (.inl ⟨rfl, rfl⟩), _, rfl⟩
          case measure => simp [intOf]
        · go_wp2_with fail
          go_roundw
          case rel => exact ⟨.inr (.inr (⟨rfl, rfl⟩)), _, rfl⟩
          case measure => simp [intOf]
        · go_wp2_with fail
          exact bodyPost_ret (v := .tuple #[.int .i32 0, .int .i64 1, .bool false]) (by simp [results, Tryf.results31, go_sem]) rfl (d31f (q := qq) (by have t0 := HE0.out; have t1 := HE1.out; have t2 := HE2.out; have t3 := HE3.out; intro r m h; unfold Dv at h; omega))
    have n1 : bits .and .u8 b1 63 = b1 - 128 := by rw [u8_and63 _ (by omega) (by omega)]; omega
    have o1 : bits .or .i32 (256) (b1 - 128) = 256 + (b1 - 128) := i32_or6 _ _ (by omega) (by omega) (by omega) (by omega) (by omega)
    have n2 : bits .and .u8 b2 63 = b2 - 128 := by rw [u8_and63 _ (by omega) (by omega)]; omega
    have s2 : IntKind.i32.wrap ((256 + (b1 - 128)) * 64) = (256 + (b1 - 128)) * 64 := IntWalk.i32_in _ (by omega)
    have o2 : bits .or .i32 ((256 + (b1 - 128)) * 64) (b2 - 128) = (256 + (b1 - 128)) * 64 + (b2 - 128) := i32_or6 _ _ (by omega) (by omega) (by omega) (by omega) (by omega)
    have n3 : bits .and .u8 b3 63 = b3 - 128 := by rw [u8_and63 _ (by omega) (by omega)]; omega
    have s3 : IntKind.i32.wrap (((256 + (b1 - 128)) * 64 + (b2 - 128)) * 64) = ((256 + (b1 - 128)) * 64 + (b2 - 128)) * 64 := IntWalk.i32_in _ (by omega)
    have o3 : bits .or .i32 (((256 + (b1 - 128)) * 64 + (b2 - 128)) * 64) (b3 - 128) = ((256 + (b1 - 128)) * 64 + (b2 - 128)) * 64 + (b3 - 128) := i32_or6 _ _ (by omega) (by omega) (by omega) (by omega) (by omega)
    go_enter Tryf.func31, Tryf.ntmps31
    go_wp2_with fail
    go_loopw [13, 12] (fun k r wr => ((k = .int .i64 1 ∧ r = .int .i32 (4)) ∨ (k = .int .i64 2 ∧ r = .int .i32 (256 + (b1 - 128))) ∨ (k = .int .i64 3 ∧ r = .int .i32 ((256 + (b1 - 128)) * 64 + (b2 - 128))) ∨ (k = .int .i64 4 ∧ r = .int .i32 (((256 + (b1 - 128)) * 64 + (b2 - 128)) * 64 + (b3 - 128)))) ∧ ∃ q, wr = w.drewN q) (fun k _ _ => 5 - (intOf k).toNat)
    case atStart => exact ⟨.inl ⟨rfl, rfl⟩, 0, rfl⟩
    case round =>
      obtain ⟨hk, qq, rfl⟩ := hrel
      rcases hk with ⟨rfl, rfl⟩ | ⟨rfl, rfl⟩ | ⟨rfl, rfl⟩ | ⟨rfl, rfl⟩
      · go_wp2_with fail
        go_roundw
        case rel => exact ⟨.inr (.inl ⟨rfl, rfl⟩), _, rfl⟩
        case measure => simp [intOf]
      · go_wp2_with fail
        go_roundw
        case rel => exact ⟨.inr (.inr (.inl ⟨rfl, rfl⟩)), _, rfl⟩
        case measure => simp [intOf]
      · go_wp2_with fail
        go_roundw
        case rel => exact ⟨.inr (.inr (.inr (⟨rfl, rfl⟩))), _, rfl⟩
        case measure => simp [intOf]
      · go_wp2_with fail
        exact bodyPost_ret (v := .tuple #[.int .i32 (((256 + (b1 - 128)) * 64 + (b2 - 128)) * 64 + (b3 - 128)), .int .i64 4, .bool true]) (by simp [results, Tryf.results31, go_sem]) rfl (d31t (m := 4) (q := qq) (by have t0 := HE0.out; have t1 := HE1.out; have t2 := HE2.out; have t3 := HE3.out; unfold Dv; omega))
  · have hln : ¬ (i : Int) + 3 < (s.size : Int) := by omega
    go_enter Tryf.func31, Tryf.ntmps31
    go_wp2_with fail
    exact bodyPost_ret (v := .tuple #[.int .i32 0, .int .i64 1, .bool false]) (by simp [results, Tryf.results31, go_sem]) rfl (d31f (q := 0) (by have t0 := HE0.out; intro r m h; unfold Dv at h; omega))
set_option maxRecDepth 100000 in
set_option maxHeartbeats 8000000 in
theorem d31i (s : ByteArray) (i : Nat) (hs : s.size ≤ 16777216) (hi : i < s.size) (b0 : Int) (e0 : bt s i = b0) (h0 : 241 ≤ b0) (h1 : b0 ≤ 243) (w : World) : Calls Tryf.prog 31 #[.string s, .int .i64 (i : Int)] w (D31 w s i) := by
  have g0 : ∀ h' : i < s.size, ((s[i]'h').toNat : Int) = b0 := fun h' => (get_bt s i h').trans e0
  have HE0 := Lib.hid e0
  clear e0
  have iwn : IntKind.i64.wrap ((i : Int) + 3) = (i : Int) + 3 := IntWalk.i64_in _ (by omega)
  have q1 : (b0 == 240) = false := by simp; omega
  have q2 : (b0 == 244) = false := by simp; omega
  by_cases hl : i + 3 < s.size
  · have hln : (i : Int) + 3 < (s.size : Int) := by omega
    have k1 : i + 1 < s.size := by omega
    have ei1 : ((i : Int) + 1).toNat = i + 1 := by omega
    have iw1 : IntKind.i64.wrap ((i : Int) + 1) = (i : Int) + 1 := IntWalk.i64_in _ (by omega)
    have hlt1 : (i : Int) + 1 < (s.size : Int) := by omega
    obtain ⟨b1, e1, x1, y1⟩ : ∃ b : Int, bt s (i + 1) = b ∧ 0 ≤ b ∧ b ≤ 255 := by
      have h1 := get_bt s (i + 1) k1
      have h2 := (s[i + 1]'k1).toNat_lt
      exact ⟨_, rfl, by omega, by omega⟩
    have g1 : ∀ h' : i + 1 < s.size, ((s[i + 1]'h').toNat : Int) = b1 := fun h' => (get_bt s (i + 1) h').trans e1
    have HE1 := Lib.hid e1
    clear e1
    have k2 : i + 2 < s.size := by omega
    have ei2 : ((i : Int) + 2).toNat = i + 2 := by omega
    have iw2 : IntKind.i64.wrap ((i : Int) + 2) = (i : Int) + 2 := IntWalk.i64_in _ (by omega)
    have hlt2 : (i : Int) + 2 < (s.size : Int) := by omega
    obtain ⟨b2, e2, x2, y2⟩ : ∃ b : Int, bt s (i + 2) = b ∧ 0 ≤ b ∧ b ≤ 255 := by
      have h1 := get_bt s (i + 2) k2
      have h2 := (s[i + 2]'k2).toNat_lt
      exact ⟨_, rfl, by omega, by omega⟩
    have g2 : ∀ h' : i + 2 < s.size, ((s[i + 2]'h').toNat : Int) = b2 := fun h' => (get_bt s (i + 2) h').trans e2
    have HE2 := Lib.hid e2
    clear e2
    have k3 : i + 3 < s.size := by omega
    have ei3 : ((i : Int) + 3).toNat = i + 3 := by omega
    have iw3 : IntKind.i64.wrap ((i : Int) + 3) = (i : Int) + 3 := IntWalk.i64_in _ (by omega)
    have hlt3 : (i : Int) + 3 < (s.size : Int) := by omega
    obtain ⟨b3, e3, x3, y3⟩ : ∃ b : Int, bt s (i + 3) = b ∧ 0 ≤ b ∧ b ≤ 255 := by
      have h1 := get_bt s (i + 3) k3
      have h2 := (s[i + 3]'k3).toNat_lt
      exact ⟨_, rfl, by omega, by omega⟩
    have g3 : ∀ h' : i + 3 < s.size, ((s[i + 3]'h').toNat : Int) = b3 := fun h' => (get_bt s (i + 3) h').trans e3
    have HE3 := Lib.hid e3
    clear e3
    have m0 : bits .and .u8 b0 7 = b0 - 240 := by rw [u8_and7 _ (by omega) (by omega)]; omega
    by_cases u1 : b1 < 128
    · skip
      go_enter Tryf.func31, Tryf.ntmps31
      go_wp2_with fail
      go_loopw [13, 12] (fun k r wr => ((k = .int .i64 1 ∧ r = .int .i32 (b0 - 240))) ∧ ∃ q, wr = w.drewN q) (fun k _ _ => 5 - (intOf k).toNat)
      case atStart => exact ⟨⟨rfl, rfl⟩, 0, rfl⟩
      case round =>
        obtain ⟨hk, qq, rfl⟩ := hrel
        obtain ⟨rfl, rfl⟩ := hk
        · go_wp2_with fail
          exact bodyPost_ret (v := .tuple #[.int .i32 0, .int .i64 1, .bool false]) (by simp [results, Tryf.results31, go_sem]) rfl (d31f (q := qq) (by have t0 := HE0.out; have t1 := HE1.out; have t2 := HE2.out; have t3 := HE3.out; intro r m h; unfold Dv at h; omega))
    by_cases v1 : 191 < b1
    · skip
      go_enter Tryf.func31, Tryf.ntmps31
      go_wp2_with fail
      go_loopw [13, 12] (fun k r wr => ((k = .int .i64 1 ∧ r = .int .i32 (b0 - 240))) ∧ ∃ q, wr = w.drewN q) (fun k _ _ => 5 - (intOf k).toNat)
      case atStart => exact ⟨⟨rfl, rfl⟩, 0, rfl⟩
      case round =>
        obtain ⟨hk, qq, rfl⟩ := hrel
        obtain ⟨rfl, rfl⟩ := hk
        · go_wp2_with fail
          exact bodyPost_ret (v := .tuple #[.int .i32 0, .int .i64 1, .bool false]) (by simp [results, Tryf.results31, go_sem]) rfl (d31f (q := qq) (by have t0 := HE0.out; have t1 := HE1.out; have t2 := HE2.out; have t3 := HE3.out; intro r m h; unfold Dv at h; omega))
    by_cases u2 : b2 < 128
    · skip
      have n1 : bits .and .u8 b1 63 = b1 - 128 := by rw [u8_and63 _ (by omega) (by omega)]; omega
      have s1 : IntKind.i32.wrap ((b0 - 240) * 64) = (b0 - 240) * 64 := IntWalk.i32_in _ (by omega)
      have o1 : bits .or .i32 ((b0 - 240) * 64) (b1 - 128) = (b0 - 240) * 64 + (b1 - 128) := i32_or6 _ _ (by omega) (by omega) (by omega) (by omega) (by omega)
      go_enter Tryf.func31, Tryf.ntmps31
      go_wp2_with fail
      go_loopw [13, 12] (fun k r wr => ((k = .int .i64 1 ∧ r = .int .i32 (b0 - 240)) ∨ (k = .int .i64 2 ∧ r = .int .i32 ((b0 - 240) * 64 + (b1 - 128)))) ∧ ∃ q, wr = w.drewN q) (fun k _ _ => 5 - (intOf k).toNat)
      case atStart => exact ⟨.inl ⟨rfl, rfl⟩, 0, rfl⟩
      case round =>
        obtain ⟨hk, qq, rfl⟩ := hrel
        rcases hk with ⟨rfl, rfl⟩ | ⟨rfl, rfl⟩
        · go_wp2_with fail
          go_roundw
          case rel => exact ⟨.inr (⟨rfl, rfl⟩), _, rfl⟩
          case measure => simp [intOf]
        · go_wp2_with fail
          exact bodyPost_ret (v := .tuple #[.int .i32 0, .int .i64 1, .bool false]) (by simp [results, Tryf.results31, go_sem]) rfl (d31f (q := qq) (by have t0 := HE0.out; have t1 := HE1.out; have t2 := HE2.out; have t3 := HE3.out; intro r m h; unfold Dv at h; omega))
    by_cases v2 : 191 < b2
    · skip
      have n1 : bits .and .u8 b1 63 = b1 - 128 := by rw [u8_and63 _ (by omega) (by omega)]; omega
      have s1 : IntKind.i32.wrap ((b0 - 240) * 64) = (b0 - 240) * 64 := IntWalk.i32_in _ (by omega)
      have o1 : bits .or .i32 ((b0 - 240) * 64) (b1 - 128) = (b0 - 240) * 64 + (b1 - 128) := i32_or6 _ _ (by omega) (by omega) (by omega) (by omega) (by omega)
      go_enter Tryf.func31, Tryf.ntmps31
      go_wp2_with fail
      go_loopw [13, 12] (fun k r wr => ((k = .int .i64 1 ∧ r = .int .i32 (b0 - 240)) ∨ (k = .int .i64 2 ∧ r = .int .i32 ((b0 - 240) * 64 + (b1 - 128)))) ∧ ∃ q, wr = w.drewN q) (fun k _ _ => 5 - (intOf k).toNat)
      case atStart => exact ⟨.inl ⟨rfl, rfl⟩, 0, rfl⟩
      case round =>
        obtain ⟨hk, qq, rfl⟩ := hrel
        rcases hk with ⟨rfl, rfl⟩ | ⟨rfl, rfl⟩
        · go_wp2_with fail
          go_roundw
          case rel => exact ⟨.inr (⟨rfl, rfl⟩), _, rfl⟩
          case measure => simp [intOf]
        · go_wp2_with fail
          exact bodyPost_ret (v := .tuple #[.int .i32 0, .int .i64 1, .bool false]) (by simp [results, Tryf.results31, go_sem]) rfl (d31f (q := qq) (by have t0 := HE0.out; have t1 := HE1.out; have t2 := HE2.out; have t3 := HE3.out; intro r m h; unfold Dv at h; omega))
    by_cases u3 : b3 < 128
    · skip
      have n1 : bits .and .u8 b1 63 = b1 - 128 := by rw [u8_and63 _ (by omega) (by omega)]; omega
      have s1 : IntKind.i32.wrap ((b0 - 240) * 64) = (b0 - 240) * 64 := IntWalk.i32_in _ (by omega)
      have o1 : bits .or .i32 ((b0 - 240) * 64) (b1 - 128) = (b0 - 240) * 64 + (b1 - 128) := i32_or6 _ _ (by omega) (by omega) (by omega) (by omega) (by omega)
      have n2 : bits .and .u8 b2 63 = b2 - 128 := by rw [u8_and63 _ (by omega) (by omega)]; omega
      have s2 : IntKind.i32.wrap (((b0 - 240) * 64 + (b1 - 128)) * 64) = ((b0 - 240) * 64 + (b1 - 128)) * 64 := IntWalk.i32_in _ (by omega)
      have o2 : bits .or .i32 (((b0 - 240) * 64 + (b1 - 128)) * 64) (b2 - 128) = ((b0 - 240) * 64 + (b1 - 128)) * 64 + (b2 - 128) := i32_or6 _ _ (by omega) (by omega) (by omega) (by omega) (by omega)
      go_enter Tryf.func31, Tryf.ntmps31
      go_wp2_with fail
      go_loopw [13, 12] (fun k r wr => ((k = .int .i64 1 ∧ r = .int .i32 (b0 - 240)) ∨ (k = .int .i64 2 ∧ r = .int .i32 ((b0 - 240) * 64 + (b1 - 128))) ∨ (k = .int .i64 3 ∧ r = .int .i32 (((b0 - 240) * 64 + (b1 - 128)) * 64 + (b2 - 128)))) ∧ ∃ q, wr = w.drewN q) (fun k _ _ => 5 - (intOf k).toNat)
      case atStart => exact ⟨.inl ⟨rfl, rfl⟩, 0, rfl⟩
      case round =>
        obtain ⟨hk, qq, rfl⟩ := hrel
        rcases hk with ⟨rfl, rfl⟩ | ⟨rfl, rfl⟩ | ⟨rfl, rfl⟩
        · go_wp2_with fail
          go_roundw
          case rel => exact ⟨.inr (.inl ⟨rfl, rfl⟩), _, rfl⟩
          case measure => simp [intOf]
        · go_wp2_with fail
          go_roundw
          case rel => exact ⟨.inr (.inr (⟨rfl, rfl⟩)), _, rfl⟩
          case measure => simp [intOf]
        · go_wp2_with fail
          exact bodyPost_ret (v := .tuple #[.int .i32 0, .int .i64 1, .bool false]) (by simp [results, Tryf.results31, go_sem]) rfl (d31f (q := qq) (by have t0 := HE0.out; have t1 := HE1.out; have t2 := HE2.out; have t3 := HE3.out; intro r m h; unfold Dv at h; omega))
    by_cases v3 : 191 < b3
    · skip
      have n1 : bits .and .u8 b1 63 = b1 - 128 := by rw [u8_and63 _ (by omega) (by omega)]; omega
      have s1 : IntKind.i32.wrap ((b0 - 240) * 64) = (b0 - 240) * 64 := IntWalk.i32_in _ (by omega)
      have o1 : bits .or .i32 ((b0 - 240) * 64) (b1 - 128) = (b0 - 240) * 64 + (b1 - 128) := i32_or6 _ _ (by omega) (by omega) (by omega) (by omega) (by omega)
      have n2 : bits .and .u8 b2 63 = b2 - 128 := by rw [u8_and63 _ (by omega) (by omega)]; omega
      have s2 : IntKind.i32.wrap (((b0 - 240) * 64 + (b1 - 128)) * 64) = ((b0 - 240) * 64 + (b1 - 128)) * 64 := IntWalk.i32_in _ (by omega)
      have o2 : bits .or .i32 (((b0 - 240) * 64 + (b1 - 128)) * 64) (b2 - 128) = ((b0 - 240) * 64 + (b1 - 128)) * 64 + (b2 - 128) := i32_or6 _ _ (by omega) (by omega) (by omega) (by omega) (by omega)
      go_enter Tryf.func31, Tryf.ntmps31
      go_wp2_with fail
      go_loopw [13, 12] (fun k r wr => ((k = .int .i64 1 ∧ r = .int .i32 (b0 - 240)) ∨ (k = .int .i64 2 ∧ r = .int .i32 ((b0 - 240) * 64 + (b1 - 128))) ∨ (k = .int .i64 3 ∧ r = .int .i32 (((b0 - 240) * 64 + (b1 - 128)) * 64 + (b2 - 128)))) ∧ ∃ q, wr = w.drewN q) (fun k _ _ => 5 - (intOf k).toNat)
      case atStart => exact ⟨.inl ⟨rfl, rfl⟩, 0, rfl⟩
      case round =>
        obtain ⟨hk, qq, rfl⟩ := hrel
        rcases hk with ⟨rfl, rfl⟩ | ⟨rfl, rfl⟩ | ⟨rfl, rfl⟩
        · go_wp2_with fail
          go_roundw
          case rel => exact ⟨.inr (.inl ⟨rfl, rfl⟩), _, rfl⟩
          case measure => simp [intOf]
        · go_wp2_with fail
          go_roundw
          case rel => exact ⟨.inr (.inr (⟨rfl, rfl⟩)), _, rfl⟩
          case measure => simp [intOf]
        · go_wp2_with fail
          exact bodyPost_ret (v := .tuple #[.int .i32 0, .int .i64 1, .bool false]) (by simp [results, Tryf.results31, go_sem]) rfl (d31f (q := qq) (by have t0 := HE0.out; have t1 := HE1.out; have t2 := HE2.out; have t3 := HE3.out; intro r m h; unfold Dv at h; omega))
    have n1 : bits .and .u8 b1 63 = b1 - 128 := by rw [u8_and63 _ (by omega) (by omega)]; omega
    have s1 : IntKind.i32.wrap ((b0 - 240) * 64) = (b0 - 240) * 64 := IntWalk.i32_in _ (by omega)
    have o1 : bits .or .i32 ((b0 - 240) * 64) (b1 - 128) = (b0 - 240) * 64 + (b1 - 128) := i32_or6 _ _ (by omega) (by omega) (by omega) (by omega) (by omega)
    have n2 : bits .and .u8 b2 63 = b2 - 128 := by rw [u8_and63 _ (by omega) (by omega)]; omega
    have s2 : IntKind.i32.wrap (((b0 - 240) * 64 + (b1 - 128)) * 64) = ((b0 - 240) * 64 + (b1 - 128)) * 64 := IntWalk.i32_in _ (by omega)
    have o2 : bits .or .i32 (((b0 - 240) * 64 + (b1 - 128)) * 64) (b2 - 128) = ((b0 - 240) * 64 + (b1 - 128)) * 64 + (b2 - 128) := i32_or6 _ _ (by omega) (by omega) (by omega) (by omega) (by omega)
    have n3 : bits .and .u8 b3 63 = b3 - 128 := by rw [u8_and63 _ (by omega) (by omega)]; omega
    have s3 : IntKind.i32.wrap ((((b0 - 240) * 64 + (b1 - 128)) * 64 + (b2 - 128)) * 64) = (((b0 - 240) * 64 + (b1 - 128)) * 64 + (b2 - 128)) * 64 := IntWalk.i32_in _ (by omega)
    have o3 : bits .or .i32 ((((b0 - 240) * 64 + (b1 - 128)) * 64 + (b2 - 128)) * 64) (b3 - 128) = (((b0 - 240) * 64 + (b1 - 128)) * 64 + (b2 - 128)) * 64 + (b3 - 128) := i32_or6 _ _ (by omega) (by omega) (by omega) (by omega) (by omega)
    go_enter Tryf.func31, Tryf.ntmps31
    go_wp2_with fail
    go_loopw [13, 12] (fun k r wr => ((k = .int .i64 1 ∧ r = .int .i32 (b0 - 240)) ∨ (k = .int .i64 2 ∧ r = .int .i32 ((b0 - 240) * 64 + (b1 - 128))) ∨ (k = .int .i64 3 ∧ r = .int .i32 (((b0 - 240) * 64 + (b1 - 128)) * 64 + (b2 - 128))) ∨ (k = .int .i64 4 ∧ r = .int .i32 ((((b0 - 240) * 64 + (b1 - 128)) * 64 + (b2 - 128)) * 64 + (b3 - 128)))) ∧ ∃ q, wr = w.drewN q) (fun k _ _ => 5 - (intOf k).toNat)
    case atStart => exact ⟨.inl ⟨rfl, rfl⟩, 0, rfl⟩
    case round =>
      obtain ⟨hk, qq, rfl⟩ := hrel
      rcases hk with ⟨rfl, rfl⟩ | ⟨rfl, rfl⟩ | ⟨rfl, rfl⟩ | ⟨rfl, rfl⟩
      · go_wp2_with fail
        go_roundw
        case rel => exact ⟨.inr (.inl ⟨rfl, rfl⟩), _, rfl⟩
        case measure => simp [intOf]
      · go_wp2_with fail
        go_roundw
        case rel => exact ⟨.inr (.inr (.inl ⟨rfl, rfl⟩)), _, rfl⟩
        case measure => simp [intOf]
      · go_wp2_with fail
        go_roundw
        case rel => exact ⟨.inr (.inr (.inr (⟨rfl, rfl⟩))), _, rfl⟩
        case measure => simp [intOf]
      · go_wp2_with fail
        exact bodyPost_ret (v := .tuple #[.int .i32 ((((b0 - 240) * 64 + (b1 - 128)) * 64 + (b2 - 128)) * 64 + (b3 - 128)), .int .i64 4, .bool true]) (by simp [results, Tryf.results31, go_sem]) rfl (d31t (m := 4) (q := qq) (by have t0 := HE0.out; have t1 := HE1.out; have t2 := HE2.out; have t3 := HE3.out; unfold Dv; omega))
  · have hln : ¬ (i : Int) + 3 < (s.size : Int) := by omega
    go_enter Tryf.func31, Tryf.ntmps31
    go_wp2_with fail
    exact bodyPost_ret (v := .tuple #[.int .i32 0, .int .i64 1, .bool false]) (by simp [results, Tryf.results31, go_sem]) rfl (d31f (q := 0) (by have t0 := HE0.out; intro r m h; unfold Dv at h; omega))
theorem dec31 (s : ByteArray) (i : Nat) (hs : s.size ≤ 16777216) (hi : i < s.size) (w : World) : Calls Tryf.prog 31 #[.string s, .int .i64 (i : Int)] w (D31 w s i) := by
  obtain ⟨b0, e0, x0, y0⟩ : ∃ b : Int, bt s i = b ∧ 0 ≤ b ∧ b ≤ 255 := by
    have h1 := get_bt s i hi
    have h2 := (s[i]'hi).toNat_lt
    exact ⟨_, rfl, by omega, by omega⟩
  by_cases h1 : b0 < 128
  · exact d31a s i hs hi b0 e0 x0 y0 h1 w
  by_cases h2 : b0 < 194 ∨ 244 < b0
  · exact d31b s i hs hi b0 e0 y0 (by omega) h2 w
  by_cases h3 : b0 ≤ 223
  · exact d31c s i hs hi b0 e0 (by omega) h3 w
  by_cases h4 : b0 = 224
  · exact d31d s i hs hi b0 e0 h4 w
  by_cases h5 : b0 = 237
  · exact d31e s i hs hi b0 e0 h5 w
  by_cases h6 : b0 ≤ 239
  · exact d31f_ s i hs hi b0 e0 (by omega) h6 (by simpa using h5) w
  by_cases h7 : b0 = 240
  · exact d31g s i hs hi b0 e0 h7 w
  by_cases h8 : b0 = 244
  · exact d31h s i hs hi b0 e0 h8 w
  · exact d31i s i hs hi b0 e0 (by omega) (by omega) w
end Go.Proofs.YtfhafelkkophgaaFmt.Aux
