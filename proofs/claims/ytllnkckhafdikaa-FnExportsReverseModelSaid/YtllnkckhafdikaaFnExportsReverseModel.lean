/- The reverse resolution of an exports object with plain string values answers the first key whose value equals the query. No condition. -/
import Derived.Test.YtllnkckhafdikaaRows
import Derived.WalkKit
import Derived.ProofKit
import Derived.OpenShut
import Derived.ShutString
import Derived.Test.YtllnkckhafdikaaFacts
import Derived.Test.YtllnkckhafdikaaAid
import Derived.Test.YtllnkckhafdikaaFl
import Derived.Test.YtllnkckhafdikaaStr
import Derived.Test.YtllnkckhafdikaaShelf
import Derived.WalkSpells
import Derived.LoopTactic
import Derived.RegionTactic
import Derived.Outline
import Derived.Deep.QuietTactic
import Derived.BigQuiet
import Derived.IntWalk
import Derived.Deep.DeepCutAuto
import Derived.Deep.RegionHeld3
import Derived.Deep.MidRow
namespace Go.Proofs.Ytllnkckhafdikaa.fnExportsReverseModel
open Go.ChangeShapes Go.WideShapes Go.ChangeAt Go.RowKit
open Go.ChangeMaps (open_string shut_string)
set_option linter.unusedVariables false

theorem own : ownKnob Try.prog.godebug = none := by kernel_rfl
theorem laidOut : laidOutB Try.prog = true := by kernel_rfl

open Fl Str PlainAid
theorem Below.drewR {B : Nat} {w w' : World} (h : Below B w w') : Below B w w'.drew := ⟨h.os, h.tape, h.output, h.size, h.block⟩
def pjV (s : ByteArray) (a b : Int) : Array Value := #[.string s, .slice none 0 0, .slice none 0 0, .slice none 0 0, .int .i32 a, .int .i32 b, .int .u8 1]
theorem pj (s : ByteArray) (a b : Int) (w : World) : Calls Try.prog 9 #[.string s, .int .i32 a, .int .i32 b] w fun e w' => e = .returned (.agg (pjV s a b)) ∧ w' = w.alloc (.cells (pjV s a b) 35) := by
  go_enter Try.func9, Try.ntmps9
  go_wp2_with fail
  exact bodyPost_ret (v := .agg (pjV s a b)) (by simp [results, Try.results9, go_sem, pjV]) rfl ⟨rfl, rfl⟩
def rqV : Array Value := #[.pointer none, .pointer none, .pointer none, .int .u8 0]
def meV (k s : ByteArray) (a b : Int) : Array Value := #[.string k, .string s, .slice none 0 0, .slice none 0 0, .slice none 0 0, .int .i32 a, .int .i32 b, .int .u8 1, .int .i32 0, .int .i32 0]
set_option maxRecDepth 100000 in
theorem me (k s : ByteArray) (a b : Int) (w : World) : Calls Try.prog 24 #[.string k, .agg (pjV s a b)] w fun e w' => e = .returned (.agg (meV k s a b)) ∧ w' = (w.alloc (.cells (pjV s a b) 35)).alloc (.cells (meV k s a b) 62) := by
  unfold pjV
  go_enter Try.func24, Try.ntmps24
  go_wp2_with fail
  exact bodyPost_ret (v := .agg (meV k s a b)) (by simp [results, Try.results24, go_sem, meV]) rfl ⟨rfl, rfl⟩
/-- The guard of the law on sizes. -/
def Zb (q : ByteArray) (n1 n2 : Nat) (S1 S2 : Nat → ByteArray) (w : World) (e : Ending) (w' : World) : Prop :=
  ∃ v, e = .returned (.bool v) ∧ (v = true → q.size ≤ 1048576 ∧ n1 ≤ 1048576 ∧ n2 ≤ 1048576 ∧ (∀ i, i < n1 → (S1 i).size ≤ 1048576) ∧ ∀ i, i < n2 → (S2 i).size ≤ 1048576) ∧ w = w'
set_option maxHeartbeats 2000000 in
theorem zb (q : ByteArray) (a1 : Option Addr) (n1 c1 : Nat) (S1 : Nat → ByteArray) (a2 : Option Addr) (n2 c2 : Nat) (S2 : Nat → ByteArray) (w : World) (h1 : Fsl w a1 n1 (fun i => .string (S1 i))) (h2 : Fsl w a2 n2 (fun i => .string (S2 i)))
    (hq : q.size ≤ maxLen) (m1 : n1 ≤ maxLen) (m2 : n2 ≤ maxLen) (z1 : ∀ i, i < n1 → (S1 i).size ≤ maxLen) (z2 : ∀ i, i < n2 → (S2 i).size ≤ maxLen) :
    Calls Try.prog 11 #[.string q, .slice a1 n1 c1, .slice a2 n2 c2] w (Zb q n1 n2 S1 S2 w) := by
  unfold maxLen at hq m1 m2 z1 z2
  have Z1 := Lib.hid z1
  have Z2 := Lib.hid z2
  have H2 := Lib.hid h2
  clear z1 z2 h2
  by_cases g0 : (1048576 : Int) < (q.size : Int)
  · go_enter Try.func11, Try.ntmps11
    go_wp2_with fail
    go_ret
    exact ⟨_, rfl, (fun e => by cases e), rfl⟩
  by_cases g1 : (1048576 : Int) < (n1 : Int)
  · go_enter Try.func11, Try.ntmps11
    go_wp2_with fail
    go_ret
    exact ⟨_, rfl, (fun e => by cases e), rfl⟩
  by_cases g2 : (1048576 : Int) < (q.size : Int) + (n1 : Int)
  · go_enter Try.func11, Try.ntmps11
    go_wp2_with fail
    go_ret
    exact ⟨_, rfl, (fun e => by cases e), rfl⟩
  go_enter Try.func11, Try.ntmps11
  go_wp2_with fail
  go_loop [7, 8] (fun z i => ∃ (k : Nat) (n : Int), k ≤ n1 ∧ i = .int .i64 k ∧ z = .int .i64 n ∧ 0 ≤ n ∧ n ≤ 1048576 ∧ Hid (∀ i, i < k → (S1 i).size ≤ 1048576)) (fun _ i => n1 - (intOf i).toNat)
  case atStart => exact ⟨0, _, by omega, rfl, rfl, by omega, by omega, Lib.hid fun i hi => by omega⟩
  case round =>
    obtain ⟨k, n, hk, rfl, rfl, hn0, hn1, HA⟩ := hrel
    by_cases hlt : k < n1
    · obtain ⟨b, off, rfl, hlb, hc⟩ := h1.at k hlt
      have hs := Z1.out k hlt
      have hk2 : (k : Int) < (n1 : Int) := by omega
      by_cases l1 : (1048576 : Int) < ((S1 k).size : Int)
      · go_wp2_with fail
        go_ret
        exact ⟨_, rfl, (fun e => by cases e), rfl⟩
      by_cases l2 : (1048576 : Int) < n + ((S1 k).size : Int)
      · go_wp2_with fail
        go_ret
        exact ⟨_, rfl, (fun e => by cases e), rfl⟩
      go_wp2_with fail
      go_round
      case rel => exact ⟨k + 1, _, by omega, by go_num, rfl, by omega, by omega, Lib.hid fun i hi => by
        by_cases e : i = k
        · subst e; omega
        · exact HA.out i (by omega)⟩
      case measure => simp [intOf]; omega
    · by_cases g3 : (1048576 : Int) < (n2 : Int)
      · go_wp2_with fail
        go_ret
        exact ⟨_, rfl, (fun e => by cases e), rfl⟩
      by_cases g4 : (1048576 : Int) < n + (n2 : Int)
      · go_wp2_with fail
        go_ret
        exact ⟨_, rfl, (fun e => by cases e), rfl⟩
      have h2 := H2.out
      clear h1
      go_wp2_with fail
      go_loop [7, 9] (fun z i => ∃ (j : Nat) (n : Int), j ≤ n2 ∧ i = .int .i64 j ∧ z = .int .i64 n ∧ 0 ≤ n ∧ n ≤ 1048576 ∧ Hid (∀ i, i < j → (S2 i).size ≤ 1048576)) (fun _ i => n2 - (intOf i).toNat)
      case atStart => exact ⟨0, _, by omega, rfl, rfl, by omega, by omega, Lib.hid fun i hi => by omega⟩
      case round =>
        obtain ⟨j, n, hj, rfl, rfl, hn0, hn1, HC⟩ := hrel
        by_cases hlt2 : j < n2
        · obtain ⟨b, off, rfl, hlb, hc⟩ := h2.at j hlt2
          have hs := Z2.out j hlt2
          have hk2 : (j : Int) < (n2 : Int) := by omega
          by_cases l1 : (1048576 : Int) < ((S2 j).size : Int)
          · go_wp2_with fail
            go_ret
            exact ⟨_, rfl, (fun e => by cases e), rfl⟩
          by_cases l2 : (1048576 : Int) < n + ((S2 j).size : Int)
          · go_wp2_with fail
            go_ret
            exact ⟨_, rfl, (fun e => by cases e), rfl⟩
          go_wp2_with fail
          go_round
          case rel => exact ⟨j + 1, _, by omega, by go_num, rfl, by omega, by omega, Lib.hid fun i hi => by
            by_cases e : i = j
            · subst e; omega
            · exact HC.out i (by omega)⟩
          case measure => simp [intOf]; omega
        · go_wp2_with fail
          go_ret
          exact ⟨_, rfl, fun _ => ⟨by omega, by omega, by omega, fun i hi => HA.out i (by omega), fun i hi => HC.out i (by omega)⟩, rfl⟩
/-- Same lengths, few keys. -/
def Ft (n1 n2 : Nat) (w : World) (e : Ending) (w' : World) : Prop := ∃ v, e = .returned (.bool v) ∧ (v = true → n1 ≤ 4096 ∧ n1 = n2) ∧ Below w.heap.size w w'
set_option maxHeartbeats 2000000 in
theorem fits (q : ByteArray) (a1 : Option Addr) (n1 c1 : Nat) (S1 : Nat → ByteArray) (a2 : Option Addr) (n2 c2 : Nat) (S2 : Nat → ByteArray) (w : World) (h1 : Fsl w a1 n1 (fun i => .string (S1 i))) (h2 : Fsl w a2 n2 (fun i => .string (S2 i)))
    (hq : q.size ≤ 1048576) (m1 : n1 ≤ 1048576) (m2 : n2 ≤ 1048576) (z1 : ∀ i, i < n1 → (S1 i).size ≤ 1048576) (z2 : ∀ i, i < n2 → (S2 i).size ≤ 1048576) :
    Calls Try.prog 12 #[.string q, .slice a1 n1 c1, .slice a2 n2 c2] w (Ft n1 n2 w) := by
  have Z1 := Lib.hid z1
  have Z2 := Lib.hid z2
  have H2 := Lib.hid h2
  clear z1 z2 h2
  by_cases g1 : (4096 : Int) < (n1 : Int)
  · go_enter Try.func12, Try.ntmps12
    go_wp2_with fail
    go_ret
    exact ⟨_, rfl, (fun e => by cases e), Below.refl _ _⟩
  by_cases g2 : n2 = n1
  · subst g2
    go_enter Try.func12, Try.ntmps12
    go_wp2_with fail
    go_loopw [7, 8] (fun z i wr => ∃ (k : Nat) (n : Int), k ≤ n2 ∧ i = .int .i64 k ∧ z = .int .i64 n ∧ 0 ≤ n ∧ n ≤ 1048576 ∧ Below w.heap.size w wr) (fun _ i _ => n2 - (intOf i).toNat)
    case atStart => exact ⟨0, _, by omega, rfl, rfl, by omega, by omega, Below.refl _ _⟩
    case round =>
      obtain ⟨k, n, hk, rfl, rfl, hn0, hn1, hl⟩ := hrel
      by_cases hlt : k < n2
      · obtain ⟨b, off, rfl, hlb, hc⟩ := h1.at k hlt
        obtain ⟨b2, off2, rfl, hlb2, hc2⟩ := H2.out.at k hlt
        have f1 : wr.cell? ⟨b, off + k, none⟩ = some (.string (S1 k)) := by rw [hl.cell (p := ⟨b, off + k, none⟩) hlb]; exact hc
        have f2 : wr.cell? ⟨b2, off2 + k, none⟩ = some (.string (S2 k)) := by rw [hl.cell (p := ⟨b2, off2 + k, none⟩) hlb2]; exact hc2
        have s1 := Z1.out k hlt
        have s2 := Z2.out k hlt
        have hk2 : (k : Int) < (n2 : Int) := by omega
        clear hc hc2
        by_cases l2 : (1048576 : Int) < n + (32 + ((S1 k).size : Int) + ((S2 k).size : Int))
        · have e1 : IntKind.i64.wrap (32 + ((S1 k).size : Int)) = 32 + ((S1 k).size : Int) := IntWalk.i64_in _ (by omega)
          have e2 : IntKind.i64.wrap (32 + ((S1 k).size : Int) + ((S2 k).size : Int)) = 32 + ((S1 k).size : Int) + ((S2 k).size : Int) := IntWalk.i64_in _ (by omega)
          have e3 : IntKind.i64.wrap (n + (32 + ((S1 k).size : Int) + ((S2 k).size : Int))) = n + (32 + ((S1 k).size : Int) + ((S2 k).size : Int)) := IntWalk.i64_in _ (by omega)
          go_wp2_with fail
          go_quiet (fail)
          clear e1 e2 e3
          go_wp2_with fail
          go_ret
          exact ⟨_, rfl, (fun e => by cases e), ⟨hl.os, hl.tape, hl.output, hl.size, hl.block⟩⟩
        · have e1 : IntKind.i64.wrap (32 + ((S1 k).size : Int)) = 32 + ((S1 k).size : Int) := IntWalk.i64_in _ (by omega)
          have e2 : IntKind.i64.wrap (32 + ((S1 k).size : Int) + ((S2 k).size : Int)) = 32 + ((S1 k).size : Int) + ((S2 k).size : Int) := IntWalk.i64_in _ (by omega)
          have e3 : IntKind.i64.wrap (n + (32 + ((S1 k).size : Int) + ((S2 k).size : Int))) = n + (32 + ((S1 k).size : Int) + ((S2 k).size : Int)) := IntWalk.i64_in _ (by omega)
          go_wp2_with fail
          go_quiet (fail)
          clear e1 e2 e3
          go_wp2_with fail
          go_roundw
          case rel => exact ⟨k + 1, _, by omega, by go_num, rfl, by omega, by omega, ⟨hl.os, hl.tape, hl.output, hl.size, hl.block⟩⟩
          case measure => simp [intOf]; omega
      · go_wp2_with fail
        go_ret
        exact ⟨_, rfl, fun _ => ⟨by omega, rfl⟩, hl⟩
  · have g3 : ((n2 : Int) == (n1 : Int)) = false := by simp; omega
    have g4 : ((n2 : Int) != (n1 : Int)) = true := by simp; omega
    go_enter Try.func12, Try.ntmps12
    go_wp2_with fail
    go_ret
    exact ⟨_, rfl, (fun e => by cases e), Below.refl _ _⟩
theorem hpre1 (s : ByteArray) (c : UInt8) (h : 0 < s.size) : Lib.hasPrefix s.data.toList [c] = ((s.extract 0 1).toList == [c]) := by
  rw [ByteArray.toList_eq, extract_data]
  have := len_data s
  cases e : s.data.toList with
  | nil => rw [e] at this; simp at this; omega
  | cons a l =>
    rw [Bool.eq_iff_iff]
    simp [Lib.hasPrefix, List.isPrefixOf]
    exact eq_comm
theorem hsuf1 (s : ByteArray) (c : UInt8) (h : 0 < s.size) : Lib.hasSuffix s.data.toList [c] = ((s.extract (s.size - 1) s.size).toList == [c]) := by
  rw [ByteArray.toList_eq, extract_data]
  have hl := len_data s
  have e1 : s.size - (s.size - 1) = 1 := by omega
  rw [e1, Bool.eq_iff_iff]
  have hd : (s.data.toList.drop (s.size - 1)).length = 1 := by rw [List.length_drop, hl]; omega
  rw [List.take_of_length_le (by omega)]
  constructor
  · intro hs
    obtain ⟨p, hp⟩ := List.isSuffixOf_iff_suffix.1 hs
    have hpl : p.length = s.size - 1 := by rw [← hl, ← hp]; simp
    rw [← hp, ← hpl]
    simp
  · intro hs
    have hs : s.data.toList.drop (s.size - 1) = [c] := by simpa using hs
    refine List.isSuffixOf_iff_suffix.2 ⟨s.data.toList.take (s.size - 1), ?_⟩
    rw [← hs, List.take_append_drop]
theorem pre14 (s : ByteArray) (w : World) (hs : s.size ≤ 1048576) : Calls Try.prog 14 #[.string s, .string ⟨#[46]⟩] w fun e w' => e = .returned (.bool (Lib.hasPrefix s.data.toList [46])) ∧ w = w' := by
  have hx : (⟨#[46]⟩ : ByteArray).size = 1 := rfl
  by_cases h0 : 0 < s.size
  · have HP := Lib.hid (hpre1 s 46 h0)
    have hl : (1 : Int) ≤ (s.size : Int) := by omega
    have hl2 : 1 ≤ s.size := by omega
    go_enter Try.func14, Try.ntmps14
    go_wp2_with fail
    go_ret
    exact ⟨by rw [HP.out]; rfl, rfl⟩
  · have e : s.data.toList = [] := List.eq_nil_of_length_eq_zero (by rw [len_data]; omega)
    have HP := Lib.hid (show Lib.hasPrefix s.data.toList [46] = false by rw [e]; rfl)
    clear e
    have hl : ¬ (1 : Int) ≤ (s.size : Int) := by omega
    go_enter Try.func14, Try.ntmps14
    go_wp2_with fail
    go_ret
    exact ⟨by rw [HP.out]; rfl, rfl⟩
theorem pre14v (s : ByteArray) (v : Bool) (w : World) (hs : s.size ≤ 1048576) (h : Lib.hasPrefix s.data.toList [46] = v) : Calls Try.prog 14 #[.string s, .string ⟨#[46]⟩] w fun e w' => e = .returned (.bool v) ∧ w = w' := by
  rw [← h]; exact pre14 s w hs
theorem suf17 (s : ByteArray) (w : World) (hs : s.size ≤ 1048576) : Calls Try.prog 17 #[.string s, .string ⟨#[42]⟩] w fun e w' => e = .returned (.bool (Lib.hasSuffix s.data.toList [42])) ∧ w = w' := by
  have hx : (⟨#[42]⟩ : ByteArray).size = 1 := rfl
  by_cases h0 : 0 < s.size
  · have HP := Lib.hid (hsuf1 s 42 h0)
    have hl : (1 : Int) ≤ (s.size : Int) := by omega
    have hl2 : 1 ≤ s.size := by omega
    go_enter Try.func17, Try.ntmps17
    go_wp2_with fail
    go_ret
    exact ⟨by rw [HP.out]; rfl, rfl⟩
  · have e : s.data.toList = [] := List.eq_nil_of_length_eq_zero (by rw [len_data]; omega)
    have HP := Lib.hid (show Lib.hasSuffix s.data.toList [42] = false by rw [e]; rfl)
    clear e
    have hl : ¬ (1 : Int) ≤ (s.size : Int) := by omega
    go_enter Try.func17, Try.ntmps17
    go_wp2_with fail
    go_ret
    exact ⟨by rw [HP.out]; rfl, rfl⟩
theorem suf17v (s : ByteArray) (v : Bool) (w : World) (hs : s.size ≤ 1048576) (h : Lib.hasSuffix s.data.toList [42] = v) : Calls Try.prog 17 #[.string s, .string ⟨#[42]⟩] w fun e w' => e = .returned (.bool v) ∧ w = w' := by
  rw [← h]; exact suf17 s w hs
def Sb (w : World) (e : Ending) (w' : World) : Prop := (∃ v, e = .returned (.bool v)) ∧ w = w'
theorem suf17s (s : ByteArray) (w : World) (hs : s.size ≤ 1048576) : Calls Try.prog 17 #[.string s, .string ⟨#[47]⟩] w (Sb w) := by
  have hx : (⟨#[47]⟩ : ByteArray).size = 1 := rfl
  by_cases h0 : 0 < s.size
  · have hl : (1 : Int) ≤ (s.size : Int) := by omega
    have hl2 : 1 ≤ s.size := by omega
    go_enter Try.func17, Try.ntmps17
    go_wp2_with fail
    go_ret
    exact ⟨⟨_, rfl⟩, rfl⟩
  · have hl : ¬ (1 : Int) ≤ (s.size : Int) := by omega
    go_enter Try.func17, Try.ntmps17
    go_wp2_with fail
    go_ret
    exact ⟨⟨_, rfl⟩, rfl⟩
def Ct (w : World) (e : Ending) (w' : World) : Prop := (∃ n : Nat, e = .returned (.int .i64 n)) ∧ w = w'
theorem count (s : ByteArray) (w : World) (hs : s.size ≤ 1048576) : Calls Try.prog 7 #[.string s, .int .u8 42] w (Ct w) := by
  have hbp := get_bt s
  go_enter Try.func7, Try.ntmps7
  go_wp2_with fail
  go_loop [5, 6] (fun z i => ∃ k n : Nat, k ≤ s.size ∧ n ≤ k ∧ i = .int .i64 k ∧ z = .int .i64 n) (fun _ i => s.size - (intOf i).toNat)
  case atStart => exact ⟨0, 0, by omega, by omega, rfl, rfl⟩
  case round =>
    obtain ⟨k, n, hk, hn, rfl, rfl⟩ := hrel
    by_cases hlt : k < s.size
    · have hk2 : (k : Int) < (s.size : Int) := by omega
      cases hz : (bt s k == 42)
      · go_wp2_with fail
        go_round
        case rel => exact ⟨k + 1, n, by omega, by omega, by go_num, rfl⟩
        case measure => simp [intOf]; omega
      · go_wp2_with fail
        go_round
        case rel => exact ⟨k + 1, n + 1, by omega, by omega, by go_num, by go_num⟩
        case measure => simp [intOf]; omega
    · obtain rfl : k = s.size := by omega
      go_wp2_with fail
      go_ret
      exact ⟨⟨n, rfl⟩, rfl⟩
theorem plain (a : Option Addr) (n c : Nat) (S : Nat → ByteArray) (w : World) (h : Fsl w a n (fun i => .string (S i))) (m : n ≤ 4096) (z : ∀ i, i < n → (S i).size ≤ 1048576) :
    Calls Try.prog 13 #[.slice a n c] w (Sb w) := by
  have HZ := Lib.hid z
  clear z
  go_enter Try.func13, Try.ntmps13
  go_wp2_with fail
  go_loop [3] (fun i => ∃ k : Nat, k ≤ n ∧ i = .int .i64 k) (fun i => n - (intOf i).toNat)
  case atStart => exact ⟨0, by omega, rfl⟩
  case round =>
    obtain ⟨k, hk, rfl⟩ := hrel
    by_cases hlt : k < n
    · obtain ⟨b, off, rfl, hlb, hc⟩ := h.at k hlt
      have hs := HZ.out k hlt
      have hk2 : (k : Int) < (n : Int) := by omega
      go_wp2_with fail
      refine (count (S k) _ hs).mono ?_
      rintro e w' ⟨⟨m', rfl⟩, rfl⟩
      by_cases hm : (0 : Int) < (m' : Int)
      · go_wp2_with fail
        go_ret
        exact ⟨⟨_, rfl⟩, rfl⟩
      · go_wp2_with fail
        refine (suf17s (S k) _ hs).mono ?_
        rintro e w' ⟨⟨v, rfl⟩, rfl⟩
        cases v
        · go_wp2_with fail
          go_round
          case rel => exact ⟨k + 1, by omega, by go_num⟩
          case measure => simp [intOf]; omega
        · go_wp2_with fail
          go_ret
          exact ⟨⟨_, rfl⟩, rfl⟩
    · go_wp2_with fail
      go_ret
      exact ⟨⟨_, rfl⟩, rfl⟩
def Got (w : World) (r : ByteArray) (a b : Int) (e : Ending) (w' : World) : Prop := e = .returned (.tuple #[.bool true, .string r, .agg #[.int .i32 a, .int .i32 b]]) ∧ Below w.heap.size w w'
def Non (w : World) (e : Ending) (w' : World) : Prop := e = .returned (.tuple #[.bool false, .string ⟨#[]⟩, .agg #[.int .i32 0, .int .i32 0]]) ∧ Below w.heap.size w w'
set_option maxRecDepth 100000 in
set_option maxHeartbeats 2000000 in
theorem ex_y (q key : ByteArray) (a b : Int) (w : World) :
    Calls Try.prog 23 #[.agg rqV, .string q, .string key, .agg (pjV q a b), .int .u8 0, .map none] w (Got w key a b) := by
  unfold pjV rqV
  go_enter Try.func23, Try.ntmps23
  go_wp2_with fail
  go_region
  all_goals (go_wp2_with fail; exact bodyPost_ret (v := .tuple #[.bool true, .string key, .agg #[.int .i32 a, .int .i32 b]]) (by simp [results, Try.results23, go_sem]) rfl ⟨rfl, by (repeat' (first | exact Below.refl _ _ | refine Below.drewR ?_ | (refine Below.alloc ?_ (by simp; omega) _) | (refine Below.alloc ?_ (by simp) _) | (refine Below.setCell ?_ (by simp; omega) _) | (refine Below.setCell ?_ (by simp) _)))⟩)
set_option maxRecDepth 100000 in
set_option maxHeartbeats 2000000 in
theorem ex_n (q key t : ByteArray) (a b : Int) (w : World) (h : q ≠ t) :
    Calls Try.prog 23 #[.agg rqV, .string q, .string key, .agg (pjV t a b), .int .u8 0, .map none] w (Non w) := by
  have h2 : (q.toList == t.toList) = false := by
    simp only [ByteArray.toList_eq, beq_eq_false_iff_ne]
    exact fun e => h (WideShapes.bytes_inj e)
  unfold pjV rqV
  clear h
  go_enter Try.func23, Try.ntmps23
  go_wp2_with fail
  exact bodyPost_ret (v := .tuple #[.bool false, .string ⟨#[]⟩, .agg #[.int .i32 0, .int .i32 0]]) (by simp [results, Try.results23, go_sem]) rfl ⟨rfl, by (repeat' (first | exact Below.refl _ _ | refine Below.drewR ?_ | (refine Below.alloc ?_ (by simp; omega) _) | (refine Below.alloc ?_ (by simp) _) | (refine Below.setCell ?_ (by simp; omega) _) | (refine Below.setCell ?_ (by simp) _)))⟩
def Ents (w : World) (b n : Nat) (K S : Nat → ByteArray) : Prop := b < w.heap.size ∧ ∀ j, j < n → ∀ i, i < 10 → w.cell? ⟨b, j * 10 + i, none⟩ = some ((meV (K j) (S j) ((j : Int) + 1) 1).getD i undef)
theorem Ents.below {w w' : World} {b n : Nat} {K S : Nat → ByteArray} (h : Ents w b n K S) (hb : Below w.heap.size w w') : Ents w' b n K S :=
  ⟨Nat.lt_of_lt_of_le h.1 hb.size, fun j hj i hi => by rw [hb.cell (p := ⟨b, j * 10 + i, none⟩) h.1]; exact h.2 j hj i hi⟩
def objV (A : Option Addr) (n c : Nat) : Array Value := #[.string ⟨#[]⟩, .slice none 0 0, .slice A n c, .slice none 0 0, .int .i32 0, .int .i32 0, .int .u8 3]
def Fnd (q : ByteArray) (n : Nat) (K S : Nat → ByteArray) (w : World) (e : Ending) (w' : World) : Prop :=
  (∃ j, j < n ∧ (∀ i, i < j → S i ≠ q) ∧ S j = q ∧ Got w (K j) ((j : Int) + 1) 1 e w') ∨ ((∀ i, i < n → S i ≠ q) ∧ Non w e w')
theorem hsv (q : ByteArray) (v : Bool) (w : World) (hs : q.size ≤ 1048576) (h : Lib.hasSuffix q.data.toList [42] = v) : Calls Try.prog 29 #[.string q, .string ⟨#[42]⟩] w fun e w' => e = .returned (.bool v) ∧ w' = w :=
  (Try.strings_HasSuffix q ⟨#[42]⟩ w (by omega)).mono fun e w' ⟨he, hw⟩ => ⟨by rw [he, ← h], hw⟩
theorem hpv (q : ByteArray) (v : Bool) (w : World) (h : Lib.hasPrefix q.data.toList [46] = v) : Calls Try.prog 27 #[.string q, .string ⟨#[46]⟩] w fun e w' => e = .returned (.bool v) ∧ w' = w :=
  (Try.strings_HasPrefix q ⟨#[46]⟩ w).mono fun e w' ⟨he, hw⟩ => ⟨by rw [he, ← h], hw⟩
theorem cell_blk {w : World} {b i : Nat} {t : TypeId} {cs : Array Value} {v : Value} (h : w.heap[b]? = some (.cells cs t (0, 0))) (hv : cs[i]? = some v) : w.cell? ⟨b, i, none⟩ = some v := by
  rw [cell_of_row w b i cs t _ h, hv]
/-- What the loop keeps: the three blocks that the call made first. -/
def Kp (w : World) (A : Option Addr) (n c : Nat) (wr : World) : Prop :=
  Below w.heap.size w wr ∧ wr.heap[w.heap.size]? = some (.cells rqV 58 (0, 0)) ∧ wr.heap[w.heap.size + 1]? = some (.cells (objV A n c) 35 (0, 0)) ∧ wr.heap[w.heap.size + 1 + 1]? = some (.cells #[.int .i32 0, .int .i32 0] 27 (0, 0)) ∧ w.heap.size + 3 ≤ wr.heap.size
theorem Kp.start (w : World) (A : Option Addr) (n c : Nat) : Kp w A n c (((w.alloc (.cells rqV 58)).alloc (.cells (objV A n c) 35)).alloc (.cells #[.int .i32 0, .int .i32 0] 27)) := by
  refine ⟨by (repeat' (first | exact Below.refl _ _ | refine Below.drewR ?_ | (refine Below.alloc ?_ (by simp; omega) _) | (refine Below.alloc ?_ (by simp) _) | (refine Below.setCell ?_ (by simp; omega) _) | (refine Below.setCell ?_ (by simp) _))), ?_, ?_, ?_, by simp⟩
  · rw [Below.heap_alloc _ _ _ (by simp; omega), Below.heap_alloc _ _ _ (by simp)]; exact heap_alloc_new _ _
  · rw [Below.heap_alloc _ _ _ (by simp)]
    have := heap_alloc_new (w.alloc (.cells rqV 58)) (.cells (objV A n c) 35)
    simpa using this
  · have := heap_alloc_new ((w.alloc (.cells rqV 58)).alloc (.cells (objV A n c) 35)) (.cells #[.int .i32 0, .int .i32 0] 27)
    simpa using this
theorem Kp.below {w wr w1 : World} {A : Option Addr} {n c B : Nat} (h : Kp w A n c wr) (hB : wr.heap.size ≤ B) (hb : Below B wr w1) : Kp w A n c w1 := by
  obtain ⟨h1, h2, h3, h4, h5⟩ := h
  refine ⟨h1.trans (hb.mono (by omega)), ?_, ?_, ?_, Nat.le_trans h5 hb.size⟩
  · rw [hb.block _ (by omega)]; exact h2
  · rw [hb.block _ (by omega)]; exact h3
  · rw [hb.block _ (by omega)]; exact h4
set_option maxRecDepth 100000 in
set_option maxHeartbeats 4000000 in
theorem rv33 (q : ByteArray) (b n c : Nat) (K S : Nat → ByteArray) (w : World) (hn : n ≤ 4096) (hq : q.size ≤ 1048576) (hE : Ents w b n K S) (hst : Lib.hasSuffix q.data.toList [42] = false) :
    Calls Try.prog 33 #[.agg rqV, .string q, .agg (objV (some ⟨b, 0, none⟩) n c), .map none] w (Fnd q n K S w) := by
  have HE := Lib.hid hE
  have HST := Lib.hid hst
  have hbl := hE.1
  have KS := Lib.hid (Kp.start w (some ⟨b, 0, none⟩) n c)
  clear hE hst
  unfold objV rqV
  go_enter Try.func33, Try.ntmps33
  go_wp2_with fail
  refine (hsv q false _ hq HST.out).mono ?_
  rintro e w0 ⟨rfl, rfl⟩
  go_wp2_with fail
  go_loopw [30] (fun i wr => ∃ k : Nat, k ≤ n ∧ i = .int .i64 k ∧ Kp w (some ⟨b, 0, none⟩) n c wr ∧ Hid (∀ i, i < k → S i ≠ q)) (fun i _ => n - (intOf i).toNat)
  case atStart => exact ⟨0, by omega, rfl, KS.out, Lib.hid fun i hi => absurd hi (Nat.not_lt_zero _)⟩
  case round =>
    obtain ⟨k, hk, rfl, hkp, HA⟩ := hrel
    have HK := Lib.hid hkp
    obtain ⟨b1, b2, b3, b4, b5⟩ := hkp
    have p0 : wr.cell? ⟨w.heap.size, 0, none⟩ = some (.pointer none) := cell_blk b2 rfl
    have p1 : wr.cell? ⟨w.heap.size, 1, none⟩ = some (.pointer none) := cell_blk b2 rfl
    have p2 : wr.cell? ⟨w.heap.size, 2, none⟩ = some (.pointer none) := cell_blk b2 rfl
    have p3 : wr.cell? ⟨w.heap.size, 3, none⟩ = some (.int .u8 0) := cell_blk b2 rfl
    have o3 : wr.cell? ⟨w.heap.size + 1, 3, none⟩ = some (.slice none 0 0) := cell_blk b3 rfl
    have z0 : wr.cell? ⟨w.heap.size + 1 + 1, 0, none⟩ = some (.int .i32 0) := cell_blk b4 rfl
    have z1 : wr.cell? ⟨w.heap.size + 1 + 1, 1, none⟩ = some (.int .i32 0) := cell_blk b4 rfl
    have y0 := frozen_of_row wr (w.heap.size + 1 + 1) 0 _ 27 b4
    have y1 := frozen_of_row wr (w.heap.size + 1 + 1) 1 _ 27 b4
    have b6 : w.heap.size < wr.heap.size := by omega
    have b7 : w.heap.size + 1 + 1 < wr.heap.size := by omega
    clear b2 b3 b4
    have B1 := Lib.hid b1
    clear b1
    by_cases hlt : k < n
    · have hk2 : (k : Int) < (n : Int) := by omega
      have he := fun i hi => (HE.out.below B1.out).2 k hlt i hi
      have e0 := he 0 (by omega)
      have e1 := he 1 (by omega)
      have e2 := he 2 (by omega)
      have e3 := he 3 (by omega)
      have e4 := he 4 (by omega)
      have e5 := he 5 (by omega)
      have e6 := he 6 (by omega)
      have e7 := he 7 (by omega)
      have e8 := he 8 (by omega)
      have e9 := he 9 (by omega)
      clear he
      simp only [meV, Nat.add_zero, Array.getD_eq_getD_getElem?] at e0 e1 e2 e3 e4 e5 e6 e7 e8 e9
      simp at e0 e1 e2 e3 e4 e5 e6 e7 e8 e9
      by_cases hS : S k = q
      · rw [hS] at e1
        have EY := Lib.hid (ex_y q (K k) ((k : Int) + 1) 1)
        unfold pjV rqV at EY
        have HSk := Lib.hid hS
        clear hS
        go_wp2_with fail
        refine (EY.out _).mono ?_
        rintro e w1 ⟨rfl, hb⟩
        have z0' : w1.cell? ⟨w.heap.size + 1 + 1, 0, none⟩ = some (.int .i32 0) := by rw [hb.cell (p := ⟨w.heap.size + 1 + 1, 0, none⟩) (by simp; omega)]; simp [go_sem, z0, b7]
        have z1' : w1.cell? ⟨w.heap.size + 1 + 1, 1, none⟩ = some (.int .i32 0) := by rw [hb.cell (p := ⟨w.heap.size + 1 + 1, 1, none⟩) (by simp; omega)]; simp [go_sem, z1, b7]
        have y0' : w1.frozen? ⟨w.heap.size + 1 + 1, 0, none⟩ = false := by rw [hb.frozen (p := ⟨w.heap.size + 1 + 1, 0, none⟩) (by simp; omega)]; simp [go_sem, y0, b7]
        have y1' : w1.frozen? ⟨w.heap.size + 1 + 1, 1, none⟩ = false := by rw [hb.frozen (p := ⟨w.heap.size + 1 + 1, 1, none⟩) (by simp; omega)]; simp [go_sem, y1, b7]
        have b8 : w.heap.size + 1 + 1 < w1.heap.size := by have := hb.size; simp at this; omega
        have HB := Lib.hid hb
        clear hb
        go_wp2_with fail
        go_region
        all_goals (go_wp2_with fail; refine bodyPost_ret (v := .tuple #[.bool true, .string (K k), .agg #[.int .i32 ((k : Int) + 1), .int .i32 1]]) (by simp [results, Try.results33, go_sem, z0', z1', b8]) rfl (.inl ⟨k, hlt, HA.out, HSk.out, rfl, ?_⟩))
        all_goals
          have h1 := ((HK.out.below (Nat.le_refl _) ((Below.refl _ _).alloc (Nat.le_refl _) _)).below (Nat.le_refl _) HB.out).1
          refine Below.drewR (Below.alloc (Below.setCell (Below.setCell h1 (by show _ ≤ w.heap.size + 1 + 1; omega) _) (by show _ ≤ w.heap.size + 1 + 1; omega) _) (by simp; omega) _)
      · have EN := Lib.hid (ex_n q (K k) (S k) ((k : Int) + 1) 1 · (fun e => hS e.symm))
        unfold pjV rqV at EN
        have HSk := Lib.hid hS
        clear hS
        go_wp2_with fail
        refine (EN.out _).mono ?_
        rintro e w1 ⟨rfl, hb⟩
        have HB := Lib.hid hb
        clear hb
        go_wp2_with fail
        go_roundw
        case rel => exact ⟨k + 1, by omega, by go_num, ((HK.out.below (Nat.le_refl _) ((Below.refl _ _).alloc (Nat.le_refl _) _)).below (Nat.le_refl _) HB.out).below (Nat.le_refl _) ((Below.refl _ _).alloc (Nat.le_refl _) _), Lib.hid fun i hi => by
          by_cases e : i = k
          · subst e; exact HSk.out
          · exact HA.out i (by omega)⟩
        case measure => simp [intOf]; omega
    · obtain rfl : k = n := by omega
      go_wp2_with fail
      go_loop [53] (fun i => i = .int .i64 0) (fun _ => 0)
      case atStart => rfl
      case round =>
        subst hrel
        go_wp2_with fail
        refine bodyPost_ret (v := .tuple #[.bool false, .string ⟨#[]⟩, .agg #[.int .i32 0, .int .i32 0]]) (by simp [results, Try.results33, go_sem, z0, z1]) rfl (.inr ⟨HA.out, rfl, ?_⟩)
        exact Below.setCell (Below.setCell B1.out (by show _ ≤ w.heap.size + 1 + 1; omega) _) (by show _ ≤ w.heap.size + 1 + 1; omega) _
set_option maxRecDepth 100000 in
set_option maxHeartbeats 4000000 in
theorem rv33s (q : ByteArray) (A : Option Addr) (n c : Nat) (w : World) (hq : q.size ≤ 1048576) (hst : Lib.hasSuffix q.data.toList [42] = true) :
    Calls Try.prog 33 #[.agg rqV, .string q, .agg (objV A n c), .map none] w (Non w) := by
  have HST := Lib.hid hst
  clear hst
  unfold objV rqV
  go_enter Try.func33, Try.ntmps33
  go_wp2_with fail
  refine (hsv q true _ hq HST.out).mono ?_
  rintro e w0 ⟨rfl, rfl⟩
  go_wp2_with fail
  go_loop [53] (fun i => i = .int .i64 0) (fun _ => 0)
  case atStart => rfl
  case round =>
    subst hrel
    go_wp2_with fail
    exact bodyPost_ret (v := .tuple #[.bool false, .string ⟨#[]⟩, .agg #[.int .i32 0, .int .i32 0]]) (by simp [results, Try.results33, go_sem]) rfl ⟨rfl, by (repeat' (first | exact Below.refl _ _ | refine Below.drewR ?_ | (refine Below.alloc ?_ (by simp; omega) _) | (refine Below.alloc ?_ (by simp) _) | (refine Below.setCell ?_ (by simp; omega) _) | (refine Below.setCell ?_ (by simp) _)))⟩
/-- The answer of the whole. -/
def Ans (q : ByteArray) (n : Nat) (K S : Nat → ByteArray) (w : World) (e : Ending) (w' : World) : Prop :=
  (∃ j, j < n ∧ (∀ i, i < j → S i ≠ q) ∧ S j = q ∧ 0 < n ∧ Lib.hasPrefix (K 0).data.toList [46] = true ∧ Lib.hasSuffix q.data.toList [42] = false ∧ Got w (K j) ((j : Int) + 1) 1 e w') ∨
  ((0 < n → Lib.hasPrefix (K 0).data.toList [46] = true → Lib.hasSuffix q.data.toList [42] = false → ∀ i, i < n → S i ≠ q) ∧ Non w e w')
theorem ks32 (b n c : Nat) (K S : Nat → ByteArray) (v : Bool) (w : World) (hn : n ≤ 4096) (hE : Ents w b n K S) (hv : (decide (0 < n) && Lib.hasPrefix (K 0).data.toList [46]) = v) :
    Calls Try.prog 32 #[.agg (objV (some ⟨b, 0, none⟩) n c)] w fun e w' => e = .returned (.bool v) ∧ Below w.heap.size w w' := by
  unfold objV
  by_cases hl : 0 < n
  · have hc := hE.2 0 hl 0 (by omega)
    simp [meV] at hc
    have hbl := hE.1
    have hl2 : (0 : Int) < (n : Int) := by omega
    have H := Lib.hid (show Lib.hasPrefix (K 0).data.toList [46] = v by rw [← hv]; simp [hl])
    clear hE hv
    go_enter Try.func32, Try.ntmps32
    go_wp2_with fail
    refine (hpv (K 0) v _ H.out).mono ?_
    rintro e w' ⟨rfl, rfl⟩
    go_wp2_with fail
    go_ret
    exact ⟨rfl, (Below.refl _ _).alloc (Nat.le_refl _) _⟩
  · obtain rfl : n = 0 := by omega
    have H := Lib.hid (show v = false by rw [← hv]; rfl)
    clear hE hv
    go_enter Try.func32, Try.ntmps32
    go_wp2_with fail
    go_ret
    exact ⟨by rw [H.out]; rfl, (Below.refl _ _).alloc (Nat.le_refl _) _⟩
set_option maxRecDepth 100000 in
set_option maxHeartbeats 4000000 in
theorem rv26 (q : ByteArray) (b n c : Nat) (K S : Nat → ByteArray) (w : World) (hn : n ≤ 4096) (hq : q.size ≤ 1048576) (hE : Ents w b n K S) :
    Calls Try.prog 26 #[.agg rqV, .string q, .agg (objV (some ⟨b, 0, none⟩) n c), .map none] w (Ans q n K S w) := by
  have HE := Lib.hid hE
  have hbl := hE.1
  have KS := Lib.hid (Kp.start w (some ⟨b, 0, none⟩) n c)
  clear hE
  obtain ⟨v, hv⟩ : ∃ v, (decide (0 < n) && Lib.hasPrefix (K 0).data.toList [46]) = v := ⟨_, rfl⟩
  have HV := Lib.hid hv
  clear hv
  have C32 := Lib.hid (fun w' (h : Ents w' b n K S) => ks32 b n c K S v w' hn h HV.out)
  have C33 : Hid (∀ w', Ents w' b n K S → Lib.hasSuffix q.data.toList [42] = false → Calls Try.prog 33 #[.agg rqV, .string q, .agg (objV (some ⟨b, 0, none⟩) n c), .map none] w' (Fnd q n K S w')) := Lib.hid fun w' h h2 => rv33 q b n c K S w' hn hq h h2
  have C33s : Hid (∀ w', Lib.hasSuffix q.data.toList [42] = true → Calls Try.prog 33 #[.agg rqV, .string q, .agg (objV (some ⟨b, 0, none⟩) n c), .map none] w' (Non w')) := Lib.hid fun w' h2 => rv33s q _ n c w' hq h2
  unfold objV at C32
  unfold objV rqV at C33 C33s
  unfold objV rqV
  go_enter Try.func26, Try.ntmps26
  go_wp2_with fail
  refine (C32.out _ (HE.out.below (by (repeat' (first | exact Below.refl _ _ | refine Below.drewR ?_ | (refine Below.alloc ?_ (by simp; omega) _) | (refine Below.alloc ?_ (by simp) _) | (refine Below.setCell ?_ (by simp; omega) _) | (refine Below.setCell ?_ (by simp) _)))))).mono ?_
  rintro e w1 ⟨rfl, hb1⟩
  have K1 : Hid (Kp w (some ⟨b, 0, none⟩) n c w1) := Lib.hid (KS.out.below (Nat.le_refl _) hb1)
  clear hb1 C32 KS
  cases v
  case false =>
    obtain ⟨b1, b2, b3, b4, b5⟩ := K1.out
    have z0 : w1.cell? ⟨w.heap.size + 1 + 1, 0, none⟩ = some (.int .i32 0) := cell_blk b4 rfl
    have z1 : w1.cell? ⟨w.heap.size + 1 + 1, 1, none⟩ = some (.int .i32 0) := cell_blk b4 rfl
    have y0 := frozen_of_row w1 (w.heap.size + 1 + 1) 0 _ 27 b4
    have y1 := frozen_of_row w1 (w.heap.size + 1 + 1) 1 _ 27 b4
    have B1 := Lib.hid b1
    clear b1 b2 b3 b4
    go_wp2_with fail
    refine bodyPost_ret (v := .tuple #[.bool false, .string ⟨#[]⟩, .agg #[.int .i32 0, .int .i32 0]]) (by simp [results, Try.results26, go_sem, z0, z1]) rfl (.inr ⟨?_, rfl, ?_⟩)
    · intro h1 h2
      have := HV.out
      simp [h1, h2] at this
    · exact Below.setCell (Below.setCell B1.out (by show _ ≤ w.heap.size + 1 + 1; omega) _) (by show _ ≤ w.heap.size + 1 + 1; omega) _
  case true =>
    have HVV : Hid (0 < n ∧ Lib.hasPrefix (K 0).data.toList [46] = true) := Lib.hid (by simpa using HV.out)
    have hkp := K1.out
    obtain ⟨b1, b2, b3, b4, b5⟩ := hkp
    have p0 : w1.cell? ⟨w.heap.size, 0, none⟩ = some (.pointer none) := cell_blk b2 rfl
    have p1 : w1.cell? ⟨w.heap.size, 1, none⟩ = some (.pointer none) := cell_blk b2 rfl
    have p2 : w1.cell? ⟨w.heap.size, 2, none⟩ = some (.pointer none) := cell_blk b2 rfl
    have p3 : w1.cell? ⟨w.heap.size, 3, none⟩ = some (.int .u8 0) := cell_blk b2 rfl
    have o0 : w1.cell? ⟨w.heap.size + 1, 0, none⟩ = some (.string ⟨#[]⟩) := cell_blk b3 rfl
    have o1 : w1.cell? ⟨w.heap.size + 1, 1, none⟩ = some (.slice none 0 0) := cell_blk b3 rfl
    have o2 : w1.cell? ⟨w.heap.size + 1, 2, none⟩ = some (.slice (some ⟨b, 0, none⟩) n c) := cell_blk b3 rfl
    have o3 : w1.cell? ⟨w.heap.size + 1, 3, none⟩ = some (.slice none 0 0) := cell_blk b3 rfl
    have o4 : w1.cell? ⟨w.heap.size + 1, 4, none⟩ = some (.int .i32 0) := cell_blk b3 rfl
    have o5 : w1.cell? ⟨w.heap.size + 1, 5, none⟩ = some (.int .i32 0) := cell_blk b3 rfl
    have o6 : w1.cell? ⟨w.heap.size + 1, 6, none⟩ = some (.int .u8 3) := cell_blk b3 rfl
    have B1 := Lib.hid b1
    clear b1 b2 b3 b4
    have E1 := Lib.hid (HE.out.below B1.out)
    cases hst : Lib.hasSuffix q.data.toList [42]
    · have HST := Lib.hid hst
      clear hst
      go_wp2_with fail
      refine (C33.out _ E1.out HST.out).mono ?_
      intro e w2 h
      rcases h with ⟨j, hj, hj1, hj2, rfl, hb2⟩ | ⟨hall, rfl, hb2⟩
      · have K2 : Hid (Kp w (some ⟨b, 0, none⟩) n c w2) := Lib.hid (K1.out.below (Nat.le_refl _) hb2)
        have HJ := Lib.hid (And.intro hj1 hj2)
        clear hb2 hj1 hj2 p0 p1 p2 p3 o0 o1 o2 o3 o4 o5 o6
        obtain ⟨b1, b2, b3, b4, b5⟩ := K2.out
        have z0 : w2.cell? ⟨w.heap.size + 1 + 1, 0, none⟩ = some (.int .i32 0) := cell_blk b4 rfl
        have z1 : w2.cell? ⟨w.heap.size + 1 + 1, 1, none⟩ = some (.int .i32 0) := cell_blk b4 rfl
        have y0 := frozen_of_row w2 (w.heap.size + 1 + 1) 0 _ 27 b4
        have y1 := frozen_of_row w2 (w.heap.size + 1 + 1) 1 _ 27 b4
        have b7 : w.heap.size + 1 + 1 < w2.heap.size := by omega
        have B2 := Lib.hid b1
        clear b1 b2 b3 b4
        go_wp2_with fail
        go_region
        all_goals (go_wp2_with fail; refine bodyPost_ret (v := .tuple #[.bool true, .string (K j), .agg #[.int .i32 ((j : Int) + 1), .int .i32 1]]) (by simp [results, Try.results26, go_sem, z0, z1, b7]) rfl (.inl ⟨j, hj, HJ.out.1, HJ.out.2, HVV.out.1, HVV.out.2, HST.out, rfl, ?_⟩))
        all_goals exact Below.drewR (Below.alloc (Below.setCell (Below.setCell B2.out (by show _ ≤ w.heap.size + 1 + 1; omega) _) (by show _ ≤ w.heap.size + 1 + 1; omega) _) (by simp; omega) _)
      · have K2 : Hid (Kp w (some ⟨b, 0, none⟩) n c w2) := Lib.hid (K1.out.below (Nat.le_refl _) hb2)
        have HJ := Lib.hid hall
        clear hb2 hall p0 p1 p2 p3 o0 o1 o2 o3 o4 o5 o6
        obtain ⟨b1, b2, b3, b4, b5⟩ := K2.out
        have z0 : w2.cell? ⟨w.heap.size + 1 + 1, 0, none⟩ = some (.int .i32 0) := cell_blk b4 rfl
        have z1 : w2.cell? ⟨w.heap.size + 1 + 1, 1, none⟩ = some (.int .i32 0) := cell_blk b4 rfl
        have y0 := frozen_of_row w2 (w.heap.size + 1 + 1) 0 _ 27 b4
        have y1 := frozen_of_row w2 (w.heap.size + 1 + 1) 1 _ 27 b4
        have b7 : w.heap.size + 1 + 1 < w2.heap.size := by omega
        have B2 := Lib.hid b1
        clear b1 b2 b3 b4
        go_wp2_with fail
        refine bodyPost_ret (v := .tuple #[.bool false, .string ⟨#[]⟩, .agg #[.int .i32 0, .int .i32 0]]) (by simp [results, Try.results26, go_sem, z0, z1, b7]) rfl (.inr ⟨fun _ _ _ => HJ.out, rfl, ?_⟩)
        exact Below.alloc (Below.setCell (Below.setCell B2.out (by show _ ≤ w.heap.size + 1 + 1; omega) _) (by show _ ≤ w.heap.size + 1 + 1; omega) _) (by simp; omega) _
    · have HST := Lib.hid hst
      clear hst
      go_wp2_with fail
      refine (C33s.out _ HST.out).mono ?_
      rintro e w2 ⟨rfl, hb2⟩
      have K2 : Hid (Kp w (some ⟨b, 0, none⟩) n c w2) := Lib.hid (K1.out.below (Nat.le_refl _) hb2)
      clear hb2 p0 p1 p2 p3 o0 o1 o2 o3 o4 o5 o6
      obtain ⟨b1, b2, b3, b4, b5⟩ := K2.out
      have z0 : w2.cell? ⟨w.heap.size + 1 + 1, 0, none⟩ = some (.int .i32 0) := cell_blk b4 rfl
      have z1 : w2.cell? ⟨w.heap.size + 1 + 1, 1, none⟩ = some (.int .i32 0) := cell_blk b4 rfl
      have y0 := frozen_of_row w2 (w.heap.size + 1 + 1) 0 _ 27 b4
      have y1 := frozen_of_row w2 (w.heap.size + 1 + 1) 1 _ 27 b4
      have b7 : w.heap.size + 1 + 1 < w2.heap.size := by omega
      have B2 := Lib.hid b1
      clear b1 b2 b3 b4
      go_wp2_with fail
      refine bodyPost_ret (v := .tuple #[.bool false, .string ⟨#[]⟩, .agg #[.int .i32 0, .int .i32 0]]) (by simp [results, Try.results26, go_sem, z0, z1, b7]) rfl (.inr ⟨fun _ _ h => (by rw [HST.out] at h; cases h), rfl, ?_⟩)
      exact Below.alloc (Below.setCell (Below.setCell B2.out (by show _ ≤ w.heap.size + 1 + 1; omega) _) (by show _ ≤ w.heap.size + 1 + 1; omega) _) (by simp; omega) _
set_option maxRecDepth 100000 in
set_option maxHeartbeats 4000000 in
theorem rv16 (q : ByteArray) (b n c : Nat) (K S : Nat → ByteArray) (w : World) (hn : n ≤ 4096) (hq : q.size ≤ 1048576) (hE : Ents w b n K S) :
    Calls Try.prog 16 #[.string q, .agg (objV (some ⟨b, 0, none⟩) n c), .map none] w (Ans q n K S w) := by
  have HE := Lib.hid hE
  have hbl := hE.1
  clear hE
  have C26 : Hid (∀ w', Ents w' b n K S → Calls Try.prog 26 #[.agg rqV, .string q, .agg (objV (some ⟨b, 0, none⟩) n c), .map none] w' (Ans q n K S w')) := Lib.hid fun w' h => rv26 q b n c K S w' hn hq h
  unfold objV rqV at C26
  unfold objV
  go_enter Try.func16, Try.ntmps16
  go_wp2_with fail
  refine (C26.out _ (HE.out.below (by (repeat' (first | exact Below.refl _ _ | refine Below.drewR ?_ | (refine Below.alloc ?_ (by simp; omega) _) | (refine Below.alloc ?_ (by simp) _) | (refine Below.setCell ?_ (by simp; omega) _) | (refine Below.setCell ?_ (by simp) _)))))).mono ?_
  intro e w1 h
  rcases h with ⟨j, hj, hj1, hj2, hj3, hj4, hj5, rfl, hb⟩ | ⟨hall, rfl, hb⟩
  · have c0 := hb.cell (p := ⟨w.heap.size + 1, 0, none⟩) (by simp)
    have c1 := hb.cell (p := ⟨w.heap.size + 1, 1, none⟩) (by simp)
    have f0 := hb.frozen (p := ⟨w.heap.size + 1, 0, none⟩) (by simp)
    have f1 := hb.frozen (p := ⟨w.heap.size + 1, 1, none⟩) (by simp)
    simp [go_sem] at c0 c1 f0 f1
    have HB := Lib.hid hb
    have HJ := Lib.hid (And.intro hj1 (And.intro hj2 (And.intro hj3 (And.intro hj4 hj5))))
    clear hb hj1 hj2 hj3 hj4 hj5
    go_wp2_with fail
    refine bodyPost_ret (v := .tuple #[.bool true, .string (K j), .agg #[.int .i32 ((j : Int) + 1), .int .i32 1]]) (by simp [results, Try.results16, go_sem, c0, c1]) rfl (.inl ⟨j, hj, HJ.out.1, HJ.out.2.1, HJ.out.2.2.1, HJ.out.2.2.2.1, HJ.out.2.2.2.2, rfl, ?_⟩)
    have b2 : Below w.heap.size w w1 := Below.trans (by (repeat' (first | exact Below.refl _ _ | refine Below.drewR ?_ | (refine Below.alloc ?_ (by simp; omega) _) | (refine Below.alloc ?_ (by simp) _) | (refine Below.setCell ?_ (by simp; omega) _) | (refine Below.setCell ?_ (by simp) _)))) (HB.out.mono (by simp; omega))
    exact (b2.setCell (by simp) _).setCell (by simp) _
  · have c0 := hb.cell (p := ⟨w.heap.size + 1, 0, none⟩) (by simp)
    have c1 := hb.cell (p := ⟨w.heap.size + 1, 1, none⟩) (by simp)
    have f0 := hb.frozen (p := ⟨w.heap.size + 1, 0, none⟩) (by simp)
    have f1 := hb.frozen (p := ⟨w.heap.size + 1, 1, none⟩) (by simp)
    simp [go_sem] at c0 c1 f0 f1
    have HB := Lib.hid hb
    have HJ := Lib.hid hall
    clear hb hall
    go_wp2_with fail
    refine bodyPost_ret (v := .tuple #[.bool false, .string ⟨#[]⟩, .agg #[.int .i32 0, .int .i32 0]]) (by simp [results, Try.results16, go_sem, c0, c1]) rfl (.inr ⟨HJ.out, rfl, ?_⟩)
    have b2 : Below w.heap.size w w1 := Below.trans (by (repeat' (first | exact Below.refl _ _ | refine Below.drewR ?_ | (refine Below.alloc ?_ (by simp; omega) _) | (refine Below.alloc ?_ (by simp) _) | (refine Below.setCell ?_ (by simp; omega) _) | (refine Below.setCell ?_ (by simp) _)))) (HB.out.mono (by simp; omega))
    exact (b2.setCell (by simp) _).setCell (by simp) _
theorem ag_y (s : ByteArray) (a b : Int) (w : World) : Calls Try.prog 18 #[.bool true, .string s, .int .i32 a, .int .i32 b, .bool true, .string s, .int .i32 a, .int .i32 b] w fun e w' => e = .returned (.bool true) ∧ w = w' := by
  go_enter Try.func18, Try.ntmps18
  go_wp2_with fail
  go_ret
  exact ⟨by simp, rfl⟩
theorem ag_n (x y : Int) (s : ByteArray) (w : World) : Calls Try.prog 18 #[.bool false, .string ⟨#[]⟩, .int .i32 0, .int .i32 0, .bool false, .string s, .int .i32 x, .int .i32 y] w fun e w' => e = .returned (.bool true) ∧ w = w' := by
  go_enter Try.func18, Try.ntmps18
  go_wp2_with fail
  go_ret
  exact ⟨rfl, rfl⟩
theorem size62 : (Try.prog.info? 62).map (·.size) = some 10 := by kernel_rfl
theorem cell_sc {w : World} {b o : Nat} {vs : List Value} {a : Addr} {v : Value} (h : w.cell? a = some v) (hne : a.block ≠ b) : (w.setCells b o vs).cell? a = some v := by
  rw [World.cell?_setCells_out b vs o w a (fun e _ => absurd e hne)]; exact h
theorem cell_al {w : World} {o : Obj} {a : Addr} {v : Value} (h : w.cell? a = some v) : (w.alloc o).cell? a = some v := by
  have := World.block_lt_of_cell? w a h
  rw [World.cell?_of_block (Below.heap_alloc w o a.block this)]
  exact h
theorem e62 : ∃ z bytes, bytes ≤ 1024 ∧ (Try.prog.info? 62).map (fun i => (i.zero, i.size, i.bytes)) = some (some z, 10, bytes) := ⟨.agg #[.string ⟨#[]⟩, .string ⟨#[]⟩, .slice none 0 0, .slice none 0 0, .slice none 0 0, .int .i32 0, .int .i32 0, .int .u8 0, .int .i32 0, .int .i32 0], 128, by omega, by kernel_rfl⟩
def Obj (n : Nat) (K S : Nat → ByteArray) (w : World) (e : Ending) (w' : World) : Prop :=
  ∃ b c, e = .returned (.agg (objV (some ⟨b, 0, none⟩) n c)) ∧ Below w.heap.size w w' ∧ Ents w' b n K S
def ov (V : Nat → Value) (o : Nat) : List Value → Nat → Value
  | [] => V
  | v :: r => ov (upd V o v) (o + 1) r
theorem ov_out (vs : List Value) : ∀ (V : Nat → Value) (o i : Nat), i < o ∨ o + vs.length ≤ i → ov V o vs i = V i := by
  induction vs with
  | nil => intro V o i _; rfl
  | cons v r ih =>
    intro V o i h
    simp only [List.length_cons] at h
    rw [ov, ih _ _ _ (by omega), upd_other _ _ _ _ (by omega)]
theorem ov_in (vs : List Value) : ∀ (V : Nat → Value) (o j : Nat), j < vs.length → ov V o vs (o + j) = vs.getD j undef := by
  induction vs with
  | nil => intro V o j h; simp at h
  | cons v r ih =>
    intro V o j h
    cases j with
    | zero => rw [ov, Nat.add_zero, ov_out _ _ _ _ (by omega)]; exact upd_same _ _ _
    | succ j =>
      simp only [List.length_cons] at h
      rw [ov, show o + (j + 1) = o + 1 + j by omega, ih _ _ _ (by omega)]
      simp
theorem blk_sc {b : Nat} {t : TypeId} {n : Nat} (vs : List Value) : ∀ (o : Nat) (w : World) (V : Nat → Value), Fblk w b t n V → Fblk (w.setCells b o vs) b t n (ov V o vs) := by
  induction vs with
  | nil => intro o w V h; exact h
  | cons v r ih => intro o w V h; rw [World.setCells]; exact ih _ _ _ (h.set o v)
theorem below_sc {B b : Nat} {w0 : World} (vs : List Value) (hb : B ≤ b) : ∀ (o : Nat) (w : World), Below B w0 w → Below B w0 (w.setCells b o vs) := by
  induction vs with
  | nil => intro o w h; exact h
  | cons v r ih => intro o w h; rw [World.setCells]; exact ih _ _ (h.setCell hb v)
theorem heap_sc {b k : Nat} (vs : List Value) (hb : k ≠ b) : ∀ (o : Nat) (w : World), (w.setCells b o vs).heap[k]? = w.heap[k]? := by
  induction vs with
  | nil => intro o w; rfl
  | cons v r ih => intro o w; rw [World.setCells, ih]; exact Below.heap_setCell _ _ _ _ hb
theorem obj25 (A : Option Addr) (n c : Nat) (w : World) : Calls Try.prog 25 #[.slice A n c, .slice none 0 0] w fun e w' => e = .returned (.agg (objV A n c)) ∧ w' = w.alloc (.cells (objV A n c) 35) := by
  go_enter Try.func25, Try.ntmps25
  go_wp2_with fail
  exact bodyPost_ret (v := .agg (objV A n c)) (by simp [results, Try.results25, go_sem, objV]) rfl ⟨rfl, rfl⟩
theorem cells7 {w : World} {b : Nat} {t : TypeId} {v0 v1 v2 v3 v4 v5 v6 : Value} (h : w.heap[b]? = some (.cells #[v0, v1, v2, v3, v4, v5, v6] t (0, 0))) :
    w.cell? ⟨b, 0, none⟩ = some v0 ∧ w.cell? ⟨b, 1, none⟩ = some v1 ∧ w.cell? ⟨b, 2, none⟩ = some v2 ∧ w.cell? ⟨b, 3, none⟩ = some v3 ∧ w.cell? ⟨b, 4, none⟩ = some v4 ∧ w.cell? ⟨b, 5, none⟩ = some v5 ∧ w.cell? ⟨b, 6, none⟩ = some v6 :=
  ⟨by rw [cell_of_row w b 0 _ t _ h]; rfl, by rw [cell_of_row w b 1 _ t _ h]; rfl, by rw [cell_of_row w b 2 _ t _ h]; rfl, by rw [cell_of_row w b 3 _ t _ h]; rfl, by rw [cell_of_row w b 4 _ t _ h]; rfl, by rw [cell_of_row w b 5 _ t _ h]; rfl, by rw [cell_of_row w b 6 _ t _ h]; rfl⟩
set_option maxHeartbeats 4000000 in
set_option maxRecDepth 100000 in
theorem obj15 (a1 : Option Addr) (n c1 : Nat) (K : Nat → ByteArray) (a2 : Option Addr) (c2 : Nat) (S : Nat → ByteArray) (w : World) (h1 : Fsl w a1 n (fun i => .string (K i))) (h2 : Fsl w a2 n (fun i => .string (S i))) (hn : n ≤ 4096) :
    Calls Try.prog 15 #[.slice a1 n c1, .slice a2 n c2] w (Obj n K S w) := by
  obtain ⟨z, bytes, hb, hi⟩ := e62
  obtain ⟨cs, hcs⟩ : ∃ cs, z.cells = cs := ⟨_, rfl⟩
  have hmk := run_make_many (P := Try.prog) Try.underlying31 hi hcs hb n (by omega)
  clear hi hcs
  have PJ := Lib.hid (fun k w => pj (S k) ((k : Int) + 1) 1 w)
  unfold pjV at PJ
  go_enter Try.func15, Try.ntmps15
  go_wp2_with fail
  go_loopw [6] (fun i wr => ∃ k : Nat, k ≤ n ∧ i = .int .i64 k ∧ (∃ V, Fblk wr (w.heap.size + 1) 62 (n * 10) V ∧ ∀ j, j < k → ∀ i, i < 10 → V (j * 10 + i) = (meV (K j) (S j) ((j : Int) + 1) 1).getD i undef) ∧ Below w.heap.size w wr ∧ wr.heap[w.heap.size]? = some (.cells #[.string ⟨#[]⟩, .slice none 0 0, .slice none 0 0, .slice none 0 0, .int .i32 0, .int .i32 0, .int .u8 0] 35 (0, 0))) (fun i _ => n - (intOf i).toNat)
  case atStart =>
    refine ⟨0, by omega, rfl, ⟨fun i => (madeCells cs (n * 10)).getD i undef, ?_, fun j hj => absurd hj (Nat.not_lt_zero _)⟩, ((Below.refl _ _).alloc (Nat.le_refl _) _).alloc (by simp) _, ?_⟩
    · exact Fblk.madeManyAt (by simp)
    · rw [Below.heap_alloc _ _ _ (by simp)]
      exact heap_alloc_new _ _
  case round =>
    obtain ⟨k, hk, rfl, ⟨V, hV, hV0⟩, hl, hr⟩ := hrel
    have HV := Lib.hid hV
    have H0 := Lib.hid hV0
    have HR := Lib.hid hr
    clear hV0 hr
    by_cases hlt : k < n
    · obtain ⟨b, off, rfl, hlb, hc⟩ := h1.at k hlt
      obtain ⟨b2, off2, rfl, hlb2, hc2⟩ := h2.at k hlt
      have f1 : wr.cell? ⟨b, off + k, none⟩ = some (.string (K k)) := by rw [hl.cell (p := ⟨b, off + k, none⟩) hlb]; exact hc
      have f2 : wr.cell? ⟨b2, off2 + k, none⟩ = some (.string (S k)) := by rw [hl.cell (p := ⟨b2, off2 + k, none⟩) hlb2]; exact hc2
      have hsz := hl.size
      have hEb := HV.out.lt
      have hk2 : (k : Int) < (n : Int) := by omega
      obtain ⟨M, hM⟩ : ∃ M, meV (K k) (S k) ((k : Int) + 1) 1 = M := ⟨_, rfl⟩
      have ME := Lib.hid (fun w => me (K k) (S k) ((k : Int) + 1) 1 w)
      rw [hM] at ME
      unfold pjV at ME
      have sM : M.size = 10 := by rw [← hM]; rfl
      have aM : M.all (·.oneCell') = true := by rw [← hM]; simp [meV, Value.oneCell']
      have HM := Lib.hid hM
      have hth : wr.there (w.heap.size + 1) (k * 10) 10 := fun j hj => ⟨by rw [hV.cell (k * 10 + j) (by omega)]; rfl, hV.frozen (k * 10 + j)⟩
      have r1 : ∀ W : World, W.there (w.heap.size + 1) (k * 10) 10 → (Instr.storeAt 62 (.pointer (some ⟨w.heap.size + 1, k * 10, none⟩)) (.agg M)).run Try.prog W = .ok () (W.setCells (w.heap.size + 1) (k * 10) M.toList) :=
        fun W h => run_storeAt_mid W _ _ 62 M (by rw [sM]; exact h) (by rw [sM]; exact size62) aM
      have r2 : ∀ W : World, W.there (w.heap.size + 1) (k * 10) 10 → (storeVar 62 ⟨w.heap.size + 1, k * 10, none⟩ (.agg M)).run Try.prog W = .ok () (W.setCells (w.heap.size + 1) (k * 10) M.toList) :=
        fun W h => run_storeVar_mid W _ _ 62 M (by rw [sM]; exact h) (by rw [sM]; exact size62) aM
      have r3 : ∀ W : World, W.there (w.heap.size + 1) (k * 10) 10 → (storeCells ⟨w.heap.size + 1, k * 10, none⟩ M.toList).run Try.prog W = .ok () (W.setCells (w.heap.size + 1) (k * 10) M.toList) := fun W h => by
        have := run_storeCells_cells (P := Try.prog) (w.heap.size + 1) (k * 10) M.toList 0 W (fun j hj => by simpa using (h j (by simpa [sM] using hj)).1) (fun j hj => by simpa using (h j (by simpa [sM] using hj)).2)
          (fun v hv => (Array.all_eq_true_iff_forall_mem.1 aM) v (by simpa using hv))
        simpa using this
      clear hM aM
      have w1 : IntKind.i64.wrap ((k : Int) + 1) = (k : Int) + 1 := IntWalk.i64_in _ (by omega)
      have w2 : IntKind.i32.wrap ((k : Int) + 1) = (k : Int) + 1 := IntWalk.i32_in _ (by omega)
      have x1 : b < wr.heap.size := by omega
      have x2 : b2 < wr.heap.size := by omega
      have x8 : b ≠ w.heap.size + 1 := by omega
      have x9 : b2 ≠ w.heap.size + 1 := by omega
      have x3 : w.heap.size < wr.heap.size := by omega
      have x4 : w.heap.size < wr.heap.size + 1 := by omega
      have x5 : ¬ w.heap.size + 1 = wr.heap.size := by omega
      have x6 : ¬ w.heap.size = wr.heap.size := by omega
      have x7 : ¬ w.heap.size = wr.heap.size + 1 := by omega
      clear hc hc2 hV
      go_wp2_with fail
      go_region_held3 (fun w' => w'.cell? ⟨b, off + k, none⟩ = some (.string (K k)) ∧ w'.cell? ⟨b2, off2 + k, none⟩ = some (.string (S k)) ∧ w'.there (w.heap.size + 1) (k * 10) 10) (((try dsimp only); (repeat' apply And.intro); all_goals (first | exact f1 | exact f2 | exact hth | exact cell_al f1 | exact cell_al f2 | exact World.there_alloc hth _ | exact cell_al (cell_al (cell_al f1)) | exact cell_al (cell_al (cell_al f2)) | exact World.there_alloc (World.there_alloc (World.there_alloc hth _) _) _ | exact cell_sc (cell_al (cell_al (cell_al f1))) x8 | exact cell_sc (cell_al (cell_al (cell_al f2))) x9 | exact World.there_setCells ((World.there_drew _ _ _ _).2 (World.there_alloc (World.there_alloc (World.there_alloc hth _) _) _)) _ _ _)))
        (first | (go_at_call 9; refine (PJ.out k _).mono ?_; rintro e w' ⟨rfl, rfl⟩) | (go_at_call 24; refine (ME.out _).mono ?_; rintro e w' ⟨rfl, rfl⟩))
      clear r1 r2 r3 w1 w2
      go_wp2_with fail
      go_roundw
      case rel =>
        refine ⟨k + 1, by omega, by go_num, ⟨ov V (k * 10) M.toList, ?_, ?_⟩, ?_, ?_⟩
        · exact blk_sc _ _ _ _ ((((HV.out.alloc _).alloc _).alloc _).drew)
        · intro j hj i hi
          have hlen : M.toList.length = 10 := by simpa using sM
          by_cases e : j = k
          · subst e
            rw [ov_in _ _ _ _ (by omega), HM.out]
            simp [Array.getD_eq_getD_getElem?]
          · rw [ov_out _ _ _ _ (by omega)]
            exact H0.out j (by omega) i hi
        · exact below_sc _ (by omega) _ _ (Below.drewR (((hl.alloc (by omega) _).alloc (by simp; omega) _).alloc (by simp; omega) _))
        · rw [heap_sc _ (by omega)]
          show (((wr.alloc _).alloc _).alloc _).heap[w.heap.size]? = _
          rw [Below.heap_alloc _ _ _ (by simp; omega), Below.heap_alloc _ _ _ (by simp; omega), Below.heap_alloc _ _ _ (by omega)]
          exact HR.out
      case measure => simp [intOf]; omega
    · obtain rfl : k = n := by omega
      obtain ⟨q0, q1, q2, q3, q4, q5, q6⟩ := cells7 HR.out
      have f0 := frozen_of_row wr w.heap.size 0 _ 35 HR.out
      have f1 := frozen_of_row wr w.heap.size 1 _ 35 HR.out
      have f2 := frozen_of_row wr w.heap.size 2 _ 35 HR.out
      have f3 := frozen_of_row wr w.heap.size 3 _ 35 HR.out
      have f4 := frozen_of_row wr w.heap.size 4 _ 35 HR.out
      have f5 := frozen_of_row wr w.heap.size 5 _ 35 HR.out
      have f6 := frozen_of_row wr w.heap.size 6 _ 35 HR.out
      have hsz := hl.size
      have x3 : w.heap.size < wr.heap.size := by have := HV.out.lt; omega
      have O25 := Lib.hid (fun A n c w => obj25 A n c w)
      unfold objV at O25
      clear hV
      go_wp2_with fail
      refine (O25.out _ _ _ _).mono ?_
      rintro e w' ⟨rfl, rfl⟩
      go_wp2_with fail
      refine bodyPost_ret (v := .agg #[.string ⟨#[]⟩, .slice none 0 0, .slice (some ⟨w.heap.size + 1, 0, none⟩) k k, .slice none 0 0, .int .i32 0, .int .i32 0, .int .u8 3]) (by simp [results, Try.results15, go_sem, q0, q1, q2, q3, q4, q5, q6, x3]) rfl ⟨_, _, rfl, ?_, ?_, ?_⟩
      · refine Below.alloc ?_ (by simp [World.setCell]; omega) _
        iterate 7 (refine Below.setCell ?_ (Nat.le_refl w.heap.size) _)
        exact hl
      · have := HV.out.lt
        simp [World.setCell]
        omega
      · intro j hj i hi
        rw [← H0.out j hj i hi]
        refine Fblk.cell (t := 62) (n := k * 10) (V := V) ?_ (j * 10 + i) (by omega)
        refine Fblk.alloc ?_ _
        iterate 7 (refine Fblk.other ?_ (by show w.heap.size ≠ w.heap.size + 1; omega) _)
        exact HV.out
/-- The loop that looks for the wanted key. -/
def Wn (q : ByteArray) (n k : Nat) (K S : Nat → ByteArray) : Prop := k ≤ n ∧ ∀ i, i < k → S i ≠ q
set_option maxRecDepth 100000 in
set_option maxHeartbeats 4000000 in
theorem main (q : ByteArray) (a1 : Option Addr) (n1 c1 : Nat) (K : Nat → ByteArray) (a2 : Option Addr) (n2 c2 : Nat) (S : Nat → ByteArray) (w : World) (h1 : Fsl w a1 n1 (fun i => .string (K i))) (h2 : Fsl w a2 n2 (fun i => .string (S i)))
    (hq : q.size ≤ maxLen) (m1 : n1 ≤ maxLen) (m2 : n2 ≤ maxLen) (z1 : ∀ i, i < n1 → (K i).size ≤ maxLen) (z2 : ∀ i, i < n2 → (S i).size ≤ maxLen) :
    Calls Try.prog 4 #[.string q, .slice a1 n1 c1, .slice a2 n2 c2] w fun e w' => e = .returned (.bool true) ∧ Below w.heap.size w w' := by
  have CZ := Lib.hid (zb q a1 n1 c1 K a2 n2 c2 S w h1 h2 hq m1 m2 z1 z2)
  have H1 := Lib.hid h1
  have H2 := Lib.hid h2
  clear h1 h2 hq m1 m2 z1 z2
  go_enter Try.func4, Try.ntmps4
  go_wp2_with fail
  refine CZ.out.mono ?_
  rintro e w1 ⟨v, rfl, hv, rfl⟩
  have HV := Lib.hid hv
  clear hv CZ
  cases v
  · go_wp2_with fail
    go_ret
    exact ⟨rfl, Below.refl _ _⟩
  obtain ⟨hq, m1, m2, z1, z2⟩ := HV.out rfl
  have Z1 := Lib.hid z1
  have Z2 := Lib.hid z2
  clear z1 z2 HV
  go_wp2_with fail
  refine (fits q a1 n1 c1 K a2 n2 c2 S w H1.out H2.out hq m1 m2 Z1.out Z2.out).mono ?_
  rintro e w1 ⟨v, rfl, hv, hb1⟩
  have HV := Lib.hid hv
  have B1 := Lib.hid hb1
  clear hv hb1
  cases v
  · go_wp2_with fail
    go_ret
    exact ⟨rfl, B1.out⟩
  obtain ⟨hn, rfl⟩ := HV.out rfl
  clear HV
  go_wp2_with fail
  refine (plain a1 n1 c1 K w1 (H1.out.below B1.out) hn Z1.out).mono ?_
  rintro e w' ⟨⟨v, rfl⟩, rfl⟩
  cases v
  · go_wp2_with fail
    go_ret
    exact ⟨rfl, B1.out⟩
  go_wp2_with fail
  go_loop [7, 8] (fun z i => ∃ k m : Nat, k ≤ n1 ∧ m ≤ k ∧ i = .int .i64 k ∧ z = .int .i64 m) (fun _ i => n1 - (intOf i).toNat)
  case atStart => exact ⟨0, 0, by omega, by omega, rfl, rfl⟩
  case round =>
    obtain ⟨k, m, hk, hm, rfl, rfl⟩ := hrel
    by_cases hlt : k < n1
    · obtain ⟨b, off, rfl, hlb, hc⟩ := (H1.out.below B1.out).at k hlt
      have hs := Z1.out k hlt
      have hk2 : (k : Int) < (n1 : Int) := by omega
      obtain ⟨v, hv⟩ : ∃ v, Lib.hasPrefix (K k).data.toList [46] = v := ⟨_, rfl⟩
      have HV := Lib.hid hv
      clear hv
      go_wp2_with fail
      refine (pre14v (K k) v _ hs HV.out).mono ?_
      rintro e w' ⟨rfl, rfl⟩
      cases v
      · go_wp2_with fail
        go_round
        case rel => exact ⟨k + 1, m, by omega, by omega, by go_num, rfl⟩
        case measure => simp [intOf]; omega
      · go_wp2_with fail
        go_round
        case rel => exact ⟨k + 1, m + 1, by omega, by omega, by go_num, by go_num⟩
        case measure => simp [intOf]; omega
    · by_cases d0 : m = 0
      · have e0 : ((m : Int) == 0) = true := by simpa using d0
        have e1 : ((m : Int) != 0) = false := by simpa using d0
        clear d0
        go_wp2_with fail
        refine (obj15 a1 n1 c1 K a2 c2 S w1 (H1.out.below B1.out) (H2.out.below B1.out) hn).mono ?_
        rintro e w3 ⟨b, c, rfl, hb3, hE⟩
        have HE := Lib.hid hE
        have B3 := Lib.hid (B1.out.trans (hb3.mono B1.out.size))
        have F1 := Lib.hid ((H1.out.below B1.out).below hb3)
        have F2 := Lib.hid ((H2.out.below B1.out).below hb3)
        have hbl := hE.1
        have hs3 := B3.out.size
        clear hb3 hE
        have C16 : Hid (∀ w', Ents w' b n1 K S → Calls Try.prog 16 #[.string q, .agg (objV (some ⟨b, 0, none⟩) n1 c), .map none] w' (Ans q n1 K S w')) := Lib.hid fun w' h => rv16 q b n1 c K S w' hn hq h
        unfold objV at C16
        unfold objV
        go_wp2_with fail
        refine (C16.out _ (HE.out.below ((Below.refl _ _).alloc (Nat.le_refl _) _))).mono ?_
        intro e w4 h
        rcases h with ⟨j, hj, hj1, hj2, hj3, hj4, hj5, rfl, hb4⟩ | ⟨hall, rfl, hb4⟩
        · have HJ := Lib.hid hj1
          have HJ2 := Lib.hid hj2
          have HP := Lib.hid hj4
          have HS := Lib.hid hj5
          have B4 := Lib.hid (B3.out.trans (Below.trans (show Below w3.heap.size w3 _ from (Below.refl _ _).alloc (Nat.le_refl _) _) (hb4.mono (by simp)) |>.mono hs3))
          have G1 := Lib.hid ((F1.out.alloc _).below hb4)
          have G2 := Lib.hid ((F2.out.alloc _).below hb4)
          clear hb4 hj1 hj2 hj4 hj5
          obtain ⟨kb, koff, rfl, hkb, hkc⟩ := G1.out.at 0 hj3
          rw [Nat.add_zero] at hkc
          have hl0 : (0 : Int) < (n1 : Int) := by omega
          have hz0 := Z1.out 0 hj3
          go_wp2_with fail
          refine (pre14v (K 0) true _ hz0 HP.out).mono ?_
          rintro e w' ⟨rfl, rfl⟩
          go_wp2_with fail
          refine (suf17v q false _ hq HS.out).mono ?_
          rintro e w' ⟨rfl, rfl⟩
          clear hkc
          go_wp2_with fail
          go_loop [13, 14, 15, 16] (fun v s t i => ∃ k : Nat, k ≤ n1 ∧ i = .int .i64 k ∧ v = .bool false ∧ s = .string ⟨#[]⟩ ∧ t = .int .i32 0 ∧ Hid (∀ i, i < k → S i ≠ q)) (fun _ _ _ i => n1 - (intOf i).toNat)
          case atStart => exact ⟨0, by omega, rfl, rfl, rfl, rfl, Lib.hid fun i hi => absurd hi (Nat.not_lt_zero _)⟩
          case round =>
            obtain ⟨k, hk, rfl, rfl, rfl, rfl, HA⟩ := hrel
            by_cases hlt : k < n1
            · obtain ⟨vb, voff, rfl, hvb, hvc⟩ := G2.out.at k hlt
              have hkc := (G1.out.alloc (.cells #[.int .i32 ((j : Int) + 1), .int .i32 1] 27)).cell k hlt
              have hk2 : (k : Int) < (n1 : Int) := by omega
              by_cases hS : S k = q
              · have hkj : k = j := by
                  rcases Nat.lt_trichotomy k j with h | h | h
                  · exact absurd hS (HJ.out k h)
                  · exact h
                  · exact absurd HJ2.out (HA.out j h)
                subst hkj
                rw [hS] at hvc
                have w1 : IntKind.i64.wrap ((k : Int) + 1) = (k : Int) + 1 := IntWalk.i64_in _ (by omega)
                have w2 : IntKind.i32.wrap ((k : Int) + 1) = (k : Int) + 1 := IntWalk.i32_in _ (by omega)
                clear hS
                go_wp2_with fail
                refine (ag_y (K k) ((k : Int) + 1) 1 _).mono ?_
                rintro e w' ⟨rfl, rfl⟩
                go_wp2_with fail
                go_ret
                exact ⟨rfl, Below.alloc B4.out B4.out.size _⟩
              · have HSk := Lib.hid hS
                have e9 : ((S k).toList == q.toList) = false := by
                  simp only [ByteArray.toList_eq, beq_eq_false_iff_ne]
                  exact fun e => hS (WideShapes.bytes_inj e)
                clear hS
                go_wp2_with fail
                go_round
                case rel => exact ⟨k + 1, by omega, by go_num, rfl, rfl, rfl, Lib.hid fun i hi => by
                  by_cases e : i = k
                  · subst e; exact HSk.out
                  · exact HA.out i (by omega)⟩
                case measure => simp [intOf]; omega
            · exact absurd HJ2.out (HA.out j (by omega))
        · have HALL := Lib.hid hall
          have B4 := Lib.hid (B3.out.trans (Below.trans (show Below w3.heap.size w3 _ from (Below.refl _ _).alloc (Nat.le_refl _) _) (hb4.mono (by simp)) |>.mono hs3))
          have G1 := Lib.hid ((F1.out.alloc _).below hb4)
          have G2 := Lib.hid ((F2.out.alloc _).below hb4)
          have hs4 := B4.out.size
          clear hb4 hall
          by_cases hn0 : 0 < n1
          · obtain ⟨kb, koff, rfl, hkb, hkc⟩ := G1.out.at 0 hn0
            rw [Nat.add_zero] at hkc
            have hl0 : (0 : Int) < (n1 : Int) := by omega
            have hz0 := Z1.out 0 hn0
            obtain ⟨vp, hvp⟩ : ∃ v, Lib.hasPrefix (K 0).data.toList [46] = v := ⟨_, rfl⟩
            have HP := Lib.hid hvp
            clear hvp
            go_wp2_with fail
            refine (pre14v (K 0) vp _ hz0 HP.out).mono ?_
            rintro e w' ⟨rfl, rfl⟩
            cases vp
            · clear hkc
              go_wp2_with fail
              refine (ag_n 0 1 ⟨#[]⟩ _).mono ?_
              rintro e w' ⟨rfl, rfl⟩
              go_wp2_with fail
              go_ret
              exact ⟨rfl, Below.alloc B4.out (by omega) _⟩
            · obtain ⟨vs, hvs⟩ : ∃ v, Lib.hasSuffix q.data.toList [42] = v := ⟨_, rfl⟩
              have HS := Lib.hid hvs
              clear hvs
              go_wp2_with fail
              refine (suf17v q vs _ hq HS.out).mono ?_
              rintro e w' ⟨rfl, rfl⟩
              clear hkc
              cases vs
              · have HA0 := Lib.hid (HALL.out hn0 HP.out HS.out)
                go_wp2_with fail
                go_loop [13, 14, 15, 16] (fun v s t i => ∃ k : Nat, k ≤ n1 ∧ i = .int .i64 k ∧ v = .bool false ∧ s = .string ⟨#[]⟩ ∧ t = .int .i32 0) (fun _ _ _ i => n1 - (intOf i).toNat)
                case atStart => exact ⟨0, by omega, rfl, rfl, rfl, rfl⟩
                case round =>
                  obtain ⟨k, hk, rfl, rfl, rfl, rfl⟩ := hrel
                  by_cases hlt : k < n1
                  · obtain ⟨vb, voff, rfl, hvb, hvc⟩ := G2.out.at k hlt
                    have hk2 : (k : Int) < (n1 : Int) := by omega
                    have e9 : ((S k).toList == q.toList) = false := by
                      simp only [ByteArray.toList_eq, beq_eq_false_iff_ne]
                      exact fun e => HA0.out k hlt (WideShapes.bytes_inj e)
                    go_wp2_with fail
                    go_round
                    case rel => exact ⟨k + 1, by omega, by go_num, rfl, rfl, rfl⟩
                    case measure => simp [intOf]; omega
                  · go_wp2_with fail
                    refine (ag_n 0 1 ⟨#[]⟩ _).mono ?_
                    rintro e w' ⟨rfl, rfl⟩
                    go_wp2_with fail
                    go_ret
                    exact ⟨rfl, Below.alloc B4.out (by omega) _⟩
              · go_wp2_with fail
                refine (ag_n 0 1 ⟨#[]⟩ _).mono ?_
                rintro e w' ⟨rfl, rfl⟩
                go_wp2_with fail
                go_ret
                exact ⟨rfl, Below.alloc B4.out (by omega) _⟩
          · obtain rfl : n1 = 0 := by omega
            go_wp2_with fail
            refine (ag_n 0 1 ⟨#[]⟩ _).mono ?_
            rintro e w' ⟨rfl, rfl⟩
            go_wp2_with fail
            go_ret
            exact ⟨rfl, Below.alloc B4.out (by omega) _⟩
      · have e0 : ((m : Int) == 0) = false := by simpa using d0
        have e1 : ((m : Int) != 0) = true := by simpa using d0
        by_cases d1 : m = n1
        · have e2 : ((m : Int) == (n1 : Int)) = true := by rw [d1]; exact beq_self_eq_true _
          have e3 : ((m : Int) != (n1 : Int)) = false := by rw [d1]; simp
          clear d0 d1
          go_wp2_with fail
          refine (obj15 a1 n1 c1 K a2 c2 S w1 (H1.out.below B1.out) (H2.out.below B1.out) hn).mono ?_
          rintro e w3 ⟨b, c, rfl, hb3, hE⟩
          have HE := Lib.hid hE
          have B3 := Lib.hid (B1.out.trans (hb3.mono B1.out.size))
          have F1 := Lib.hid ((H1.out.below B1.out).below hb3)
          have F2 := Lib.hid ((H2.out.below B1.out).below hb3)
          have hbl := hE.1
          have hs3 := B3.out.size
          clear hb3 hE
          have C16 : Hid (∀ w', Ents w' b n1 K S → Calls Try.prog 16 #[.string q, .agg (objV (some ⟨b, 0, none⟩) n1 c), .map none] w' (Ans q n1 K S w')) := Lib.hid fun w' h => rv16 q b n1 c K S w' hn hq h
          unfold objV at C16
          unfold objV
          go_wp2_with fail
          refine (C16.out _ (HE.out.below ((Below.refl _ _).alloc (Nat.le_refl _) _))).mono ?_
          intro e w4 h
          rcases h with ⟨j, hj, hj1, hj2, hj3, hj4, hj5, rfl, hb4⟩ | ⟨hall, rfl, hb4⟩
          · have HJ := Lib.hid hj1
            have HJ2 := Lib.hid hj2
            have HP := Lib.hid hj4
            have HS := Lib.hid hj5
            have B4 := Lib.hid (B3.out.trans (Below.trans (show Below w3.heap.size w3 _ from (Below.refl _ _).alloc (Nat.le_refl _) _) (hb4.mono (by simp)) |>.mono hs3))
            have G1 := Lib.hid ((F1.out.alloc _).below hb4)
            have G2 := Lib.hid ((F2.out.alloc _).below hb4)
            clear hb4 hj1 hj2 hj4 hj5
            obtain ⟨kb, koff, rfl, hkb, hkc⟩ := G1.out.at 0 hj3
            rw [Nat.add_zero] at hkc
            have hl0 : (0 : Int) < (n1 : Int) := by omega
            have hz0 := Z1.out 0 hj3
            go_wp2_with fail
            refine (pre14v (K 0) true _ hz0 HP.out).mono ?_
            rintro e w' ⟨rfl, rfl⟩
            go_wp2_with fail
            refine (suf17v q false _ hq HS.out).mono ?_
            rintro e w' ⟨rfl, rfl⟩
            clear hkc
            go_wp2_with fail
            go_loop [13, 14, 15, 16] (fun v s t i => ∃ k : Nat, k ≤ n1 ∧ i = .int .i64 k ∧ v = .bool false ∧ s = .string ⟨#[]⟩ ∧ t = .int .i32 0 ∧ Hid (∀ i, i < k → S i ≠ q)) (fun _ _ _ i => n1 - (intOf i).toNat)
            case atStart => exact ⟨0, by omega, rfl, rfl, rfl, rfl, Lib.hid fun i hi => absurd hi (Nat.not_lt_zero _)⟩
            case round =>
              obtain ⟨k, hk, rfl, rfl, rfl, rfl, HA⟩ := hrel
              by_cases hlt : k < n1
              · obtain ⟨vb, voff, rfl, hvb, hvc⟩ := G2.out.at k hlt
                have hkc := (G1.out.alloc (.cells #[.int .i32 ((j : Int) + 1), .int .i32 1] 27)).cell k hlt
                have hk2 : (k : Int) < (n1 : Int) := by omega
                by_cases hS : S k = q
                · have hkj : k = j := by
                    rcases Nat.lt_trichotomy k j with h | h | h
                    · exact absurd hS (HJ.out k h)
                    · exact h
                    · exact absurd HJ2.out (HA.out j h)
                  subst hkj
                  rw [hS] at hvc
                  have w1 : IntKind.i64.wrap ((k : Int) + 1) = (k : Int) + 1 := IntWalk.i64_in _ (by omega)
                  have w2 : IntKind.i32.wrap ((k : Int) + 1) = (k : Int) + 1 := IntWalk.i32_in _ (by omega)
                  clear hS
                  go_wp2_with fail
                  refine (ag_y (K k) ((k : Int) + 1) 1 _).mono ?_
                  rintro e w' ⟨rfl, rfl⟩
                  go_wp2_with fail
                  go_ret
                  exact ⟨rfl, Below.alloc B4.out B4.out.size _⟩
                · have HSk := Lib.hid hS
                  have e9 : ((S k).toList == q.toList) = false := by
                    simp only [ByteArray.toList_eq, beq_eq_false_iff_ne]
                    exact fun e => hS (WideShapes.bytes_inj e)
                  clear hS
                  go_wp2_with fail
                  go_round
                  case rel => exact ⟨k + 1, by omega, by go_num, rfl, rfl, rfl, Lib.hid fun i hi => by
                    by_cases e : i = k
                    · subst e; exact HSk.out
                    · exact HA.out i (by omega)⟩
                  case measure => simp [intOf]; omega
              · exact absurd HJ2.out (HA.out j (by omega))
          · have HALL := Lib.hid hall
            have B4 := Lib.hid (B3.out.trans (Below.trans (show Below w3.heap.size w3 _ from (Below.refl _ _).alloc (Nat.le_refl _) _) (hb4.mono (by simp)) |>.mono hs3))
            have G1 := Lib.hid ((F1.out.alloc _).below hb4)
            have G2 := Lib.hid ((F2.out.alloc _).below hb4)
            have hs4 := B4.out.size
            clear hb4 hall
            by_cases hn0 : 0 < n1
            · obtain ⟨kb, koff, rfl, hkb, hkc⟩ := G1.out.at 0 hn0
              rw [Nat.add_zero] at hkc
              have hl0 : (0 : Int) < (n1 : Int) := by omega
              have hz0 := Z1.out 0 hn0
              obtain ⟨vp, hvp⟩ : ∃ v, Lib.hasPrefix (K 0).data.toList [46] = v := ⟨_, rfl⟩
              have HP := Lib.hid hvp
              clear hvp
              go_wp2_with fail
              refine (pre14v (K 0) vp _ hz0 HP.out).mono ?_
              rintro e w' ⟨rfl, rfl⟩
              cases vp
              · clear hkc
                go_wp2_with fail
                refine (ag_n 0 1 ⟨#[]⟩ _).mono ?_
                rintro e w' ⟨rfl, rfl⟩
                go_wp2_with fail
                go_ret
                exact ⟨rfl, Below.alloc B4.out (by omega) _⟩
              · obtain ⟨vs, hvs⟩ : ∃ v, Lib.hasSuffix q.data.toList [42] = v := ⟨_, rfl⟩
                have HS := Lib.hid hvs
                clear hvs
                go_wp2_with fail
                refine (suf17v q vs _ hq HS.out).mono ?_
                rintro e w' ⟨rfl, rfl⟩
                clear hkc
                cases vs
                · have HA0 := Lib.hid (HALL.out hn0 HP.out HS.out)
                  go_wp2_with fail
                  go_loop [13, 14, 15, 16] (fun v s t i => ∃ k : Nat, k ≤ n1 ∧ i = .int .i64 k ∧ v = .bool false ∧ s = .string ⟨#[]⟩ ∧ t = .int .i32 0) (fun _ _ _ i => n1 - (intOf i).toNat)
                  case atStart => exact ⟨0, by omega, rfl, rfl, rfl, rfl⟩
                  case round =>
                    obtain ⟨k, hk, rfl, rfl, rfl, rfl⟩ := hrel
                    by_cases hlt : k < n1
                    · obtain ⟨vb, voff, rfl, hvb, hvc⟩ := G2.out.at k hlt
                      have hk2 : (k : Int) < (n1 : Int) := by omega
                      have e9 : ((S k).toList == q.toList) = false := by
                        simp only [ByteArray.toList_eq, beq_eq_false_iff_ne]
                        exact fun e => HA0.out k hlt (WideShapes.bytes_inj e)
                      go_wp2_with fail
                      go_round
                      case rel => exact ⟨k + 1, by omega, by go_num, rfl, rfl, rfl⟩
                      case measure => simp [intOf]; omega
                    · go_wp2_with fail
                      refine (ag_n 0 1 ⟨#[]⟩ _).mono ?_
                      rintro e w' ⟨rfl, rfl⟩
                      go_wp2_with fail
                      go_ret
                      exact ⟨rfl, Below.alloc B4.out (by omega) _⟩
                · go_wp2_with fail
                  refine (ag_n 0 1 ⟨#[]⟩ _).mono ?_
                  rintro e w' ⟨rfl, rfl⟩
                  go_wp2_with fail
                  go_ret
                  exact ⟨rfl, Below.alloc B4.out (by omega) _⟩
            · obtain rfl : n1 = 0 := by omega
              go_wp2_with fail
              refine (ag_n 0 1 ⟨#[]⟩ _).mono ?_
              rintro e w' ⟨rfl, rfl⟩
              go_wp2_with fail
              go_ret
              exact ⟨rfl, Below.alloc B4.out (by omega) _⟩
        · have e2 : ((m : Int) == (n1 : Int)) = false := by simp; omega
          have e3 : ((m : Int) != (n1 : Int)) = true := by simp; omega
          clear d0 d1
          go_wp2_with fail
          go_ret
          exact ⟨rfl, B1.out⟩

set_option maxHeartbeats 2000000 in
theorem walk (a0 : ByteArray) (a1 : Option Addr) (len1 cap1 : Nat) (z1 : List ByteArray) (a2 : Option Addr) (len2 cap2 : Nat) (z2 : List ByteArray) (w : World) (w0 : a0.size ≤ maxLen) (w1 : Aid.IsStrs w a1 len1 cap1 z1) (w2 : Aid.IsStrs w a2 len2 cap2 z2) :
    Calls Try.prog 4 #[.string a0, .slice a1 len1 cap1, .slice a2 len2 cap2] w fun e w' => e = .returned (.bool true) ∧ Below w.heap.size w w' := by
  obtain ⟨S1, h1, z1, m1, _⟩ := Fl.of_strs w1
  obtain ⟨S2, h2, z2, m2, _⟩ := Fl.of_strs w2
  exact main a0 a1 len1 cap1 S1 a2 len2 cap2 S2 w h1 h2 w0 m1 m2 z1 z2

set_option maxRecDepth 100000 in
theorem lifted (os : Os) (started : os.Started) (H : Type) (enc : TypeId × Value → H) :
    ReturnsInHanded {} Try.checked os 4 .any (Rows.fnExportsReverseModelSpec.pre6 enc Try.prog Try.f4 Rows.fnExportsReverseModelRow.domain false) (Rows.fnExportsReverseModelSpec.post enc Try.prog Try.f4 false true false false) := by
  refine returnsInHanded_of_change (C := Try.checked) own started (by kernel_rfl) Try.func4
    (ChangeSpec.witness6 (enc := enc) (C := Try.checked) false ⟨#[], #[.string ByteArray.empty, .slice none 0 0, .slice none 0 0], []⟩ 8 (by kernel_rfl) (by kernel_rfl) (by kernel_rfl) (by kernel_rfl)) ?_
  intro W base args ds gs before hval0 hW hcnd _
  have hval : ∀ (j : Nat) t v, Try.f4.params[j]? = some t → args[j]? = some v → Value.okWide Try.prog W .any base t v := hval0
  have hW' := hW
  obtain ⟨p, q, hA0, hV, rfl, hfz, hnd⟩ := hW
  have hA : DataW.TrodAll enc Try.prog W 0 (fun _ => true) true Try.f4.params.toList args.toList ds p := hA0
  rw [Try.params4] at hA hval
  obtain ⟨v0, vs0, d0, ds0, p0, q0, hargs, rfl, rfl, h0, r0⟩ := trodAll_cons hA
  obtain ⟨v1, vs1, d1, ds1, p1, q1, rfl, rfl, rfl, h1, r1⟩ := trodAll_cons r0
  obtain ⟨v2, vs2, d2, ds2, p2, q2, rfl, rfl, rfl, h2, r2⟩ := trodAll_cons r1
  obtain ⟨rfl, rfl, rfl⟩ := trodAll_nil r2
  obtain rfl : args = #[v0, v1, v2] := by cases args; simp_all
  obtain ⟨rfl, rfl⟩ := trodVars_none hV
  obtain ⟨a0, rfl, rfl, rfl, w0⟩ := open_string Try.underlying9 (hval 0 9 v0 rfl rfl) h0
  obtain ⟨a1, len1, cap1, rfl⟩ := okWide_slice Try.underlying37 (hval 1 37 v1 rfl rfl)
  have k1 := h1
  have lt1 : ∀ x ∈ p1, x.block < W.heap.size := by obtain ⟨m, hm⟩ := k1; exact DataW.trod_lt m _ _ _ hm
  obtain ⟨z1, w1⟩ := Aid.open_strs Try.underlying37 Try.underlying9 (by kernel_rfl) h1
  obtain ⟨a2, len2, cap2, rfl⟩ := okWide_slice Try.underlying37 (hval 2 37 v2 rfl rfl)
  have k2 := h2
  have lt2 : ∀ x ∈ p2, x.block < W.heap.size := by obtain ⟨m, hm⟩ := k2; exact DataW.trod_lt m _ _ _ hm
  obtain ⟨z2, w2⟩ := Aid.open_strs Try.underlying37 Try.underlying9 (by kernel_rfl) h2
  clear hA0 hval0
  refine (walk a0 a1 len1 cap1 z1 a2 len2 cap2 z2 W w0 w1 w2).mono fun e W' ⟨he, bel⟩ => ?_
  subst he
  exact ⟨_, rfl, _, _, _, [], _, [], hW', trodAll_mk1 (shut_bool Try.underlying4 _), (trodAll_cons_mk (shut_string Try.underlying9 w0) (trodAll_cons_mk (Below.trod laidOut (by kernel_rfl) (of_decide_eq_true (by kernel_rfl)) k1 bel lt1) (trodAll_cons_mk (Below.trod laidOut (by kernel_rfl) (of_decide_eq_true (by kernel_rfl)) k2 bel lt2) trodAll_mk0))), rfl, bel.frame _, fun h => by cases h⟩

theorem joined : joinedFacts Try.prog 4 Try.f4 Rows.fnExportsReverseModelSpec Rows.fnExportsReverseModelRow = true := by
  unfold joinedFacts
  rw [Facts.enter, Facts.lifts, Facts.make]
  kernel_rfl

theorem over : Rows.fnExportsReverseModelRow.holds Try.pinned (OpenSpec.ofChange Rows.fnExportsReverseModelSpec) :=
  OpenClaim.holds_of_wide 4 Try.f4 rfl rfl rfl rfl rfl rfl rfl ⟨rfl, rfl, rfl, rfl, rfl⟩ rfl rfl rfl rfl rfl (by kernel_rfl) Try.func4 joined
    (of_decide_eq_true (by kernel_rfl)) (by unfold Func.isWrapper; first | (rw [if_pos (by decide +kernel)]; kernel_rfl) | (rw [if_neg (by decide +kernel)]; exact ⟨rfl, rfl⟩))
    (fun os started H enc _ => lifted os started H enc)

theorem proved : Rows.FnExportsReverseModelSaid :=
  over
#print axioms proved
end Go.Proofs.Ytllnkckhafdikaa.fnExportsReverseModel
