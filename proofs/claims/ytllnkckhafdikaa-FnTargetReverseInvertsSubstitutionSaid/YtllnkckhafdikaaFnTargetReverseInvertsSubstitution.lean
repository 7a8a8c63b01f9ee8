/- Reverse-resolving a forward substitution gives back the key with the substituted text. No condition. -/
import Derived.Test.YtllnkckhafdikaaRows
import Derived.WalkKit
import Derived.ProofKit
import Derived.OpenShut
import Derived.ShutString
import Derived.Test.YtllnkckhafdikaaFacts
import Derived.Test.YtllnkckhafdikaaAid
import Derived.Test.YtllnkckhafdikaaFl
import Derived.Test.YtllnkckhafdikaaStr
import Derived.Test.YtllnkckhafdikaaShelf
import Derived.WalkSpells
import Derived.LoopTactic
import Derived.RegionTactic
import Derived.Outline
import Derived.Deep.QuietTactic
import Derived.BigQuiet
import Derived.IntWalk
namespace Go.Proofs.Ytllnkckhafdikaa.fnTargetReverseInvertsSubstitution
open Go.ChangeShapes Go.WideShapes Go.ChangeAt Go.RowKit
open Go.ChangeMaps (open_string shut_string)
set_option linter.unusedVariables false

theorem own : ownKnob Try.prog.godebug = none := by kernel_rfl
theorem laidOut : laidOutB Try.prog = true := by kernel_rfl

open Fl Str PlainAid
theorem count (s : ByteArray) (w : World) (hs : s.size ≤ 1048576) :
    Calls Try.prog 7 #[.string s, .int .u8 42] w fun e w' => w' = w ∧ ∃ n : Nat, e = .returned (.int .i64 n) ∧ (n = 0 → ∀ k, k < s.size → bt s k ≠ 42) := by
  have hbp := get_bt s
  go_enter Try.func7, Try.ntmps7
  go_wp2_with fail
  go_loop [5, 6] (fun z i => ∃ k n : Nat, k ≤ s.size ∧ n ≤ k ∧ i = .int .i64 k ∧ z = .int .i64 n ∧ Hid (n = 0 → ∀ j, j < k → bt s j ≠ 42)) (fun _ i => s.size - (intOf i).toNat)
  case atStart => exact ⟨0, 0, by omega, by omega, rfl, rfl, Lib.hid fun _ j hj => absurd hj (Nat.not_lt_zero _)⟩
  case round =>
    obtain ⟨k, n, hk, hn, rfl, rfl, HB⟩ := hrel
    by_cases hlt : k < s.size
    · have hk2 : (k : Int) < (s.size : Int) := by omega
      cases hz : (bt s k == 42)
      · have HZ := Lib.hid hz
        go_wp2_with fail
        go_round
        case rel => exact ⟨k + 1, n, by omega, by omega, by go_num, rfl, Lib.hid fun h j hj => by
          by_cases q : j = k
          · subst q; simpa using HZ.out
          · exact HB.out h j (by omega)⟩
        case measure => simp [intOf]; omega
      · go_wp2_with fail
        go_round
        case rel => exact ⟨k + 1, n + 1, by omega, by omega, by go_num, by go_num, Lib.hid fun h => absurd h (by omega)⟩
        case measure => simp [intOf]; omega
    · obtain rfl : k = s.size := by omega
      go_wp2_with fail
      go_ret
      exact ⟨rfl, n, rfl, HB.out⟩
def pjV (s : ByteArray) (a b : Int) : Array Value := #[.string s, .slice none 0 0, .slice none 0 0, .slice none 0 0, .int .i32 a, .int .i32 b, .int .u8 1]
theorem pj (s : ByteArray) (a b : Int) (w : World) : Calls Try.prog 9 #[.string s, .int .i32 a, .int .i32 b] w fun e w' => e = .returned (.agg (pjV s a b)) ∧ w' = w.alloc (.cells (pjV s a b) 35) := by
  go_enter Try.func9, Try.ntmps9
  go_wp2_with fail
  exact bodyPost_ret (v := .agg (pjV s a b)) (by simp [results, Try.results9, go_sem, pjV]) rfl ⟨rfl, rfl⟩
theorem Below.drewR {B : Nat} {w w' : World} (h : Below B w w') : Below B w w'.drew := ⟨h.os, h.tape, h.output, h.size, h.block⟩
def rqV : Array Value := #[.pointer none, .pointer none, .pointer none, .int .u8 0]
def Got (w : World) (r : ByteArray) (a b : Int) (e : Ending) (w' : World) : Prop := e = .returned (.tuple #[.bool true, .string r, .agg #[.int .i32 a, .int .i32 b]]) ∧ Below w.heap.size w w'
theorem ib (t : ByteArray) (p : Nat) (w : World) (h : Lib.indexByte t.data.toList (42 : Int).toNat.toUInt8 = (p : Int)) : Calls Try.prog 28 #[.string t, .int .u8 42] w fun e w' => e = .returned (.int .i64 p) ∧ w' = w :=
  (Try.strings_IndexByte t 42 w).mono fun e w' ⟨he, hw⟩ => ⟨by rw [he, h], hw⟩
theorem ts (key kb : ByteArray) (w : World) (hs : key.size ≤ 9223372036854775807) (h : (⟨(Lib.trimSuffix key.data.toList [42]).toArray⟩ : ByteArray) = kb) : Calls Try.prog 30 #[.string key, .string ⟨#[42]⟩] w fun e w' => e = .returned (.string kb) ∧ w' = w :=
  (Try.strings_TrimSuffix key ⟨#[42]⟩ w hs).mono fun e w' ⟨he, hw⟩ => ⟨by rw [he, ← h], hw⟩
theorem cr (t : ByteArray) (w : World) (h : decide (0 ≤ Lib.indexByte t.data.toList (42 : Int).toNat.toUInt8) = false) : Calls Try.prog 31 #[.string t, .int .i32 42] w fun e w' => e = .returned (.bool false) ∧ w' = w :=
  (Try.strings_ContainsRune_ascii t 42 w (by omega) (by omega)).mono fun e w' ⟨he, hw⟩ => ⟨by rw [he, h], hw⟩
theorem hp (s p : ByteArray) (w : World) (h : Lib.hasPrefix s.data.toList p.data.toList = true) : Calls Try.prog 27 #[.string s, .string p] w fun e w' => e = .returned (.bool true) ∧ w' = w :=
  (Try.strings_HasPrefix s p w).mono fun e w' ⟨he, hw⟩ => ⟨by rw [he, h], hw⟩
theorem hsf (s p : ByteArray) (w : World) (hs : s.size ≤ 9223372036854775807) (h : Lib.hasSuffix s.data.toList p.data.toList = true) : Calls Try.prog 29 #[.string s, .string p] w fun e w' => e = .returned (.bool true) ∧ w' = w :=
  (Try.strings_HasSuffix s p w hs).mono fun e w' ⟨he, hw⟩ => ⟨by rw [he, h], hw⟩
set_option maxRecDepth 100000 in
set_option maxHeartbeats 2000000 in
theorem pat23 (q key t kb pre suf sub aft : ByteArray) (a b : Int) (w : World) (hq : q.size ≤ 4194304) (hkey : key.size ≤ 4194304) (ht : pre.size + 1 ≤ t.size) (htl : t.size ≤ 4194304)
    (hql : pre.size ≤ q.size) (haf : aft.size ≤ q.size) (hal : (aft.size : Int) - (suf.size : Int) = (sub.size : Int)) (hal2 : sub.size ≤ aft.size) (hks : kb.size + sub.size ≤ 4194304)
    (hi : Lib.indexByte t.data.toList (42 : Int).toNat.toUInt8 = (pre.size : Int)) (hk : (⟨(Lib.trimSuffix key.data.toList [42]).toArray⟩ : ByteArray) = kb)
    (x1 : t.extract 0 pre.size = pre) (x2 : t.extract (pre.size + 1) t.size = suf) (hc : decide (0 ≤ Lib.indexByte suf.data.toList (42 : Int).toNat.toUInt8) = false)
    (hpp : Lib.hasPrefix q.data.toList pre.data.toList = true) (x3 : q.extract pre.size q.size = aft) (hss : Lib.hasSuffix aft.data.toList suf.data.toList = true) (x4 : aft.extract 0 sub.size = sub) :
    Calls Try.prog 23 #[.agg rqV, .string q, .string key, .agg (pjV t a b), .int .u8 1, .map none] w (Got w (kb ++ sub) a b) := by
  have HI := Lib.hid hi
  have HK := Lib.hid hk
  have HC := Lib.hid hc
  have HP := Lib.hid hpp
  have HS := Lib.hid hss
  have X2 := Lib.hid x2
  clear hi hk hc hpp hss
  have n1 : ((pre.size : Int) == -1) = false := by simp
  have hcat : ∀ w : World, (binOp .add 9 (.string kb) (.string sub)).run Try.prog w = .ok (.string (kb ++ sub)) w := fun w => by
    simp [binOp, go_sem]
    omega
  unfold pjV rqV
  go_enter Try.func23, Try.ntmps23
  go_wp2_with fail
  refine (ib t pre.size _ HI.out).mono ?_
  rintro e w1 ⟨rfl, rfl⟩
  go_wp2_with fail
  refine (ts key kb _ (by omega) HK.out).mono ?_
  rintro e w1 ⟨rfl, rfl⟩
  go_wp2_with fail
  refine (cr suf _ HC.out).mono ?_
  rintro e w1 ⟨rfl, rfl⟩
  go_wp2_with fail
  refine (hp q pre _ HP.out).mono ?_
  rintro e w1 ⟨rfl, rfl⟩
  go_wp2_with fail
  refine (hsf aft suf _ (by omega) HS.out).mono ?_
  rintro e w1 ⟨rfl, rfl⟩
  go_wp2_with fail
  go_region
  all_goals (go_wp2_with fail; exact bodyPost_ret (v := .tuple #[.bool true, .string (kb ++ sub), .agg #[.int .i32 a, .int .i32 b]]) (by simp [results, Try.results23, go_sem]) rfl ⟨rfl, by (repeat' (first | exact Below.refl _ _ | refine Below.drewR ?_ | (refine Below.alloc ?_ (by simp; omega) _) | (refine Below.alloc ?_ (by simp) _) | (refine Below.setCell ?_ (by simp; omega) _) | (refine Below.setCell ?_ (by simp) _)))⟩)
set_option maxRecDepth 100000 in
set_option maxHeartbeats 2000000 in
theorem pre23 (q kb t sub : ByteArray) (a b : Int) (w : World) (hq : q.size ≤ 4194304) (ht : t.size ≤ q.size) (hks : kb.size + sub.size ≤ 4194304)
    (hpp : Lib.hasPrefix q.data.toList t.data.toList = true) (x3 : q.extract t.size q.size = sub) :
    Calls Try.prog 23 #[.agg rqV, .string q, .string kb, .agg (pjV t a b), .int .u8 2, .map none] w (Got w (kb ++ sub) a b) := by
  have HP := Lib.hid hpp
  clear hpp
  have hcat : ∀ w : World, (binOp .add 9 (.string kb) (.string sub)).run Try.prog w = .ok (.string (kb ++ sub)) w := fun w => by
    simp [binOp, go_sem]
    omega
  unfold pjV rqV
  go_enter Try.func23, Try.ntmps23
  go_wp2_with fail
  refine (hp q t _ HP.out).mono ?_
  rintro e w1 ⟨rfl, rfl⟩
  go_wp2_with fail
  go_region
  all_goals (go_wp2_with fail; exact bodyPost_ret (v := .tuple #[.bool true, .string (kb ++ sub), .agg #[.int .i32 a, .int .i32 b]]) (by simp [results, Try.results23, go_sem]) rfl ⟨rfl, by (repeat' (first | exact Below.refl _ _ | refine Below.drewR ?_ | (refine Below.alloc ?_ (by simp; omega) _) | (refine Below.alloc ?_ (by simp) _) | (refine Below.setCell ?_ (by simp; omega) _) | (refine Below.setCell ?_ (by simp) _)))⟩)
set_option maxRecDepth 100000 in
set_option maxHeartbeats 2000000 in
theorem pat8 (q key t r : ByteArray) (a b : Int) (w : World) (h : ∀ w, Calls Try.prog 23 #[.agg rqV, .string q, .string key, .agg (pjV t a b), .int .u8 1, .map none] w (Got w r a b)) : Calls Try.prog 8 #[.string q, .string key, .agg (pjV t a b), .map none] w (Got w r a b) := by
  unfold pjV rqV at h
  have H := Lib.hid h
  clear h
  unfold pjV
  go_enter Try.func8, Try.ntmps8
  go_wp2_with fail
  refine (H.out _).mono ?_
  rintro e w1 ⟨rfl, hb⟩
  have c0 := hb.cell (p := ⟨w.heap.size + 1, 0, none⟩) (by simp)
  have c1 := hb.cell (p := ⟨w.heap.size + 1, 1, none⟩) (by simp)
  have f0 := hb.frozen (p := ⟨w.heap.size + 1, 0, none⟩) (by simp)
  have f1 := hb.frozen (p := ⟨w.heap.size + 1, 1, none⟩) (by simp)
  simp [go_sem] at c0 c1 f0 f1
  have HB := Lib.hid hb
  clear hb
  go_wp2_with fail
  refine bodyPost_ret (v := .tuple #[.bool true, .string r, .agg #[.int .i32 a, .int .i32 b]]) (by simp [results, Try.results8, go_sem, c0, c1]) rfl ⟨rfl, ?_⟩
  have b2 : Below w.heap.size w w1 := Below.trans (by (repeat' (first | exact Below.refl _ _ | refine Below.drewR ?_ | (refine Below.alloc ?_ (by simp; omega) _) | (refine Below.alloc ?_ (by simp) _) | (refine Below.setCell ?_ (by simp; omega) _) | (refine Below.setCell ?_ (by simp) _)))) (HB.out.mono (by simp; omega))
  exact (b2.setCell (by simp) _).setCell (by simp) _
set_option maxRecDepth 100000 in
set_option maxHeartbeats 2000000 in
theorem pre10 (q key t r : ByteArray) (a b : Int) (w : World) (h : ∀ w, Calls Try.prog 23 #[.agg rqV, .string q, .string key, .agg (pjV t a b), .int .u8 2, .map none] w (Got w r a b)) : Calls Try.prog 10 #[.string q, .string key, .agg (pjV t a b), .map none] w (Got w r a b) := by
  unfold pjV rqV at h
  have H := Lib.hid h
  clear h
  unfold pjV
  go_enter Try.func10, Try.ntmps10
  go_wp2_with fail
  refine (H.out _).mono ?_
  rintro e w1 ⟨rfl, hb⟩
  have c0 := hb.cell (p := ⟨w.heap.size + 1, 0, none⟩) (by simp)
  have c1 := hb.cell (p := ⟨w.heap.size + 1, 1, none⟩) (by simp)
  have f0 := hb.frozen (p := ⟨w.heap.size + 1, 0, none⟩) (by simp)
  have f1 := hb.frozen (p := ⟨w.heap.size + 1, 1, none⟩) (by simp)
  simp [go_sem] at c0 c1 f0 f1
  have HB := Lib.hid hb
  clear hb
  go_wp2_with fail
  refine bodyPost_ret (v := .tuple #[.bool true, .string r, .agg #[.int .i32 a, .int .i32 b]]) (by simp [results, Try.results10, go_sem, c0, c1]) rfl ⟨rfl, ?_⟩
  have b2 : Below w.heap.size w w1 := Below.trans (by (repeat' (first | exact Below.refl _ _ | refine Below.drewR ?_ | (refine Below.alloc ?_ (by simp; omega) _) | (refine Below.alloc ?_ (by simp) _) | (refine Below.setCell ?_ (by simp; omega) _) | (refine Below.setCell ?_ (by simp) _)))) (HB.out.mono (by simp; omega))
  exact (b2.setCell (by simp) _).setCell (by simp) _
def Bl (w : World) (e : Ending) (w' : World) : Prop := w' = w ∧ ∃ v, e = .returned (.bool v)
theorem zb (s0 : ByteArray) (s1 : ByteArray) (s2 : ByteArray) (s3 : ByteArray) (x4 : Int) (x5 : Int) (w : World) : Calls Try.prog 6 #[.string s0, .string s1, .string s2, .string s3, .int .i32 x4, .int .i32 x5] w (Bl w) := by
  by_cases h0 : (1048576 : Int) < (s0.size : Int)
  · go_enter Try.func6, Try.ntmps6
    go_wp2_with fail
    go_ret
    exact ⟨rfl, _, rfl⟩
  have e0 : IntKind.i64.wrap ((s0.size : Int)) = (s0.size : Int) := IntWalk.i64_in _ (by omega)
  by_cases h1 : (1048576 : Int) < (s1.size : Int)
  · go_enter Try.func6, Try.ntmps6
    go_wp2_with fail
    go_ret
    exact ⟨rfl, _, rfl⟩
  have e1 : IntKind.i64.wrap ((s0.size : Int) + (s1.size : Int)) = (s0.size : Int) + (s1.size : Int) := IntWalk.i64_in _ (by omega)
  by_cases g1 : (1048576 : Int) < (s0.size : Int) + (s1.size : Int)
  · go_enter Try.func6, Try.ntmps6
    go_wp2_with fail
    go_ret
    exact ⟨rfl, _, rfl⟩
  by_cases h2 : (1048576 : Int) < (s2.size : Int)
  · go_enter Try.func6, Try.ntmps6
    go_wp2_with fail
    go_ret
    exact ⟨rfl, _, rfl⟩
  have e2 : IntKind.i64.wrap ((s0.size : Int) + (s1.size : Int) + (s2.size : Int)) = (s0.size : Int) + (s1.size : Int) + (s2.size : Int) := IntWalk.i64_in _ (by omega)
  by_cases g2 : (1048576 : Int) < (s0.size : Int) + (s1.size : Int) + (s2.size : Int)
  · go_enter Try.func6, Try.ntmps6
    go_wp2_with fail
    go_ret
    exact ⟨rfl, _, rfl⟩
  by_cases h3 : (1048576 : Int) < (s3.size : Int)
  · go_enter Try.func6, Try.ntmps6
    go_wp2_with fail
    go_ret
    exact ⟨rfl, _, rfl⟩
  have e3 : IntKind.i64.wrap ((s0.size : Int) + (s1.size : Int) + (s2.size : Int) + (s3.size : Int)) = (s0.size : Int) + (s1.size : Int) + (s2.size : Int) + (s3.size : Int) := IntWalk.i64_in _ (by omega)
  by_cases g3 : (1048576 : Int) < (s0.size : Int) + (s1.size : Int) + (s2.size : Int) + (s3.size : Int)
  · go_enter Try.func6, Try.ntmps6
    go_wp2_with fail
    go_ret
    exact ⟨rfl, _, rfl⟩
  go_enter Try.func6, Try.ntmps6
  go_wp2_with fail
  go_ret
  exact ⟨rfl, _, rfl⟩
def star : ByteArray := ⟨#[42]⟩
theorem star_size : star.size = 1 := rfl
theorem idx_none {l : List UInt8} {c : UInt8} (h : c ∉ l) : Lib.indexByte l c = -1 := by
  induction l with
  | nil => rfl
  | cons b l ih =>
    have hb : (b == c) = false := by simpa using fun e : b = c => h (e ▸ List.mem_cons_self)
    have := ih fun e => h (List.mem_cons_of_mem _ e)
    simp [Lib.indexByte, hb, this]
theorem idx_at {l r : List UInt8} {c : UInt8} (h : c ∉ l) : Lib.indexByte (l ++ c :: r) c = (l.length : Int) := by
  induction l with
  | nil => simp [Lib.indexByte]
  | cons b l ih =>
    have hb : (b == c) = false := by simpa using fun e : b = c => h (e ▸ List.mem_cons_self)
    have := ih fun e => h (List.mem_cons_of_mem _ e)
    simp only [List.cons_append, Lib.indexByte, hb, this, List.length_cons]
    have : ((l.length : Int) == -1) = false := by simp
    simp [this]
theorem no_mem {s : ByteArray} (h : ∀ k, k < s.size → bt s k ≠ 42) : (42 : UInt8) ∉ s.data.toList := fun e => by
  obtain ⟨k, hk, e⟩ := (mem_bt s 42).1 e
  exact h k hk e
theorem f_idx (pre suf : ByteArray) (h : ∀ k, k < pre.size → bt pre k ≠ 42) : Lib.indexByte (pre ++ star ++ suf).data.toList (42 : Int).toNat.toUInt8 = (pre.size : Int) := by
  have : (pre ++ star ++ suf).data.toList = pre.data.toList ++ 42 :: suf.data.toList := by simp [star]
  rw [this]
  exact idx_at (no_mem h)
theorem f_trim (kb : ByteArray) : (⟨(Lib.trimSuffix (kb ++ star).data.toList [42]).toArray⟩ : ByteArray) = kb := by
  have e : (kb ++ star).data.toList = kb.data.toList ++ [42] := by simp [star]
  have h : Lib.hasSuffix (kb.data.toList ++ [42]) [42] = true := List.isSuffixOf_iff_suffix.2 ⟨_, rfl⟩
  rw [e]
  unfold Lib.trimSuffix
  rw [if_pos h]
  simp
theorem f_cr (suf : ByteArray) (h : ∀ k, k < suf.size → bt suf k ≠ 42) : decide (0 ≤ Lib.indexByte suf.data.toList (42 : Int).toNat.toUInt8) = false := by
  have := idx_none (no_mem h)
  simp only [show (42 : Int).toNat.toUInt8 = 42 from rfl, this]
  rfl
theorem f_hp (a b : ByteArray) : Lib.hasPrefix (a ++ b).data.toList a.data.toList = true := List.isPrefixOf_iff_prefix.2 ⟨b.data.toList, by simp⟩
theorem f_hs (a b : ByteArray) : Lib.hasSuffix (a ++ b).data.toList b.data.toList = true := List.isSuffixOf_iff_suffix.2 ⟨a.data.toList, by simp⟩
theorem pat (kb pre suf sub : ByteArray) (a b : Int) (w : World) (hk : kb.size ≤ 262144) (hp : pre.size ≤ 262144) (hs : suf.size ≤ 262144) (hu : sub.size ≤ 262144)
    (n1 : ∀ k, k < pre.size → bt pre k ≠ 42) (n2 : ∀ k, k < suf.size → bt suf k ≠ 42) :
    Calls Try.prog 8 #[.string (pre ++ sub ++ suf), .string (kb ++ star), .agg (pjV (pre ++ star ++ suf) a b), .map none] w (Got w (kb ++ sub) a b) := by
  refine pat8 _ _ _ _ a b w fun w => pat23 _ _ _ kb pre suf sub (sub ++ suf) a b w ?_ ?_ ?_ ?_ ?_ ?_ ?_ ?_ ?_ (f_idx pre suf n1) (f_trim kb) ?_ ?_ (f_cr suf n2) ?_ ?_ (f_hs sub suf) ?_
  · simp; omega
  · simp [star_size]; omega
  · simp [star_size]
  · simp [star_size]; omega
  · simp <;> omega
  · simp <;> omega
  · simp <;> omega
  · simp
  · omega
  · rw [ByteArray.append_assoc]; exact ByteArray.extract_append_eq_left rfl
  · exact ByteArray.extract_append_eq_right (by simp [star_size]) (by simp)
  · rw [ByteArray.append_assoc]; exact f_hp _ _
  · rw [ByteArray.append_assoc]; exact ByteArray.extract_append_eq_right rfl (by simp)
  · exact ByteArray.extract_append_eq_left rfl
theorem prf (kb pre sub : ByteArray) (a b : Int) (w : World) (hk : kb.size ≤ 262144) (hp : pre.size ≤ 262144) (hu : sub.size ≤ 262144) :
    Calls Try.prog 10 #[.string (pre ++ sub), .string kb, .agg (pjV pre a b), .map none] w (Got w (kb ++ sub) a b) := by
  refine pre10 _ _ _ _ a b w fun w => pre23 _ kb pre sub a b w ?_ ?_ ?_ (f_hp _ _) (ByteArray.extract_append_eq_right rfl (by simp))
  · simp; omega
  · simp
  · omega
set_option maxRecDepth 100000 in
set_option maxHeartbeats 4000000 in
theorem main (kb pre suf sub : ByteArray) (a b : Int) (w : World) : Calls Try.prog 3 #[.string kb, .string pre, .string suf, .string sub, .int .i32 a, .int .i32 b] w fun e w' => e = .returned (.bool true) ∧ Below w.heap.size w w' := by
  go_enter Try.func3, Try.ntmps3
  go_wp2_with fail
  refine (zb kb pre suf sub a b _).mono ?_
  rintro e w1 ⟨rfl, v, rfl⟩
  cases v
  · go_wp2_with fail
    go_ret
    exact ⟨rfl, Below.refl _ _⟩
  by_cases g0 : (262144 : Int) < (kb.size : Int)
  · go_wp2_with fail
    go_ret
    exact ⟨rfl, Below.refl _ _⟩
  by_cases g1 : (262144 : Int) < (pre.size : Int)
  · go_wp2_with fail
    go_ret
    exact ⟨rfl, Below.refl _ _⟩
  by_cases g2 : (262144 : Int) < (suf.size : Int)
  · go_wp2_with fail
    go_ret
    exact ⟨rfl, Below.refl _ _⟩
  by_cases g3 : (262144 : Int) < (sub.size : Int)
  · go_wp2_with fail
    go_ret
    exact ⟨rfl, Below.refl _ _⟩
  have hst := star_size
  have c1 : ∀ w : World, (binOp .add 9 (.string pre) (.string sub)).run Try.prog w = .ok (.string (pre ++ sub)) w := fun w => by
    simp [binOp, go_sem]
    omega
  have c2 : ∀ w : World, (binOp .add 9 (.string (pre ++ sub)) (.string suf)).run Try.prog w = .ok (.string (pre ++ sub ++ suf)) w := fun w => by
    simp [binOp, go_sem]
    omega
  have c3 : ∀ w : World, (binOp .add 9 (.string kb) (.string ⟨#[42]⟩)).run Try.prog w = .ok (.string (kb ++ star)) w := fun w => by
    simp [binOp, go_sem, star, show (⟨#[42]⟩ : ByteArray).size = 1 from rfl]
    omega
  have c4 : ∀ w : World, (binOp .add 9 (.string pre) (.string ⟨#[42]⟩)).run Try.prog w = .ok (.string (pre ++ star)) w := fun w => by
    simp [binOp, go_sem, star, show (⟨#[42]⟩ : ByteArray).size = 1 from rfl]
    omega
  have c5 : ∀ w : World, (binOp .add 9 (.string (pre ++ star)) (.string suf)).run Try.prog w = .ok (.string (pre ++ star ++ suf)) w := fun w => by
    simp [binOp, go_sem, hst]
    omega
  have c6 : ∀ w : World, (binOp .add 9 (.string kb) (.string sub)).run Try.prog w = .ok (.string (kb ++ sub)) w := fun w => by
    simp [binOp, go_sem]
    omega
  clear hst
  go_wp2_with fail
  refine (count pre _ (by omega)).mono ?_
  rintro e w ⟨rfl, n, rfl, hn⟩
  have HN1 := Lib.hid hn
  clear hn
  by_cases m1 : (0 : Int) < (n : Int)
  · go_wp2_with fail
    go_ret
    exact ⟨rfl, Below.refl _ _⟩
  go_wp2_with fail
  refine (count suf _ (by omega)).mono ?_
  rintro e w ⟨rfl, n2, rfl, hn⟩
  have HN2 := Lib.hid hn
  clear hn
  by_cases m2 : (0 : Int) < (n2 : Int)
  · go_wp2_with fail
    go_ret
    exact ⟨rfl, Below.refl _ _⟩
  go_wp2_with fail
  refine (count sub _ (by omega)).mono ?_
  rintro e w ⟨rfl, n3, rfl, hn⟩
  clear hn
  by_cases m3 : (0 : Int) < (n3 : Int)
  · go_wp2_with fail
    go_ret
    exact ⟨rfl, Below.refl _ _⟩
  go_wp2_with fail
  refine (pj _ a b _).mono ?_
  rintro e w1 ⟨rfl, rfl⟩
  go_wp2_with fail
  refine (pat kb pre suf sub a b _ (by omega) (by omega) (by omega) (by omega) (HN1.out (by omega)) (HN2.out (by omega))).mono ?_
  rintro e w2 ⟨rfl, hb2⟩
  have HB2 := Lib.hid (Below.trans (show Below w.heap.size w _ by (repeat' (first | exact Below.refl _ _ | refine Below.drewR ?_ | (refine Below.alloc ?_ (by simp; omega) _) | (refine Below.alloc ?_ (by simp) _) | (refine Below.setCell ?_ (by simp; omega) _) | (refine Below.setCell ?_ (by simp) _)))) (hb2.mono (by simp)))
  clear hb2
  go_wp2_with fail
  refine (pj _ a b _).mono ?_
  rintro e w3 ⟨rfl, rfl⟩
  go_wp2_with fail
  refine (prf kb pre sub a b _ (by omega) (by omega) (by omega)).mono ?_
  rintro e w4 ⟨rfl, hb4⟩
  have d0 := hb4.cell (p := ⟨w2.heap.size, 0, none⟩) (by simp; omega)
  have d1 := hb4.cell (p := ⟨w2.heap.size, 1, none⟩) (by simp; omega)
  have f0 := hb4.frozen (p := ⟨w2.heap.size, 0, none⟩) (by simp; omega)
  have f1 := hb4.frozen (p := ⟨w2.heap.size, 1, none⟩) (by simp; omega)
  simp [go_sem] at d0 d1 f0 f1
  have HB4 := Lib.hid (Below.trans (show Below w.heap.size w _ from (HB2.out.alloc HB2.out.size _).alloc (by have := HB2.out.size; simp; omega) _) (hb4.mono (by have := HB2.out.size; simp; omega)))
  have hsz := HB2.out.size
  clear hb4
  go_wp2_with fail
  go_ret
  exact ⟨rfl, (HB4.out.setCell hsz _).setCell hsz _⟩

set_option maxHeartbeats 2000000 in
theorem walk (a0 : ByteArray) (a1 : ByteArray) (a2 : ByteArray) (a3 : ByteArray) (a4 : Int) (a5 : Int) (w : World) (w0 : a0.size ≤ maxLen) (w1 : a1.size ≤ maxLen) (w2 : a2.size ≤ maxLen) (w3 : a3.size ≤ maxLen) (w4 : (Lit.int .i32 a4).wf = true) (w5 : (Lit.int .i32 a5).wf = true) :
    Calls Try.prog 3 #[.string a0, .string a1, .string a2, .string a3, .int .i32 a4, .int .i32 a5] w fun e w' => e = .returned (.bool true) ∧ Below w.heap.size w w' := by
  exact main a0 a1 a2 a3 a4 a5 w

set_option maxRecDepth 100000 in
theorem lifted (os : Os) (started : os.Started) (H : Type) (enc : TypeId × Value → H) :
    ReturnsInHanded {} Try.checked os 3 .any (Rows.fnTargetReverseInvertsSubstitutionSpec.pre6 enc Try.prog Try.f3 Rows.fnTargetReverseInvertsSubstitutionRow.domain false) (Rows.fnTargetReverseInvertsSubstitutionSpec.post enc Try.prog Try.f3 false true false false) := by
  refine returnsInHanded_of_change (C := Try.checked) own started (by kernel_rfl) Try.func3
    (ChangeSpec.witness6 (enc := enc) (C := Try.checked) false ⟨#[], #[.string ByteArray.empty, .string ByteArray.empty, .string ByteArray.empty, .string ByteArray.empty, .int .i32 0, .int .i32 0], []⟩ 8 (by kernel_rfl) (by kernel_rfl) (by kernel_rfl) (by kernel_rfl)) ?_
  intro W base args ds gs before hval0 hW hcnd _
  have hval : ∀ (j : Nat) t v, Try.f3.params[j]? = some t → args[j]? = some v → Value.okWide Try.prog W .any base t v := hval0
  have hW' := hW
  obtain ⟨p, q, hA0, hV, rfl, hfz, hnd⟩ := hW
  have hA : DataW.TrodAll enc Try.prog W 0 (fun _ => true) true Try.f3.params.toList args.toList ds p := hA0
  rw [Try.params3] at hA hval
  obtain ⟨v0, vs0, d0, ds0, p0, q0, hargs, rfl, rfl, h0, r0⟩ := trodAll_cons hA
  obtain ⟨v1, vs1, d1, ds1, p1, q1, rfl, rfl, rfl, h1, r1⟩ := trodAll_cons r0
  obtain ⟨v2, vs2, d2, ds2, p2, q2, rfl, rfl, rfl, h2, r2⟩ := trodAll_cons r1
  obtain ⟨v3, vs3, d3, ds3, p3, q3, rfl, rfl, rfl, h3, r3⟩ := trodAll_cons r2
  obtain ⟨v4, vs4, d4, ds4, p4, q4, rfl, rfl, rfl, h4, r4⟩ := trodAll_cons r3
  obtain ⟨v5, vs5, d5, ds5, p5, q5, rfl, rfl, rfl, h5, r5⟩ := trodAll_cons r4
  obtain ⟨rfl, rfl, rfl⟩ := trodAll_nil r5
  obtain rfl : args = #[v0, v1, v2, v3, v4, v5] := by cases args; simp_all
  obtain ⟨rfl, rfl⟩ := trodVars_none hV
  obtain ⟨a0, rfl, rfl, rfl, w0⟩ := open_string Try.underlying9 (hval 0 9 v0 rfl rfl) h0
  obtain ⟨a1, rfl, rfl, rfl, w1⟩ := open_string Try.underlying9 (hval 1 9 v1 rfl rfl) h1
  obtain ⟨a2, rfl, rfl, rfl, w2⟩ := open_string Try.underlying9 (hval 2 9 v2 rfl rfl) h2
  obtain ⟨a3, rfl, rfl, rfl, w3⟩ := open_string Try.underlying9 (hval 3 9 v3 rfl rfl) h3
  obtain ⟨a4, rfl, rfl, rfl, w4⟩ := open_int Try.underlying21 (hval 4 21 v4 rfl rfl) h4
  obtain ⟨a5, rfl, rfl, rfl, w5⟩ := open_int Try.underlying21 (hval 5 21 v5 rfl rfl) h5
  clear hA0 hval0
  refine (walk a0 a1 a2 a3 a4 a5 W w0 w1 w2 w3 w4 w5).mono fun e W' ⟨he, bel⟩ => ?_
  subst he
  exact ⟨_, rfl, _, _, _, [], _, [], hW', trodAll_mk1 (shut_bool Try.underlying4 _), (trodAll_cons_mk (shut_string Try.underlying9 w0) (trodAll_cons_mk (shut_string Try.underlying9 w1) (trodAll_cons_mk (shut_string Try.underlying9 w2) (trodAll_cons_mk (shut_string Try.underlying9 w3) (trodAll_cons_mk (shut_int Try.underlying21 w4) (trodAll_cons_mk (shut_int Try.underlying21 w5) trodAll_mk0)))))), rfl, bel.frame _, fun h => by cases h⟩

theorem joined : joinedFacts Try.prog 3 Try.f3 Rows.fnTargetReverseInvertsSubstitutionSpec Rows.fnTargetReverseInvertsSubstitutionRow = true := by
  unfold joinedFacts
  rw [Facts.enter, Facts.lifts, Facts.make]
  kernel_rfl

theorem over : Rows.fnTargetReverseInvertsSubstitutionRow.holds Try.pinned (OpenSpec.ofChange Rows.fnTargetReverseInvertsSubstitutionSpec) :=
  OpenClaim.holds_of_wide 3 Try.f3 rfl rfl rfl rfl rfl rfl rfl ⟨rfl, rfl, rfl, rfl, rfl⟩ rfl rfl rfl rfl rfl (by kernel_rfl) Try.func3 joined
    (of_decide_eq_true (by kernel_rfl)) (by unfold Func.isWrapper; first | (rw [if_pos (by decide +kernel)]; kernel_rfl) | (rw [if_neg (by decide +kernel)]; exact ⟨rfl, rfl⟩))
    (fun os started H enc _ => lifted os started H enc)

theorem proved : Rows.FnTargetReverseInvertsSubstitutionSaid :=
  over
#print axioms proved
end Go.Proofs.Ytllnkckhafdikaa.fnTargetReverseInvertsSubstitution
