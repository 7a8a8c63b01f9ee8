/- stripDirPrefix: a path not starting with the prefix is refused with the empty string; a refusal answers the empty string and comes only with a non-empty prefix different from the path; an accepted rest rebuilds the path. No condition. -/
import Derived.Test.YtanponbjfbgigabRows
import Derived.WalkKit
import Derived.ProofKit
import Derived.OpenShut
import Derived.ShutString
import Derived.Test.YtanponbjfbgigabFacts
import Derived.Test.YtanponbjfbgigabAid
import Derived.Test.YtanponbjfbgigabShelf
import Derived.Test.YtanponbjfbgigabStr
import Derived.WalkSpells
import Derived.LoopTactic
import Derived.Deep.QuietTactic
import Derived.BigQuiet
namespace Go.Proofs.Ytanponbjfbgigab.fnStripDirPrefixAcceptedRebuildsRefusedIsEmpty
open Go.ChangeShapes Go.WideShapes Go.ChangeAt Go.RowKit
open Go.ChangeMaps (open_string shut_string)
set_option linter.unusedVariables false

theorem own : ownKnob Try.prog.godebug = none := by kernel_rfl
theorem laidOut : laidOutB Try.prog = true := by kernel_rfl

open Str PlainAid
def fitsB (n : Nat) : Bool := decide (n ≤ 1048576)
theorem zz (s t u : ByteArray) (w : World) (h1 : s.size ≤ maxLen) (h2 : t.size ≤ maxLen) (h3 : u.size ≤ maxLen) :
    Calls Try.prog 14 #[.string s, .string t, .string u] w fun e w' => e = .returned (.bool (fitsB (s.size + t.size + u.size))) ∧ w = w' := by
  unfold maxLen at h1 h2 h3
  by_cases h : s.size + t.size + u.size ≤ 1048576
  · have H := Lib.hid (show fitsB (s.size + t.size + u.size) = true by unfold fitsB; simpa using h)
    go_enter Try.func14, Try.ntmps14
    go_wp2
    go_ret
    exact ⟨by rw [H.out]; rfl, rfl⟩
  · have H := Lib.hid (show fitsB (s.size + t.size + u.size) = false by unfold fitsB; simpa using h)
    go_enter Try.func14, Try.ntmps14
    go_wp2
    all_goals
      go_ret
      exact ⟨by rw [H.out]; rfl, rfl⟩
theorem sb (s : ByteArray) (w : World) (h : s.size ≤ 1048576) : Calls Try.prog 15 #[.string s] w fun e w' => e = .returned (.int .i64 s.size) ∧ w = w' := by
  go_enter Try.func15, Try.ntmps15
  go_wp2
  go_ret
  exact ⟨rfl, rfl⟩
theorem zin (c : Int) (a : ByteArray) (w : World) (h0 : 0 ≤ c) (h1 : c ≤ 255) (hs : a.size ≤ 1048576) :
    Calls Try.prog 18 #[.int .u8 c, .string a] w fun e w' => e = .returned (.bool (inA a c)) ∧ w = w' := by
  have hbt := get_bt a
  go_enter Try.func18, Try.ntmps18
  go_wp2
  go_loop [5] (fun i => ∃ k : Nat, k ≤ a.size ∧ i = .int .i64 k ∧ ∀ j, j < k → ¬ bt a j = c) (fun i => a.size - (intOf i).toNat)
  case atStart => exact ⟨0, by omega, rfl, fun j hj => by omega⟩
  case round =>
    obtain ⟨k, hk, rfl, hn⟩ := hrel
    have HN := Lib.hid hn
    clear hn
    by_cases hlt : k < a.size
    · by_cases e : bt a k = c
      · have H := Lib.hid (show inA a c = true from (inA_iff a c h0 h1).2 ⟨k, hlt, e⟩)
        have e1 : (bt a k == c) = true := by simpa using e
        clear e
        go_wp2
        go_ret
        exact ⟨by rw [H.out]; rfl, rfl⟩
      · have e1 : (bt a k == c) = false := by simpa using e
        go_wp2
        go_round
        case rel => exact ⟨k + 1, by omega, by go_num, fun j hj => by
          by_cases q : j = k
          · subst q; exact e
          · exact HN.out j (by omega)⟩
        case measure => simp [intOf]; omega
    · have H := Lib.hid (show inA a c = false by
        rw [← Bool.not_eq_true, inA_iff a c h0 h1]
        rintro ⟨j, hj, e⟩
        exact HN.out j (by omega) e)
      go_wp2
      go_ret
      exact ⟨by rw [H.out]; rfl, rfl⟩
theorem zhp (s p : ByteArray) (w : World) (hs : s.size ≤ 1048576) (hp : p.size ≤ 1048576) :
    Calls Try.prog 17 #[.string s, .string p] w fun e w' => e = .returned (.bool (Lib.hasPrefix s.data.toList p.data.toList)) ∧ ∃ n, w' = w.drewN n := by
  by_cases hl : s.size < p.size
  · have H := Lib.hid (show Lib.hasPrefix s.data.toList p.data.toList = false by rw [← Bool.not_eq_true, hasPrefix_iff]; omega)
    go_enter Try.func17, Try.ntmps17
    go_wp2
    go_ret
    exact ⟨by rw [H.out]; rfl, 0, rfl⟩
  have hbs := get_bt s
  have hbp := get_bt p
  go_enter Try.func17, Try.ntmps17
  go_wp2
  go_loopw [5] (fun i wr => ∃ k : Nat, k ≤ p.size ∧ i = .int .i64 k ∧ (∀ j, j < k → bt s j = bt p j) ∧ ∃ n, wr = w.drewN n) (fun i _ => p.size - (intOf i).toNat)
  case atStart => exact ⟨0, by omega, rfl, fun j hj => by omega, 0, rfl⟩
  case round =>
    obtain ⟨k, hk, rfl, hn, n, rfl⟩ := hrel
    have HN := Lib.hid hn
    clear hn
    by_cases hlt : k < p.size
    · have hlt2 : k < s.size := by omega
      by_cases e : bt s k = bt p k
      · have e1 : (bt s k != bt p k) = false := by simpa using e
        have E := Lib.hid e
        clear e
        go_wp2_with fail
        go_quiet (fail)
        go_wp2_with fail
        go_roundw
        case rel => exact ⟨k + 1, by omega, by go_num, fun j hj => by
          by_cases q : j = k
          · subst q; exact E.out
          · exact HN.out j (by omega), _, rfl⟩
        case measure => simp [intOf]; omega
      · have H := Lib.hid (show Lib.hasPrefix s.data.toList p.data.toList = false by
          rw [← Bool.not_eq_true, hasPrefix_iff]; exact fun h => e (h.2 k hlt))
        have e1 : (bt s k != bt p k) = true := by simpa using e
        go_wp2_with fail
        go_quiet (fail)
        go_wp2_with fail
        go_ret
        exact ⟨by rw [H.out]; rfl, _, by rw [World.drewN_drewN]⟩
    · have H := Lib.hid (show Lib.hasPrefix s.data.toList p.data.toList = true by
        rw [hasPrefix_iff]; exact ⟨by omega, fun j hj => HN.out j (by omega)⟩)
      go_wp2_with fail
      go_ret
      exact ⟨by rw [H.out]; rfl, _, rfl⟩
/-- The answers of stripDirPrefix, by their cases. -/
def strip (p q a : ByteArray) : ByteArray × Bool :=
  if Lib.hasPrefix p.data.toList q.data.toList then
    if q.size = 0 then (p, true)
    else if p.size = q.size then (ByteArray.empty, true)
    else if inA a (bt q (q.size - 1)) then (p.extract q.size p.size, true)
    else if inA a (bt p q.size) then (p.extract (q.size + 1) p.size, true)
    else (ByteArray.empty, false)
  else (ByteArray.empty, false)
theorem idx (a : ByteArray) (c : Int) (w : World) : Calls Try.prog 27 #[.string a, .int .u8 c] w fun e w' => (∃ x, e = .returned (.int .i64 x) ∧ decide (0 ≤ x) = inA a c) ∧ w = w' :=
  (Try.strings_IndexByte a c w).mono fun e w' ⟨he, hw⟩ => ⟨⟨_, he, rfl⟩, hw.symm⟩
theorem idx_yes (a : ByteArray) (c : Int) (w : World) (h : inA a c = true) : Calls Try.prog 27 #[.string a, .int .u8 c] w fun e w' => (∃ x, 0 ≤ x ∧ e = .returned (.int .i64 x)) ∧ w = w' :=
  (Try.strings_IndexByte a c w).mono fun e w' ⟨he, hw⟩ => ⟨⟨_, by unfold inA at h; simpa using h, he⟩, hw.symm⟩
theorem idx_no (a : ByteArray) (c : Int) (w : World) (h : inA a c = false) : Calls Try.prog 27 #[.string a, .int .u8 c] w fun e w' => (∃ x, x < 0 ∧ e = .returned (.int .i64 x)) ∧ w = w' :=
  (Try.strings_IndexByte a c w).mono fun e w' ⟨he, hw⟩ => ⟨⟨_, by unfold inA at h; simpa using h, he⟩, hw.symm⟩
def SD (p q a : ByteArray) (w : World) (e : Ending) (w' : World) : Prop := e = .returned (.tuple #[.string (strip p q a).1, .bool (strip p q a).2]) ∧ w = w'
set_option maxHeartbeats 1000000 in
theorem sdp (p q a : ByteArray) (w : World) (hp : p.size ≤ 1048576) (hq : q.size ≤ 1048576) (ha : a.size ≤ 1048576) :
    Calls Try.prog 24 #[.string p, .string q, .string a] w (SD p q a w) := by
  have hbp := get_bt p
  have hbq := get_bt q
  by_cases h1 : Lib.hasPrefix p.data.toList q.data.toList = true
  · have hle := ((hasPrefix_iff p q).1 h1).1
    by_cases h2 : q.size = 0
    · have H := Lib.hid (show strip p q a = (p, true) by unfold strip; rw [if_pos h1, if_pos h2])
      go_enter Try.func24, Try.ntmps24
      go_wp2_with (go_at_call 20; ((with_reducible refine (Try.strings_HasPrefix _ _ _).mono ?_); rintro e w' ⟨rfl, rfl⟩))
      go_ret2
      exact ⟨by rw [H.out]; rfl, rfl⟩
    by_cases h3 : p.size = q.size
    · have H := Lib.hid (show strip p q a = (ByteArray.empty, true) by unfold strip; rw [if_pos h1, if_neg h2, if_pos h3])
      have e3 : ((p.size : Int) == (q.size : Int)) = true := by simp; omega
      have e2 : ((q.size : Int) == 0) = false := by simpa using h2
      clear h3
      go_enter Try.func24, Try.ntmps24
      go_wp2_with (go_at_call 20; ((with_reducible refine (Try.strings_HasPrefix _ _ _).mono ?_); rintro e w' ⟨rfl, rfl⟩))
      go_ret2
      exact ⟨by rw [H.out]; rfl, rfl⟩
    have e3 : ((p.size : Int) == (q.size : Int)) = false := by simp; omega
    have e2 : ((q.size : Int) == 0) = false := by simpa using h2
    by_cases h4 : inA a (bt q (q.size - 1)) = true
    · have H := Lib.hid (show strip p q a = (p.extract q.size p.size, true) by unfold strip; rw [if_pos h1, if_neg h2, if_neg h3, if_pos h4])
      go_enter Try.func24, Try.ntmps24
      go_wp2_with (first
        | (go_at_call 20; ((with_reducible refine (Try.strings_HasPrefix _ _ _).mono ?_); rintro e w' ⟨rfl, rfl⟩))
        | (go_at_call 27; ((with_reducible refine (idx_yes _ _ _ h4).mono ?_); rintro e w' ⟨⟨x, hx, rfl⟩, rfl⟩)))
      go_ret2
      exact ⟨by rw [H.out]; rfl, rfl⟩
    rw [Bool.not_eq_true] at h4
    by_cases h5 : inA a (bt p q.size) = true
    · have H := Lib.hid (show strip p q a = (p.extract (q.size + 1) p.size, true) by unfold strip; rw [if_pos h1, if_neg h2, if_neg h3, h4, if_pos h5]; rfl)
      go_enter Try.func24, Try.ntmps24
      go_wp2_with (first
        | (go_at_call 20; ((with_reducible refine (Try.strings_HasPrefix _ _ _).mono ?_); rintro e w' ⟨rfl, rfl⟩))
        | (go_at_call 27; ((with_reducible refine (idx_no _ _ _ h4).mono ?_); rintro e w' ⟨⟨x, hx, rfl⟩, rfl⟩))
        | (go_at_call 27; ((with_reducible refine (idx_yes _ _ _ h5).mono ?_); rintro e w' ⟨⟨x, hx, rfl⟩, rfl⟩)))
      go_ret2
      exact ⟨by rw [H.out]; rfl, rfl⟩
    rw [Bool.not_eq_true] at h5
    have H := Lib.hid (show strip p q a = (ByteArray.empty, false) by unfold strip; rw [if_pos h1, if_neg h2, if_neg h3, h4, h5]; rfl)
    go_enter Try.func24, Try.ntmps24
    go_wp2_with (first
        | (go_at_call 20; ((with_reducible refine (Try.strings_HasPrefix _ _ _).mono ?_); rintro e w' ⟨rfl, rfl⟩))
        | (go_at_call 27; ((with_reducible refine (idx_no _ _ _ h4).mono ?_); rintro e w' ⟨⟨x, hx, rfl⟩, rfl⟩))
        | (go_at_call 27; ((with_reducible refine (idx_no _ _ _ h5).mono ?_); rintro e w' ⟨⟨x, hx, rfl⟩, rfl⟩)))
    go_ret2
    exact ⟨by rw [H.out]; rfl, rfl⟩
  · rw [Bool.not_eq_true] at h1
    have H := Lib.hid (show strip p q a = (ByteArray.empty, false) by unfold strip; rw [h1]; rfl)
    go_enter Try.func24, Try.ntmps24
    go_wp2_with (go_at_call 20; ((with_reducible refine (Try.strings_HasPrefix _ _ _).mono ?_); rintro e w' ⟨rfl, rfl⟩))
    go_ret2
    exact ⟨by rw [H.out]; rfl, rfl⟩
theorem sd16 (p q a r : ByteArray) (b : Bool) (w : World) (hp : p.size ≤ 1048576) (hq : q.size ≤ 1048576) (ha : a.size ≤ 1048576) (h : strip p q a = (r, b)) :
    Calls Try.prog 16 #[.string p, .string q, .string a] w fun e w' => e = .returned (.tuple #[.string r, .bool b]) ∧ w = w' := by
  have H := Lib.hid h
  clear h
  go_enter Try.func16, Try.ntmps16
  go_wp2_with (go_at_call 24; ((with_reducible refine (sdp p q a _ hp hq ha).mono ?_); rintro e w' ⟨rfl, rfl⟩))
  go_ret2
  exact ⟨by rw [H.out]; rfl, rfl⟩
theorem zhp_at (s p : ByteArray) (b : Bool) (w : World) (hs : s.size ≤ 1048576) (hp : p.size ≤ 1048576) (h : Lib.hasPrefix s.data.toList p.data.toList = b) :
    Calls Try.prog 17 #[.string s, .string p] w fun e w' => e = .returned (.bool b) ∧ ∃ n, w' = w.drewN n := by
  rw [← h]; exact zhp s p w hs hp
theorem zin_at (c : Int) (a : ByteArray) (b : Bool) (w : World) (h0 : 0 ≤ c) (h1 : c ≤ 255) (hs : a.size ≤ 1048576) (h : inA a c = b) :
    Calls Try.prog 18 #[.int .u8 c, .string a] w fun e w' => e = .returned (.bool b) ∧ w = w' := by
  rw [← h]; exact zin c a w h0 h1 hs
theorem below_drewN (w : World) (n : Nat) : Below w.heap.size w (w.drewN n) := ⟨rfl, rfl, rfl, Nat.le_refl _, fun _ _ => rfl⟩

set_option maxHeartbeats 2000000 in
theorem walk (a0 : ByteArray) (a1 : ByteArray) (a2 : ByteArray) (w : World) (w0 : a0.size ≤ maxLen) (w1 : a1.size ≤ maxLen) (w2 : a2.size ≤ maxLen) :
    Calls Try.prog 6 #[.string a0, .string a1, .string a2] w fun e w' => e = .returned (.bool true) ∧ Below w.heap.size w w' := by
  by_cases hf : fitsB (a0.size + a1.size + a2.size) = false
  · go_enter Try.func6, Try.ntmps6
    go_wp2_with (go_at_call 14; ((with_reducible refine (zz _ _ _ _ w0 w1 w2).mono ?_); rintro e w' ⟨rfl, rfl⟩))
    go_ret
    exact ⟨rfl, Below.refl _ _⟩
  rw [Bool.not_eq_false] at hf
  have hs : a0.size + a1.size + a2.size ≤ 1048576 := by simpa [fitsB] using hf
  have b0 : a0.size ≤ 1048576 := by omega
  have b1 : a1.size ≤ 1048576 := by omega
  have b2 : a2.size ≤ 1048576 := by omega
  have hbp := get_bt a0
  have hbq := get_bt a1
  by_cases h1 : Lib.hasPrefix a0.data.toList a1.data.toList = true
  · have hle := ((hasPrefix_iff a0 a1).1 h1).1
    by_cases h2 : a1.size = 0
    · have H : strip a0 a1 a2 = (a0, true) := by unfold strip; rw [if_pos h1, if_pos h2]
      obtain rfl := Aid.empty_of a1 h2
      have hx : a0.extract 0 a0.size = a0 := by simp
      go_enter Try.func6, Try.ntmps6
      go_wp2_with (first
        | (go_at_call 14; ((with_reducible refine (zz _ _ _ _ w0 w1 w2).mono ?_); rintro e w' ⟨rfl, rfl⟩))
        | (go_at_call 15; ((with_reducible refine (sb _ _ (by assumption)).mono ?_); rintro e w' ⟨rfl, rfl⟩))
        | (go_at_call 16; ((with_reducible refine (sd16 _ _ _ _ _ _ b0 b1 b2 H).mono ?_); rintro e w' ⟨rfl, rfl⟩))
        | (go_at_call 17; ((with_reducible refine (zhp_at _ _ _ _ b0 b1 h1).mono ?_); rintro e w' ⟨rfl, n, rfl⟩)))
      all_goals
        go_ret
        exact ⟨rfl, by first | exact Below.refl _ _ | exact below_drewN _ _⟩
    by_cases h3 : a0.size = a1.size
    · have H : strip a0 a1 a2 = (ByteArray.empty, true) := by unfold strip; rw [if_pos h1, if_neg h2, if_pos h3]
      have n1 := Aid.nonempty_of a1 h2
      have n3 : (a0.extract a1.size a0.size).toList = [] := by
        rw [ByteArray.toList_eq, extract_data, h3]; simp
      have n4 : (a0.extract a1.size a0.size).toList.isEmpty = true := by rw [n3]; rfl
      have n5 : ([] == (a0.extract a1.size a0.size).toList) = true := by rw [n3]; rfl
      have h3' := Lib.hid h3
      clear h3
      go_enter Try.func6, Try.ntmps6
      go_wp2_with (first
        | (go_at_call 14; ((with_reducible refine (zz _ _ _ _ w0 w1 w2).mono ?_); rintro e w' ⟨rfl, rfl⟩))
        | (go_at_call 15; ((with_reducible refine (sb _ _ (by assumption)).mono ?_); rintro e w' ⟨rfl, rfl⟩))
        | (go_at_call 16; ((with_reducible refine (sd16 _ _ _ _ _ _ b0 b1 b2 H).mono ?_); rintro e w' ⟨rfl, rfl⟩))
        | (go_at_call 17; ((with_reducible refine (zhp_at _ _ _ _ b0 b1 h1).mono ?_); rintro e w' ⟨rfl, n, rfl⟩)))
      all_goals
        go_ret
        exact ⟨rfl, by first | exact Below.refl _ _ | exact below_drewN _ _⟩
    by_cases h4 : inA a2 (bt a1 (a1.size - 1)) = true
    · have H : strip a0 a1 a2 = (a0.extract a1.size a0.size, true) := by unfold strip; rw [if_pos h1, if_neg h2, if_neg h3, if_pos h4]
      have n1 := Aid.nonempty_of a1 h2
      have n3 : (a0.extract a1.size a0.size).toList.isEmpty = false := Aid.nonempty_of _ (by rw [size_extract_to]; omega)
      have n4 := Aid.toList_ne _ (show (a0.extract a1.size a0.size).size ≠ 0 by rw [size_extract_to]; omega)
      have lo := bt_nonneg a1 (a1.size - 1)
      have hi := bt_le a1 (a1.size - 1)
      go_enter Try.func6, Try.ntmps6
      go_wp2_with (first
        | (go_at_call 14; ((with_reducible refine (zz _ _ _ _ w0 w1 w2).mono ?_); rintro e w' ⟨rfl, rfl⟩))
        | (go_at_call 15; ((with_reducible refine (sb _ _ (by assumption)).mono ?_); rintro e w' ⟨rfl, rfl⟩))
        | (go_at_call 16; ((with_reducible refine (sd16 _ _ _ _ _ _ b0 b1 b2 H).mono ?_); rintro e w' ⟨rfl, rfl⟩))
        | (go_at_call 17; ((with_reducible refine (zhp_at _ _ _ _ b0 b1 h1).mono ?_); rintro e w' ⟨rfl, n, rfl⟩))
        | (go_at_call 18; ((with_reducible refine (zin_at _ _ _ _ lo hi b2 h4).mono ?_); rintro e w' ⟨rfl, rfl⟩)))
      all_goals
        go_ret
        exact ⟨rfl, by first | exact Below.refl _ _ | exact below_drewN _ _⟩
    rw [Bool.not_eq_true] at h4
    by_cases h5 : inA a2 (bt a0 a1.size) = true
    · have H : strip a0 a1 a2 = (a0.extract (a1.size + 1) a0.size, true) := by unfold strip; rw [if_pos h1, if_neg h2, if_neg h3, h4, if_pos h5]; rfl
      have n1 := Aid.nonempty_of a1 h2
      have n3 : (a0.extract a1.size a0.size).toList.isEmpty = false := Aid.nonempty_of _ (by rw [size_extract_to]; omega)
      have n6 : ((a0.extract (a1.size + 1) a0.size).toList == (a0.extract a1.size a0.size).toList) = false := by
        rw [beq_eq_false_iff_ne, ByteArray.toList_eq, ByteArray.toList_eq]
        intro e
        have := congrArg List.length e
        rw [len_data, len_data, size_extract_to, size_extract_to] at this
        omega
      have hbx := get_bt (a0.extract a1.size a0.size)
      have n7 : bt (a0.extract a1.size a0.size) 0 = bt a0 a1.size := by rw [bt_extract _ _ _ _ (Nat.le_refl _) (by omega)]; rfl
      have n8 : (a0.extract a1.size a0.size).size = a0.size - a1.size := size_extract_to _ _
      have n9 : (((a0.extract a1.size a0.size).extract 1 (a0.size - a1.size)).toList == (a0.extract (a1.size + 1) a0.size).toList) = true := by
        rw [beq_iff_eq, ByteArray.toList_eq, ByteArray.toList_eq, extract_data, extract_data, extract_data, List.drop_take, List.take_take, List.drop_drop, Nat.min_self, Nat.sub_sub]
      have lo := bt_nonneg a1 (a1.size - 1)
      have hi := bt_le a1 (a1.size - 1)
      have lo2 := bt_nonneg a0 a1.size
      have hi2 := bt_le a0 a1.size
      go_enter Try.func6, Try.ntmps6
      go_wp2_with (first
        | (go_at_call 14; ((with_reducible refine (zz _ _ _ _ w0 w1 w2).mono ?_); rintro e w' ⟨rfl, rfl⟩))
        | (go_at_call 15; ((with_reducible refine (sb _ _ (by assumption)).mono ?_); rintro e w' ⟨rfl, rfl⟩))
        | (go_at_call 16; ((with_reducible refine (sd16 _ _ _ _ _ _ b0 b1 b2 H).mono ?_); rintro e w' ⟨rfl, rfl⟩))
        | (go_at_call 17; ((with_reducible refine (zhp_at _ _ _ _ b0 b1 h1).mono ?_); rintro e w' ⟨rfl, n, rfl⟩))
        | (go_at_call 18; ((with_reducible refine (zin_at _ _ _ _ lo hi b2 h4).mono ?_); rintro e w' ⟨rfl, rfl⟩))
        | (go_at_call 18; ((with_reducible refine (zin_at _ _ _ _ lo2 hi2 b2 h5).mono ?_); rintro e w' ⟨rfl, rfl⟩)))
      all_goals
        go_ret
        exact ⟨rfl, by first | exact Below.refl _ _ | exact below_drewN _ _⟩
    · rw [Bool.not_eq_true] at h5
      have H : strip a0 a1 a2 = (ByteArray.empty, false) := by unfold strip; rw [if_pos h1, if_neg h2, if_neg h3, h4, h5]; rfl
      have n1 := Aid.nonempty_of a1 h2
      have n2 : (a0.toList == a1.toList) = false := by
        rw [beq_eq_false_iff_ne, ByteArray.toList_eq, ByteArray.toList_eq]
        intro e
        apply h3
        rw [← len_data, ← len_data, e]
      go_enter Try.func6, Try.ntmps6
      go_wp2_with (first
        | (go_at_call 14; ((with_reducible refine (zz _ _ _ _ w0 w1 w2).mono ?_); rintro e w' ⟨rfl, rfl⟩))
        | (go_at_call 15; ((with_reducible refine (sb _ _ (by assumption)).mono ?_); rintro e w' ⟨rfl, rfl⟩))
        | (go_at_call 16; ((with_reducible refine (sd16 _ _ _ _ _ _ b0 b1 b2 H).mono ?_); rintro e w' ⟨rfl, rfl⟩))
        | (go_at_call 17; ((with_reducible refine (zhp_at _ _ _ _ b0 b1 h1).mono ?_); rintro e w' ⟨rfl, n, rfl⟩)))
      all_goals
        go_ret
        exact ⟨rfl, by first | exact Below.refl _ _ | exact below_drewN _ _⟩
  · rw [Bool.not_eq_true] at h1
    have H : strip a0 a1 a2 = (ByteArray.empty, false) := by unfold strip; rw [h1]; rfl
    go_enter Try.func6, Try.ntmps6
    go_wp2_with (first
        | (go_at_call 14; ((with_reducible refine (zz _ _ _ _ w0 w1 w2).mono ?_); rintro e w' ⟨rfl, rfl⟩))
        | (go_at_call 15; ((with_reducible refine (sb _ _ (by assumption)).mono ?_); rintro e w' ⟨rfl, rfl⟩))
        | (go_at_call 16; ((with_reducible refine (sd16 _ _ _ _ _ _ b0 b1 b2 H).mono ?_); rintro e w' ⟨rfl, rfl⟩))
        | (go_at_call 17; ((with_reducible refine (zhp_at _ _ _ _ b0 b1 h1).mono ?_); rintro e w' ⟨rfl, n, rfl⟩)))
    go_ret
    exact ⟨rfl, below_drewN _ _⟩

set_option maxRecDepth 100000 in
theorem lifted (os : Os) (started : os.Started) (H : Type) (enc : TypeId × Value → H) :
    ReturnsInHanded {} Try.checked os 6 .any (Rows.fnStripDirPrefixAcceptedRebuildsRefusedIsEmptySpec.pre6 enc Try.prog Try.f6 Rows.fnStripDirPrefixAcceptedRebuildsRefusedIsEmptyRow.domain false) (Rows.fnStripDirPrefixAcceptedRebuildsRefusedIsEmptySpec.post enc Try.prog Try.f6 false true false false) := by
  refine returnsInHanded_of_change (C := Try.checked) own started (by kernel_rfl) Try.func6
    (ChangeSpec.witness6 (enc := enc) (C := Try.checked) false ⟨#[], #[.string ByteArray.empty, .string ByteArray.empty, .string ByteArray.empty], []⟩ 8 (by kernel_rfl) (by kernel_rfl) (by kernel_rfl) (by kernel_rfl)) ?_
  intro W base args ds gs before hval0 hW hcnd _
  have hval : ∀ (j : Nat) t v, Try.f6.params[j]? = some t → args[j]? = some v → Value.okWide Try.prog W .any base t v := hval0
  have hW' := hW
  obtain ⟨p, q, hA0, hV, rfl, hfz, hnd⟩ := hW
  have hA : DataW.TrodAll enc Try.prog W 0 (fun _ => true) true Try.f6.params.toList args.toList ds p := hA0
  rw [Try.params6] at hA hval
  obtain ⟨v0, vs0, d0, ds0, p0, q0, hargs, rfl, rfl, h0, r0⟩ := trodAll_cons hA
  obtain ⟨v1, vs1, d1, ds1, p1, q1, rfl, rfl, rfl, h1, r1⟩ := trodAll_cons r0
  obtain ⟨v2, vs2, d2, ds2, p2, q2, rfl, rfl, rfl, h2, r2⟩ := trodAll_cons r1
  obtain ⟨rfl, rfl, rfl⟩ := trodAll_nil r2
  obtain rfl : args = #[v0, v1, v2] := by cases args; simp_all
  obtain ⟨rfl, rfl⟩ := trodVars_none hV
  obtain ⟨a0, rfl, rfl, rfl, w0⟩ := open_string Try.underlying9 (hval 0 9 v0 rfl rfl) h0
  obtain ⟨a1, rfl, rfl, rfl, w1⟩ := open_string Try.underlying9 (hval 1 9 v1 rfl rfl) h1
  obtain ⟨a2, rfl, rfl, rfl, w2⟩ := open_string Try.underlying9 (hval 2 9 v2 rfl rfl) h2
  clear hA0 hval0
  refine (walk a0 a1 a2 W w0 w1 w2).mono fun e W' ⟨he, bel⟩ => ?_
  subst he
  exact ⟨_, rfl, _, _, _, [], _, [], hW', trodAll_mk1 (shut_bool Try.underlying4 _), (trodAll_cons_mk (shut_string Try.underlying9 w0) (trodAll_cons_mk (shut_string Try.underlying9 w1) (trodAll_cons_mk (shut_string Try.underlying9 w2) trodAll_mk0))), rfl, bel.frame _, fun h => by cases h⟩

theorem joined : joinedFacts Try.prog 6 Try.f6 Rows.fnStripDirPrefixAcceptedRebuildsRefusedIsEmptySpec Rows.fnStripDirPrefixAcceptedRebuildsRefusedIsEmptyRow = true := by
  unfold joinedFacts
  rw [Facts.enter, Facts.lifts, Facts.make]
  kernel_rfl

theorem over : Rows.fnStripDirPrefixAcceptedRebuildsRefusedIsEmptyRow.holds Try.pinned (OpenSpec.ofChange Rows.fnStripDirPrefixAcceptedRebuildsRefusedIsEmptySpec) :=
  OpenClaim.holds_of_wide 6 Try.f6 rfl rfl rfl rfl rfl rfl rfl ⟨rfl, rfl, rfl, rfl, rfl⟩ rfl rfl rfl rfl rfl (by kernel_rfl) Try.func6 joined
    (of_decide_eq_true (by kernel_rfl)) (by unfold Func.isWrapper; first | (rw [if_pos (by decide +kernel)]; kernel_rfl) | (rw [if_neg (by decide +kernel)]; exact ⟨rfl, rfl⟩))
    (fun os started H enc _ => lifted os started H enc)

theorem proved : Rows.FnStripDirPrefixAcceptedRebuildsRefusedIsEmptySaid :=
  over
#print axioms proved
end Go.Proofs.Ytanponbjfbgigab.fnStripDirPrefixAcceptedRebuildsRefusedIsEmpty
