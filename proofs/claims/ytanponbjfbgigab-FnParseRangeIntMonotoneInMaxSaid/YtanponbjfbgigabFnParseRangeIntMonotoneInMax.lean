/- If parseRangeInt(text, m1) accepts with value v and m1 <= m2 <= 214748363, then parseRangeInt(text, m2) accepts with the same v. No condition. -/
import Derived.Test.YtanponbjfbgigabRows
import Derived.WalkKit
import Derived.ProofKit
import Derived.OpenShut
import Derived.ShutString
import Derived.Test.YtanponbjfbgigabFacts
import Derived.Test.YtanponbjfbgigabAid
import Derived.PlainAid
import Derived.Outline
import Derived.LoopTactic
import Derived.Laws.RangeString
import Derived.Laws.RangeAny
namespace Go.Proofs.Ytanponbjfbgigab.fnParseRangeIntMonotoneInMax
open Go.ChangeShapes Go.WideShapes Go.ChangeAt Go.RowKit
open Go.ChangeMaps (open_string shut_string)
set_option linter.unusedVariables false

theorem own : ownKnob Try.prog.godebug = none := by kernel_rfl
theorem laidOut : laidOutB Try.prog = true := by kernel_rfl

open PlainAid
def num (s : ByteArray) : Nat → Int
  | 0 => 0
  | k + 1 => num s k * 10 + (bt s k - 48)
def Good (s : ByteArray) (m : Int) (n : Nat) : Prop := ∀ k, k < n → (48 ≤ bt s k ∧ bt s k ≤ 57) ∧ num s (k + 1) ≤ m
instance (s : ByteArray) (m : Int) (n : Nat) : Decidable (Good s m n) := inferInstanceAs (Decidable (∀ k, k < n → _))
def okB (s : ByteArray) (m : Int) : Bool := decide (s.size ≠ 0 ∧ Good s m s.size)
def val (s : ByteArray) (m : Int) : Int := if okB s m then num s s.size else 0
theorem good_mono {s : ByteArray} {m m' : Int} {n : Nat} (h : Good s m n) (hm : m ≤ m') : Good s m' n := fun k hk => ⟨(h k hk).1, Int.le_trans (h k hk).2 hm⟩
theorem num_nonneg (s : ByteArray) (m : Int) : ∀ n, Good s m n → 0 ≤ num s n
  | 0, _ => Int.le_refl _
  | n + 1, h => by
    have ih := num_nonneg s m n (fun k hk => h k (by omega))
    have := (h n (by omega)).1
    unfold num
    omega
theorem num_le (s : ByteArray) (m : Int) (n : Nat) (h : Good s m n) (hm : m ≤ 214748363) : num s n ≤ 214748363 := by
  cases n with
  | zero => unfold num; omega
  | succ n => exact Int.le_trans (h n (by omega)).2 hm
theorem ok_of {s : ByteArray} {m : Int} (h0 : s.size ≠ 0) (h : Good s m s.size) : okB s m = true := by unfold okB; exact decide_eq_true ⟨h0, h⟩
theorem not_ok {s : ByteArray} {m : Int} (k : Nat) (hk : k < s.size) (h : ¬ ((48 ≤ bt s k ∧ bt s k ≤ 57) ∧ num s (k + 1) ≤ m)) : okB s m = false := by
  unfold okB; rw [decide_eq_false_iff_not]; intro hh; exact h (hh.2 k hk)
def PR (s : ByteArray) (m : Int) (w : World) (e : Ending) (w' : World) : Prop := e = .returned (.tuple #[.int .i64 (val s m), .bool (okB s m)]) ∧ Below w.heap.size w w'
theorem below_iter (w : World) (s : ByteArray) (p : Nat) : Below w.heap.size w (w.iter s p) := (Below.refl _ _).alloc (Nat.le_refl _) _
theorem pr_no {s : ByteArray} {m : Int} {w w' : World} (h : okB s m = false) (hb : Below w.heap.size w w') : PR s m w (.returned (.tuple #[.int .i64 0, .bool false])) w' := by
  unfold PR val; rw [h]; exact ⟨rfl, hb⟩

set_option maxHeartbeats 1000000 in
theorem parse (s : ByteArray) (m : Int) (w : World) (hs : s.size ≤ 1048576) (hm : m ≤ 214748363) (hlo : -9223372036854775808 ≤ m) :
    Calls Try.prog 19 #[.string s, .int .i64 m] w (PR s m w) := by
  by_cases h0 : s.size = 0
  · have e1 : s = ByteArray.empty := Aid.empty_of s h0
    have H := Lib.hid (show okB s m = false by unfold okB; exact decide_eq_false fun h => h.1 h0)
    subst e1
    go_enter Try.func19, Try.ntmps19
    go_wp2
    go_ret2
    exact pr_no H.out (Below.refl _ _)
  have hne := Aid.nonempty_of s h0
  have hbt := get_bt s
  go_enter Try.func19, Try.ntmps19
  go_wp2
  go_loopw [6] (fun v wr => ∃ pos : Nat, pos ≤ s.size ∧ wr = w.iter s pos ∧ v = .int .i64 (num s pos) ∧ Good s m pos) (fun _ wr => s.size - wr.iterPos w.heap.size)
  case atStart => exact ⟨0, by omega, rfl, rfl, fun k hk => by omega⟩
  case round =>
    obtain ⟨pos, hp, rfl, rfl, hg⟩ := hrel
    have n0 := num_nonneg s m pos hg
    have n1 := num_le s m pos hg hm
    by_cases hlt : pos < s.size
    · have lo := bt_nonneg s pos
      have hi := bt_le s pos
      by_cases ha : bt s pos < 128
      · have hnx : ∀ ty, (Instr.next (.pointer (some ⟨w.heap.size, 0, none⟩)) true ty).run Try.prog (w.iter s pos) = .ok (.tuple #[.bool true, .int .i64 pos, .int .i32 (bt s pos)]) (w.iter s (pos + 1)) := fun ty => by
          rw [run_next_ascii w s pos ty hlt (by have := hbt pos hlt; omega), hbt pos hlt]
        by_cases d1 : bt s pos < 48
        · have H := Lib.hid (not_ok (s := s) (m := m) pos hlt (by omega))
          go_wp2
          go_ret2
          exact pr_no H.out (below_iter _ _ _)
        · by_cases d2 : 57 < bt s pos
          · have H := Lib.hid (not_ok (s := s) (m := m) pos hlt (by omega))
            go_wp2
            go_ret2
            exact pr_no H.out (below_iter _ _ _)
          · have HS := Lib.hid (show num s (pos + 1) = num s pos * 10 + (bt s pos - 48) by rfl)
            by_cases hle : num s pos * 10 + (bt s pos - 48) ≤ m
            · go_wp2
              go_roundw
              case rel => exact ⟨pos + 1, by omega, rfl, by rw [HS.out], fun k hk => by
                by_cases e : k = pos
                · subst e; exact ⟨by omega, by rw [HS.out]; exact hle⟩
                · exact hg k (by omega)⟩
              case measure => simp; omega
            · have H := Lib.hid (not_ok (s := s) (m := m) pos hlt (by rw [HS.out]; omega))
              go_wp2
              go_ret2
              exact pr_no H.out (below_iter _ _ _)
      · have hh := (decode_high s pos hlt (by have := hbt pos hlt; omega)).1
        have hnx : ∀ ty, (Instr.next (.pointer (some ⟨w.heap.size, 0, none⟩)) true ty).run Try.prog (w.iter s pos) = _ := fun ty => run_next_any w s pos ty hlt
        have H := Lib.hid (not_ok (s := s) (m := m) pos hlt (by omega))
        go_wp2
        go_ret2
        exact pr_no H.out (below_iter _ _ _)
    · obtain rfl : pos = s.size := by omega
      have hnx : ∀ ty, (Instr.next (.pointer (some ⟨w.heap.size, 0, none⟩)) true ty).run Try.prog (w.iter s s.size) = _ := fun ty => run_next_end w s s.size ty hlt
      have H := Lib.hid (ok_of h0 hg)
      go_wp2
      go_ret2
      exact ⟨by unfold val; rw [H.out]; rfl, below_iter _ _ _⟩
theorem parse8 (s : ByteArray) (m : Int) (w : World) (hs : s.size ≤ 1048576) (hm : m ≤ 214748363) (hlo : -9223372036854775808 ≤ m) :
    Calls Try.prog 8 #[.string s, .int .i64 m] w (PR s m w) := by
  go_enter Try.func8, Try.ntmps8
  go_wp2_with (go_at_call 19; ((with_reducible refine (parse s m _ hs hm hlo).mono ?_); rintro e w' ⟨rfl, hb⟩))
  go_ret2
  exact ⟨rfl, hb⟩
def fitsB (n : Nat) : Bool := decide (n ≤ 1048576)
theorem zz (s : ByteArray) (a b : Int) (w : World) (h1 : s.size ≤ maxLen) :
    Calls Try.prog 7 #[.string s, .int .i64 a, .int .i64 b] w fun e w' => e = .returned (.bool (fitsB s.size)) ∧ w = w' := by
  unfold maxLen at h1
  by_cases h : s.size ≤ 1048576
  · have H := Lib.hid (show fitsB s.size = true by unfold fitsB; simpa using h)
    go_enter Try.func7, Try.ntmps7
    go_wp2
    go_ret
    exact ⟨by rw [H.out]; rfl, rfl⟩
  · have H := Lib.hid (show fitsB s.size = false by unfold fitsB; simpa using h)
    go_enter Try.func7, Try.ntmps7
    go_wp2
    all_goals
      go_ret
      exact ⟨by rw [H.out]; rfl, rfl⟩
theorem ok_mono (s : ByteArray) (m m' : Int) (hm : m ≤ m') (h : okB s m = true) : okB s m' = true ∧ val s m' = val s m := by
  have h1 : s.size ≠ 0 ∧ Good s m s.size := by unfold okB at h; simpa using h
  have h2 := ok_of h1.1 (good_mono h1.2 hm)
  exact ⟨h2, by unfold val; rw [h, h2]⟩

theorem walk (a0 : ByteArray) (a1 : Int) (a2 : Int) (w : World) (w0 : a0.size ≤ maxLen) (w1 : (Lit.int .i64 a1).wf = true) (w2 : (Lit.int .i64 a2).wf = true) :
    Calls Try.prog 3 #[.string a0, .int .i64 a1, .int .i64 a2] w fun e w' => e = .returned (.bool true) ∧ Below w.heap.size w w' := by
  have b1 := Aid.i64_of w1
  have b2 := Aid.i64_of w2
  clear w1 w2
  by_cases hf : fitsB a0.size = false
  · go_enter Try.func3, Try.ntmps3
    go_wp2_with (go_at_call 7; ((with_reducible refine (zz _ _ _ _ w0).mono ?_); rintro e w' ⟨rfl, rfl⟩))
    go_ret
    exact ⟨rfl, Below.refl _ _⟩
  rw [Bool.not_eq_false] at hf
  have hs : a0.size ≤ 1048576 := by simpa [fitsB] using hf
  by_cases c1 : 214748363 < a2
  · go_enter Try.func3, Try.ntmps3
    go_wp2_with (go_at_call 7; ((with_reducible refine (zz _ _ _ _ w0).mono ?_); rintro e w' ⟨rfl, rfl⟩))
    go_ret
    exact ⟨rfl, Below.refl _ _⟩
  by_cases c2 : a2 < a1
  · have d1 : decide (214748363 < a2) = false := by simpa using c1
    go_enter Try.func3, Try.ntmps3
    go_wp2_with (go_at_call 7; ((with_reducible refine (zz _ _ _ _ w0).mono ?_); rintro e w' ⟨rfl, rfl⟩))
    go_ret
    exact ⟨rfl, Below.refl _ _⟩
  have d1 : decide (214748363 < a2) = false := by simpa using c1
  by_cases ho : okB a0 a1 = true
  · obtain ⟨o2, v2⟩ := ok_mono a0 a1 a2 (by omega) ho
    go_enter Try.func3, Try.ntmps3
    go_wp2_with (first
      | (go_at_call 7; ((with_reducible refine (zz _ _ _ _ w0).mono ?_); rintro e w' ⟨rfl, rfl⟩))
      | (go_at_call 8; ((with_reducible refine (parse8 a0 a1 _ hs (by omega) (by omega)).mono ?_); rintro e w1 ⟨rfl, hb1⟩))
      | (go_at_call 8; ((with_reducible refine (parse8 a0 a2 _ hs (by omega) (by omega)).mono ?_); rintro e w2 ⟨rfl, hb2⟩)))
    go_ret
    exact ⟨rfl, hb1.trans (hb2.mono hb1.size)⟩
  · rw [Bool.not_eq_true] at ho
    go_enter Try.func3, Try.ntmps3
    go_wp2_with (first
      | (go_at_call 7; ((with_reducible refine (zz _ _ _ _ w0).mono ?_); rintro e w' ⟨rfl, rfl⟩))
      | (go_at_call 8; ((with_reducible refine (parse8 a0 a1 _ hs (by omega) (by omega)).mono ?_); rintro e w1 ⟨rfl, hb1⟩))
      | (go_at_call 8; ((with_reducible refine (parse8 a0 a2 _ hs (by omega) (by omega)).mono ?_); rintro e w2 ⟨rfl, hb2⟩)))
    go_ret
    exact ⟨rfl, hb1.trans (hb2.mono hb1.size)⟩

set_option maxRecDepth 100000 in
theorem lifted (os : Os) (started : os.Started) (H : Type) (enc : TypeId × Value → H) :
    ReturnsInHanded {} Try.checked os 3 .any (Rows.fnParseRangeIntMonotoneInMaxSpec.pre6 enc Try.prog Try.f3 Rows.fnParseRangeIntMonotoneInMaxRow.domain false) (Rows.fnParseRangeIntMonotoneInMaxSpec.post enc Try.prog Try.f3 false true false false) := by
  refine returnsInHanded_of_change (C := Try.checked) own started (by kernel_rfl) Try.func3
    (ChangeSpec.witness6 (enc := enc) (C := Try.checked) false ⟨#[], #[.string ByteArray.empty, .int .i64 0, .int .i64 0], []⟩ 8 (by kernel_rfl) (by kernel_rfl) (by kernel_rfl) (by kernel_rfl)) ?_
  intro W base args ds gs before hval0 hW hcnd _
  have hval : ∀ (j : Nat) t v, Try.f3.params[j]? = some t → args[j]? = some v → Value.okWide Try.prog W .any base t v := hval0
  have hW' := hW
  obtain ⟨p, q, hA0, hV, rfl, hfz, hnd⟩ := hW
  have hA : DataW.TrodAll enc Try.prog W 0 (fun _ => true) true Try.f3.params.toList args.toList ds p := hA0
  rw [Try.params3] at hA hval
  obtain ⟨v0, vs0, d0, ds0, p0, q0, hargs, rfl, rfl, h0, r0⟩ := trodAll_cons hA
  obtain ⟨v1, vs1, d1, ds1, p1, q1, rfl, rfl, rfl, h1, r1⟩ := trodAll_cons r0
  obtain ⟨v2, vs2, d2, ds2, p2, q2, rfl, rfl, rfl, h2, r2⟩ := trodAll_cons r1
  obtain ⟨rfl, rfl, rfl⟩ := trodAll_nil r2
  obtain rfl : args = #[v0, v1, v2] := by cases args; simp_all
  obtain ⟨rfl, rfl⟩ := trodVars_none hV
  obtain ⟨a0, rfl, rfl, rfl, w0⟩ := open_string Try.underlying9 (hval 0 9 v0 rfl rfl) h0
  obtain ⟨a1, rfl, rfl, rfl, w1⟩ := open_int Try.underlying3 (hval 1 3 v1 rfl rfl) h1
  obtain ⟨a2, rfl, rfl, rfl, w2⟩ := open_int Try.underlying3 (hval 2 3 v2 rfl rfl) h2
  clear hA0 hval0
  refine (walk a0 a1 a2 W w0 w1 w2).mono fun e W' ⟨he, bel⟩ => ?_
  subst he
  exact ⟨_, rfl, _, _, _, [], _, [], hW', trodAll_mk1 (shut_bool Try.underlying4 _), (trodAll_cons_mk (shut_string Try.underlying9 w0) (trodAll_cons_mk (shut_int Try.underlying3 w1) (trodAll_cons_mk (shut_int Try.underlying3 w2) trodAll_mk0))), rfl, bel.frame _, fun h => by cases h⟩

theorem joined : joinedFacts Try.prog 3 Try.f3 Rows.fnParseRangeIntMonotoneInMaxSpec Rows.fnParseRangeIntMonotoneInMaxRow = true := by
  unfold joinedFacts
  rw [Facts.enter, Facts.lifts, Facts.make]
  kernel_rfl

theorem over : Rows.fnParseRangeIntMonotoneInMaxRow.holds Try.pinned (OpenSpec.ofChange Rows.fnParseRangeIntMonotoneInMaxSpec) :=
  OpenClaim.holds_of_wide 3 Try.f3 rfl rfl rfl rfl rfl rfl rfl ⟨rfl, rfl, rfl, rfl, rfl⟩ rfl rfl rfl rfl rfl (by kernel_rfl) Try.func3 joined
    (of_decide_eq_true (by kernel_rfl)) (by unfold Func.isWrapper; first | (rw [if_pos (by decide +kernel)]; kernel_rfl) | (rw [if_neg (by decide +kernel)]; exact ⟨rfl, rfl⟩))
    (fun os started H enc _ => lifted os started H enc)

theorem proved : Rows.FnParseRangeIntMonotoneInMaxSaid :=
  over
#print axioms proved
end Go.Proofs.Ytanponbjfbgigab.fnParseRangeIntMonotoneInMax
