/- findInvalidSegment answers the leftmost bad segment behind a separator, as a scan from the right does. No condition. -/
import Derived.Test.YtkkhfhbmcdpboaaRows
import Derived.WalkKit
import Derived.ProofKit
import Derived.OpenShut
import Derived.ShutString
import Derived.Test.YtkkhfhbmcdpboaaFacts
import Derived.Test.YtkkhfhbmcdpboaaAid
import Derived.Test.YtkkhfhbmcdpboaaShelf
import Derived.Test.YtkkhfhbmcdpboaaStr
import Derived.Test.YtkkhfhbmcdpboaaQd
import Derived.WalkSpells
import Derived.LoopTactic
import Derived.RegionTactic
import Derived.Outline
import Derived.Deep.QuietTactic
import Derived.BigQuiet
import Derived.Laws.RangeAny
import Derived.Laws.Runes
import Derived.Lib.OthersKept
namespace Go.Proofs.Ytkkhfhbmcdpboaa.fnFindInvalidSegmentMatchesBackwardScan
open Go.ChangeShapes Go.WideShapes Go.ChangeAt Go.RowKit
open Go.ChangeMaps (open_string shut_string)
set_option linter.unusedVariables false

theorem own : ownKnob Try.prog.godebug = none := by kernel_rfl
theorem laidOut : laidOutB Try.prog = true := by kernel_rfl

open Str PlainAid Qd
/-- Byte i of s is a separator. -/
def Sep (s : ByteArray) (i : Nat) : Prop := bt s i = 47 ∨ bt s i = 92
instance (s : ByteArray) (i : Nat) : Decidable (Sep s i) := by unfold Sep; infer_instance
/-- e is the end of the segment that begins at i. -/
def IsEnd (s : ByteArray) (i e : Nat) : Prop := i ≤ e ∧ e ≤ s.size ∧ (∀ j, i ≤ j → j < e → ¬ Sep s j) ∧ (e = s.size ∨ Sep s e)
theorem IsEnd.uniq {s : ByteArray} {i e f : Nat} (h : IsEnd s i e) (h2 : IsEnd s i f) : e = f := by
  obtain ⟨a1, a2, a3, a4⟩ := h
  obtain ⟨b1, b2, b3, b4⟩ := h2
  rcases Nat.lt_trichotomy e f with hl | hl | hl
  · rcases a4 with h | h
    · omega
    · exact absurd h (b3 e a1 hl)
  · exact hl
  · rcases b4 with h | h
    · omega
    · exact absurd h (a3 f b1 hl)
def n_m : ByteArray := ⟨#[110, 111, 100, 101, 95, 109, 111, 100, 117, 108, 101, 115]⟩
def Bad (t : ByteArray) : Prop := t = ⟨#[46]⟩ ∨ t = ⟨#[46, 46]⟩ ∨ t = n_m
/-- Behind the separator at i lies a bad segment r. -/
def BadAt (s : ByteArray) (i : Nat) (r : ByteArray) : Prop := i < s.size ∧ Sep s i ∧ ∃ e, IsEnd s (i + 1) e ∧ r = s.extract (i + 1) e ∧ Bad r
/-- r is the answer for the separators from k on. -/
def Ans (s : ByteArray) (k : Nat) (r : ByteArray) : Prop :=
  (∃ i, k ≤ i ∧ BadAt s i r ∧ ∀ j, k ≤ j → j < i → ∀ x, ¬ BadAt s j x) ∨ (r = ByteArray.empty ∧ ∀ j, k ≤ j → ∀ x, ¬ BadAt s j x)
theorem BadAt.uniq {s : ByteArray} {i : Nat} {r x : ByteArray} (h : BadAt s i r) (h2 : BadAt s i x) : r = x := by
  obtain ⟨_, _, e, he, rfl, _⟩ := h
  obtain ⟨_, _, f, hf, rfl, _⟩ := h2
  rw [he.uniq hf]
theorem Ans.uniq {s : ByteArray} {k : Nat} {r x : ByteArray} (h : Ans s k r) (h2 : Ans s k x) : r = x := by
  rcases h with ⟨i, hi, hb, hn⟩ | ⟨rfl, hn⟩
  · rcases h2 with ⟨j, hj, hc, hm⟩ | ⟨rfl, hm⟩
    · rcases Nat.lt_trichotomy i j with hl | hl | hl
      · exact absurd hb (hm i hi hl r)
      · subst hl; exact hb.uniq hc
      · exact absurd hc (hn j hj hl x)
    · exact absurd hb (hm i hi r)
  · rcases h2 with ⟨j, hj, hc, hm⟩ | ⟨rfl, hm⟩
    · exact absurd hc (hn j hj x)
    · rfl
theorem Ans.skip {s : ByteArray} {k m : Nat} {r : ByteArray} (hkm : k ≤ m) (hn : ∀ j, k ≤ j → j < m → ∀ x, ¬ BadAt s j x) (h : Ans s m r) : Ans s k r := by
  rcases h with ⟨i, hi, hb, hx⟩ | ⟨rfl, hx⟩
  · refine .inl ⟨i, by omega, hb, fun j h1 h2 => ?_⟩
    by_cases e : j < m
    · exact hn j h1 e
    · exact hx j (by omega) h2
  · refine .inr ⟨rfl, fun j h1 => ?_⟩
    by_cases e : j < m
    · exact hn j h1 e
    · exact hx j (by omega)
theorem Ans.hit {s : ByteArray} {k : Nat} {r : ByteArray} (h : BadAt s k r) : Ans s k r := .inl ⟨k, Nat.le_refl _, h, fun j h1 h2 => by omega⟩
theorem Ans.step {s : ByteArray} {k : Nat} {r : ByteArray} (h : ∀ x, ¬ BadAt s k x) (h2 : Ans s (k + 1) r) : Ans s k r :=
  Ans.skip (Nat.le_succ k) (fun j h1 h3 => by obtain rfl : j = k := by omega
                                              exact h) h2
theorem Ans.end_ {s : ByteArray} {k : Nat} (h : s.size ≤ k) : Ans s k ByteArray.empty := .inr ⟨rfl, fun j h1 x h2 => by have := h2.1; omega⟩
theorem not_sep_bad {s : ByteArray} {k : Nat} (h : ¬ Sep s k) (x : ByteArray) : ¬ BadAt s k x := fun h2 => h h2.2.1
theorem not_bad {s : ByteArray} {k e : Nat} (he : IsEnd s (k + 1) e) (h : ¬ Bad (s.extract (k + 1) e)) (x : ByteArray) : ¬ BadAt s k x := fun h2 => by
  obtain ⟨_, _, f, hf, rfl, hb⟩ := h2
  rw [hf.uniq he] at hb
  exact h hb
theorem IsEnd.top (s : ByteArray) : IsEnd s s.size s.size := ⟨Nat.le_refl _, Nat.le_refl _, fun j h1 h2 => by omega, .inl rfl⟩
theorem IsEnd.back {s : ByteArray} {i e : Nat} (h : IsEnd s (i + 1) e) (hn : ¬ Sep s i) : IsEnd s i e := by
  obtain ⟨a1, a2, a3, a4⟩ := h
  exact ⟨by omega, a2, fun j h1 h2 => by
    by_cases e1 : j = i
    · subst e1; exact hn
    · exact a3 j (by omega) h2, a4⟩
theorem IsEnd.here {s : ByteArray} {i : Nat} (h : Sep s i) (hi : i < s.size) : IsEnd s i i := ⟨Nat.le_refl _, by omega, fun j h1 h2 => by omega, .inr h⟩

/-- What IndexAny answers at the two separators. -/
def Idx (s : ByteArray) (n : Int) : Prop := (n = -1 ∧ ∀ j, j < s.size → ¬ Sep s j) ∨ ∃ k : Nat, n = k ∧ k < s.size ∧ Sep s k ∧ ∀ j, j < k → ¬ Sep s j
theorem contains_sep (s : ByteArray) (k : Nat) (h : k < s.size) : ([47, 92] : List UInt8).contains (s.data.toList[k]'(by rw [len_data]; exact h)) = true ↔ Sep s k := by
  unfold Sep
  rw [bt_get s k h]
  generalize s.data.toList[k]'(by rw [len_data]; exact h) = c
  simp only [List.contains_cons, List.contains_nil, Bool.or_false, Bool.or_eq_true, beq_iff_eq]
  constructor
  · rintro (rfl | rfl)
    · left; rfl
    · right; rfl
  · rintro (h | h)
    · left; apply UInt8.toNat.inj; show _ = 47; omega
    · right; apply UInt8.toNat.inj; show _ = 92; omega
theorem least (s : ByteArray) : ∀ n, (∀ j, j < n → ¬ Sep s j) ∨ ∃ k, k < n ∧ Sep s k ∧ ∀ j, j < k → ¬ Sep s j
  | 0 => .inl fun j h => absurd h (Nat.not_lt_zero _)
  | n + 1 => by
    rcases least s n with h | ⟨k, hk, h1, h2⟩
    · by_cases e : Sep s n
      · exact .inr ⟨n, Nat.lt_succ_self n, e, h⟩
      · exact .inl fun j hj => by
          by_cases e2 : j = n
          · subst e2; exact e
          · exact h j (by omega)
    · exact .inr ⟨k, by omega, h1, h2⟩
theorem noAny_of (s : ByteArray) (k : Nat) (hk : k ≤ s.size) (h : ∀ j, j < k → ¬ Sep s j) : Lib.NoAny s.data.toList [47, 92] k := by
  intro j b hj hb
  obtain ⟨hl, e⟩ := List.getElem?_eq_some_iff.1 hb
  have hl' : j < s.size := hl
  have := contains_sep s j hl'
  have h2 := h j hj
  rw [← this] at h2
  subst e
  simpa using h2
theorem idx_of (s : ByteArray) : Idx s (Lib.indexAny s.data.toList [47, 92]) := by
  rcases least s s.size with h | ⟨k, hk, h1, h2⟩
  · exact .inl ⟨Lib.indexAny_none (by rw [len_data]; exact noAny_of s _ (Nat.le_refl _) h), h⟩
  · refine .inr ⟨k, ?_, hk, h1, h2⟩
    exact Lib.indexAny_hit (x := s.data.toList[k]'hk) (noAny_of s k (by omega) h2) (List.getElem?_eq_getElem hk) ((contains_sep s k hk).2 h1)
theorem idx_uniq {s : ByteArray} {n m : Int} (h : Idx s n) (h2 : Idx s m) : n = m := by
  rcases h with ⟨rfl, h⟩ | ⟨k, rfl, a, b, c⟩
  · rcases h2 with ⟨rfl, h2⟩ | ⟨k, rfl, a, b, c⟩
    · rfl
    · exact absurd b (h k a)
  · rcases h2 with ⟨rfl, h2⟩ | ⟨j, rfl, a', b', c'⟩
    · exact absurd b (h2 k a)
    · rcases Nat.lt_trichotomy k j with hl | hl | hl
      · exact absurd b (c' k hl)
      · rw [hl]
      · exact absurd b' (c j hl)
theorem not_sep_high (s : ByteArray) (k : Nat) (h : 128 ≤ bt s k) : ¬ Sep s k := by rintro (h2 | h2) <;> omega
theorem get_bang (s : ByteArray) (k : Nat) (h : k < s.size) : ((s.get! k).toNat : Int) = bt s k := by
  have : s.get! k = s[k]'h := by
    simp [ByteArray.get!, getElem!_pos, h]
    rfl
  rw [this]; exact get_bt s k h
theorem cont_of {s : ByteArray} {k : Nat} (h : (decide (k < s.size) && (s.get! k).toNat / 64 == 2) = true) : k < s.size ∧ 128 ≤ bt s k := by
  simp only [Bool.and_eq_true, decide_eq_true_eq, beq_iff_eq] at h
  have := get_bang s k h.1
  exact ⟨h.1, by omega⟩
/-- The decoded piece holds no separator but where it is one byte. -/
theorem dec (s : ByteArray) (i : Nat) (h : i < s.size) (h8 : 128 ≤ (s[i]'h).toNat) : 1 ≤ (Utf8.decode s i).2 ∧ i + (Utf8.decode s i).2 ≤ s.size ∧ ∀ j, i ≤ j → j < i + (Utf8.decode s i).2 → ¬ Sep s j := by
  have h0 : 128 ≤ bt s i := by rw [← get_bt s i h]; omega
  have hs0 := not_sep_high s i h0
  have one : ∀ w, w = 1 → 1 ≤ w ∧ i + w ≤ s.size ∧ ∀ j, i ≤ j → j < i + w → ¬ Sep s j := by
    rintro w rfl
    exact ⟨by omega, by omega, fun j h1 h2 => by obtain rfl : j = i := by omega
                                                 exact hs0⟩
  simp only [Utf8.decode]
  split
  · exact one _ rfl
  split
  · rename_i h2
    simp only [Bool.and_eq_true] at h2
    obtain ⟨c1, c2⟩ := cont_of (s := s) (k := i + 1) (by simpa using h2.2)
    split
    · refine ⟨by omega, by show i + 2 ≤ _; omega, fun j h3 h4 => ?_⟩
      have h4 : j < i + 2 := h4
      by_cases e : j = i
      · subst e; exact hs0
      · obtain rfl : j = i + 1 := by omega
        exact not_sep_high s _ c2
    · exact one _ rfl
  split
  · rename_i h2
    simp only [Bool.and_eq_true] at h2
    obtain ⟨c1, c2⟩ := cont_of (s := s) (k := i + 1) (by simpa using h2.1.2)
    obtain ⟨c3, c4⟩ := cont_of (s := s) (k := i + 2) (by simpa using h2.2)
    split
    · refine ⟨by omega, by show i + 3 ≤ _; omega, fun j h3 h4 => ?_⟩
      have h4 : j < i + 3 := h4
      by_cases e : j = i
      · subst e; exact hs0
      by_cases e : j = i + 1
      · subst e; exact not_sep_high s _ c2
      · obtain rfl : j = i + 2 := by omega
        exact not_sep_high s _ c4
    · exact one _ rfl
  split
  · rename_i h2
    simp only [Bool.and_eq_true] at h2
    obtain ⟨c1, c2⟩ := cont_of (s := s) (k := i + 1) (by simpa using h2.1.1.2)
    obtain ⟨c3, c4⟩ := cont_of (s := s) (k := i + 2) (by simpa using h2.1.2)
    obtain ⟨c5, c6⟩ := cont_of (s := s) (k := i + 3) (by simpa using h2.2)
    split
    · refine ⟨by omega, by show i + 4 ≤ _; omega, fun j h3 h4 => ?_⟩
      have h4 : j < i + 4 := h4
      by_cases e : j = i
      · subst e; exact hs0
      by_cases e : j = i + 1
      · subst e; exact not_sep_high s _ c2
      by_cases e : j = i + 2
      · subst e; exact not_sep_high s _ c4
      · obtain rfl : j = i + 3 := by omega
        exact not_sep_high s _ c6
    · exact one _ rfl
  · exact one _ rfl
theorem bt_mk (l : Array UInt8) (k : Nat) (h : k < l.size) : bt ⟨l⟩ k = (l[k].toNat : Int) := by
  unfold bt; rw [dif_pos (show k < (⟨l⟩ : ByteArray).size from h)]; rfl
theorem ofNat_hi (n : Nat) (h : n < 64) : ((UInt8.ofNat (0x80 + n)).toNat : Int) = 128 + n := by
  rw [UInt8.toNat_ofNat']; omega
theorem enc_len (r : Int) (h : 128 ≤ r) : 2 ≤ (Utf8.encode r).size ∧ (Utf8.encode r).size ≤ 4 ∧ 128 ≤ bt (Utf8.encode r) ((Utf8.encode r).size - 1) := by
  have hc : 128 ≤ (if Utf8.valid r then r.toNat else Utf8.runeError) := by
    split
    · omega
    · decide
  simp only [Utf8.encode]
  generalize (if Utf8.valid r then r.toNat else Utf8.runeError) = c at hc
  have hn : ¬ c < 128 := by omega
  simp only [hn, if_false]
  have hh := ofNat_hi (c % 64) (by omega)
  split
  · refine ⟨Nat.le_refl _, by show 2 ≤ 4; omega, ?_⟩
    rw [show (ByteArray.size ⟨#[UInt8.ofNat (0xC0 + c / 64), UInt8.ofNat (0x80 + c % 64)]⟩ - 1) = 1 from rfl, bt_mk _ _ (by simp)]
    show 128 ≤ ((UInt8.ofNat (0x80 + c % 64)).toNat : Int)
    omega
  split
  · refine ⟨by show 2 ≤ 3; omega, by show 3 ≤ 4; omega, ?_⟩
    rw [show (ByteArray.size ⟨#[UInt8.ofNat (0xE0 + c / 4096), UInt8.ofNat (0x80 + c / 64 % 64), UInt8.ofNat (0x80 + c % 64)]⟩ - 1) = 2 from rfl, bt_mk _ _ (by simp)]
    show 128 ≤ ((UInt8.ofNat (0x80 + c % 64)).toNat : Int)
    omega
  · refine ⟨by show 2 ≤ 4; omega, Nat.le_refl _, ?_⟩
    rw [show (ByteArray.size ⟨#[UInt8.ofNat (0xF0 + c / 262144), UInt8.ofNat (0x80 + c / 4096 % 64), UInt8.ofNat (0x80 + c / 64 % 64), UInt8.ofNat (0x80 + c % 64)]⟩ - 1) = 3 from rfl, bt_mk _ _ (by simp)]
    show 128 ≤ ((UInt8.ofNat (0x80 + c % 64)).toNat : Int)
    omega
def seps : ByteArray := ⟨#[47, 92]⟩
def ItR (w wr : World) : Prop := wr = w.iter seps 0 ∨ wr = w.iter seps 1 ∨ wr = w.iter seps 2
set_option maxRecDepth 100000 in
theorem ir_err (w : World) : Calls Try.prog 26 #[.string seps, .int .i32 65533] w fun e w' => e = .returned (.int .i64 (-1)) ∧ Below w.heap.size w w' := by
  have n0 := fun ty => run_next_ascii (P := Try.prog) w seps 0 ty (by decide) (by decide)
  have n1 := fun ty => run_next_ascii (P := Try.prog) w seps 1 ty (by decide) (by decide)
  have n2 := fun ty => run_next_end (P := Try.prog) w seps 2 ty (by decide)
  have q0 : ((seps[0]'(by decide)).toNat : Int) = 47 := rfl
  have q1 : ((seps[1]'(by decide)).toNat : Int) = 92 := rfl
  rw [q0] at n0
  rw [q1] at n1
  clear q0 q1
  go_enter Try.func26, Try.ntmps26
  go_wp2_with fail
  go_loopw [5, 6] (fun _ _ wr => ItR w wr) (fun _ _ wr => 2 - wr.iterPos w.heap.size)
  case atStart => exact .inl rfl
  case round =>
    rcases hrel with rfl | rfl | rfl
    · go_wp2_with fail
      go_roundw
      case rel => exact .inr (.inl rfl)
      case measure => simp
    · go_wp2_with fail
      go_roundw
      case rel => exact .inr (.inr rfl)
      case measure => simp
    · go_wp2_with fail
      go_ret
      exact ⟨rfl, (Below.refl _ _).alloc (Nat.le_refl _) _⟩
set_option maxRecDepth 100000 in
theorem ir_big (r : Int) (w : World) (h : 128 ≤ r) (hr : r ≤ 2147483647) (hn : (r == 65533) = false) : Calls Try.prog 26 #[.string seps, .int .i32 r] w fun e w' => e = .returned (.int .i64 (-1)) ∧ Below w.heap.size w w' := by
  obtain ⟨e1, e2, e3⟩ := enc_len r h
  have hs : seps.size = 2 := rfl
  have hcv := fun w => run_convert_int_string (P := Try.prog) w 21 9 .i32 r (by kernel_rfl) Try.underlying9
  generalize Utf8.encode r = E at *
  cases hv : Lib.validRune r
  · go_enter Try.func26, Try.ntmps26
    go_wp2_with (go_at_call 31; ((with_reducible refine (Try.utf8_ValidRune _ _).mono ?_); rintro e w' ⟨rfl, rfl⟩))
    go_ret
    exact ⟨rfl, Below.refl _ _⟩
  have hbs := get_bt seps
  have hbE := get_bt E
  have hb1 : bt seps 1 = 92 := rfl
  by_cases h2 : E.size = 2
  · rw [h2, show 2 - 1 = 1 from rfl] at e3
    have hne : (bt E 1 != 92) = true := by simp; omega
    have hne2 : ((92 : Int) != bt E 1) = true := by simp; omega
    have hne3 : ((92 : Int) == bt E 1) = false := by simp; omega
    have hsl : (seps.extract 2 2) = ByteArray.empty := rfl
    have hib : ∀ c : Int, Lib.indexByte (ByteArray.empty).data.toList c.toNat.toUInt8 = -1 := fun c => rfl
    have H2 := Lib.hid h2
    have e1' : (1 : Int) < (E.size : Int) := by omega
    have e2' : 1 < E.size := by omega
    have e4 : IntKind.i64.wrap ((E.size : Int) - 1) = 1 := by rw [h2]; rfl
    clear e1 e2 e3 h2
    go_enter Try.func26, Try.ntmps26
    go_wp2_with (go_at_call 31; ((with_reducible refine (Try.utf8_ValidRune _ _).mono ?_); rintro e w' ⟨rfl, rfl⟩))
    go_step3
    go_wp2_with fail
    refine wp_loop_rounds 1 ?_
    rw [rounds_succ]
    go_wp2_with fail
    go_step3
    go_wp2_with fail
    go_quiet (fail)
    go_wp2_with fail
    go_quiet ((go_at_call 30; exact quiet_add_same (Try.strings_IndexByte _ _ _)))
    go_wp2_with fail
    rw [Exit.noGoto_ret]
    go_wp2_with fail
    rw [Exit.noGoto_ret]
    go_ret
    exact ⟨rfl, below_drewN (Below.refl _ _) _⟩
  · have hlt : ¬ ((E.size : Int) - 1 < 2) := by omega
    go_enter Try.func26, Try.ntmps26
    go_wp2_with (go_at_call 31; ((with_reducible refine (Try.utf8_ValidRune _ _).mono ?_); rintro e w' ⟨rfl, rfl⟩))
    go_step3
    go_wp2_with fail
    refine wp_loop_rounds 1 ?_
    rw [rounds_succ]
    go_wp2_with fail
    iterate 4 (try rw [Exit.noGoto_ret])
    go_ret
    exact ⟨rfl, Below.refl _ _⟩
theorem ir (r : Int) (w : World) (h : 128 ≤ r) (hr : r ≤ 2147483647) : Calls Try.prog 26 #[.string seps, .int .i32 r] w fun e w' => e = .returned (.int .i64 (-1)) ∧ Below w.heap.size w w' := by
  by_cases e : r = 65533
  · subst e; exact ir_err w
  · exact ir_big r w h hr (by simpa using e)
theorem seps_ascii : ∀ (j : Nat) b, seps.data.toList[j]? = some b → b.toNat < 128 := by
  intro j b h
  have : b ∈ seps.data.toList := List.mem_of_getElem? h
  simp [seps] at this
  rcases this with rfl | rfl <;> decide
def IA (s : ByteArray) (w : World) (e : Ending) (w' : World) : Prop := ∃ n : Int, e = .returned (.int .i64 n) ∧ Idx s n ∧ Below w.heap.size w w'
/-- The iterator in block b stands at i; nothing before i is a separator. -/
def Itr (s : ByteArray) (w : World) (i : Nat) (wr : World) : Prop := i ≤ s.size ∧ wr.heap[w.heap.size]? = some (.stringIter s i) ∧ Below w.heap.size w wr ∧ ∀ j, j < i → ¬ Sep s j
theorem zero65 (w : World) : (zeroValue 65).run Try.prog w = .ok (.agg (Array.replicate 256 (.bool false))) w := by kernel_rfl
theorem ia_long (s : ByteArray) (w : World) (h8 : 8 < s.size) (hs : s.size ≤ 1048576) : Calls Try.prog 25 #[.string s, .string seps] w (IA s w) := by
  refine (Try.strings_IndexAny_long zero65 s seps w (by decide) h8 (by omega) (by decide) seps_ascii).mono ?_
  rintro e w' ⟨rfl, rfl⟩
  exact ⟨_, rfl, idx_of s, ((Below.refl _ _).alloc (Nat.le_refl _) _).alloc (by simp) _⟩
theorem ir_lo (c : UInt8) (w : World) (h : c.toNat < 128) : Calls Try.prog 26 #[.string seps, .int .i32 c.toNat] w fun e w' => e = .returned (.int .i64 (Lib.indexByte [47, 92] c)) ∧ w' = w := by
  refine (Try.strings_IndexRune_ascii seps c.toNat w (by omega) (by omega)).mono ?_
  rintro e w' ⟨rfl, rfl⟩
  refine ⟨?_, rfl⟩
  have : ((c.toNat : Int)).toNat.toUInt8 = c := by simp
  rw [this]
  rfl
theorem ir_hit (c : UInt8) : (0 : Int) ≤ Lib.indexByte [47, 92] c ↔ (c.toNat : Int) = 47 ∨ (c.toNat : Int) = 92 := by
  rw [indexByte_nonneg]
  simp only [List.mem_cons, List.not_mem_nil, or_false]
  constructor
  · rintro (rfl | rfl)
    · left; rfl
    · right; rfl
  · rintro (h | h)
    · left; apply UInt8.toNat.inj; show _ = 47; omega
    · right; apply UInt8.toNat.inj; show _ = 92; omega
set_option maxRecDepth 100000 in
theorem ia_short (s : ByteArray) (w : World) (h8 : s.size ≤ 8) : Calls Try.prog 25 #[.string s, .string seps] w (IA s w) := by
  have hemp : seps.toList.isEmpty = false := Aid.nonempty_of seps (by decide)
  have hn1 : ((seps.size : Int) == 1) = false := rfl
  have h8z : decide ((8 : Int) < (s.size : Int)) = false := decide_eq_false (by omega)
  go_enter Try.func25, Try.ntmps25
  go_wp2_with (go_at_call 27; ((with_reducible refine (Try.strings_shouldUseASCIISet _ _).mono ?_); rintro e w' ⟨rfl, hw⟩; rw [hw, h8z]))
  go_loopw [9, 10] (fun _ _ wr => ∃ i, Itr s w i wr) (fun _ _ wr => s.size - wr.iterPos w.heap.size)
  case atStart => exact ⟨0, Nat.zero_le _, heap_alloc_new _ _, (Below.refl _ _).alloc (Nat.le_refl _) _, fun j hj => absurd hj (Nat.not_lt_zero _)⟩
  case round =>
    obtain ⟨i, hi⟩ := hrel
    have HI := Lib.hid hi
    obtain ⟨hle, hit, hb, hno⟩ := hi
    clear hno
    by_cases hlt : i < s.size
    · have hnx := fun ty => Lib.run_next_any_at (P := Try.prog) wr w.heap.size s i ty hit hlt
      have HT := Lib.hid hit
      have HB := Lib.hid hb
      clear hit hb
      by_cases ha : (s[i]'hlt).toNat < 128
      · rw [show Utf8.decode s i = ((s[i]'hlt).toNat, 1) from decode_ascii s i hlt ha] at hnx
        have hb0 := get_bt s i hlt
        obtain ⟨c, hc⟩ : ∃ c, s[i]'hlt = c := ⟨_, rfl⟩
        rw [hc] at hnx hb0 ha
        have HC := Lib.hid hc
        clear hc
        by_cases hz : (0 : Int) ≤ Lib.indexByte [47, 92] c
        · have hsep : Sep s i := by
            have := (ir_hit c).1 hz
            unfold Sep
            rw [← hb0]; exact this
          have HS := Lib.hid hsep
          have HB0 := Lib.hid hb0
          clear hsep hb0
          go_wp2_with (go_at_call 26; ((with_reducible refine (ir_lo c _ ha).mono ?_); rintro e w' ⟨rfl, rfl⟩))
          go_ret
          exact ⟨_, rfl, .inr ⟨i, rfl, hlt, HS.out, HI.out.2.2.2⟩, Lib.below_iterAt HB.out (Nat.le_refl _) _ _⟩
        · have hsep : ¬ Sep s i := fun h => hz ((ir_hit c).2 (by unfold Sep at h; rw [← hb0] at h; exact h))
          have HS := Lib.hid hsep
          have HB0 := Lib.hid hb0
          clear hsep hb0
          go_wp2_with (go_at_call 26; ((with_reducible refine (ir_lo c _ ha).mono ?_); rintro e w' ⟨rfl, rfl⟩))
          go_roundw
          case rel =>
            refine ⟨i + 1, by omega, Lib.iterAt_heap _ _ _ i _ HT.out, Lib.below_iterAt HB.out (Nat.le_refl _) _ _, fun j hj => ?_⟩
            by_cases e : j = i
            · subst e; exact HS.out
            · exact HI.out.2.2.2 j (by omega)
          case measure =>
            have h1 := HT.out
            have h2 := Lib.iterAt_heap wr w.heap.size s i (i + 1) HT.out
            simp [World.iterPos, h1, h2]; omega
      · obtain ⟨d1, d2, d3⟩ := dec s i hlt (by omega)
        have hh := decode_high s i hlt (by omega)
        have hl := decode_le s i
        generalize Utf8.decode s i = d at hnx d1 d2 d3 hh hl
        obtain ⟨r, k⟩ := d
        simp only at hnx d1 d2 d3 hh hl
        have HD := Lib.hid d3
        clear d3
        have hw2 : w.heap.size < wr.heap.size := by
          have := (Array.getElem?_eq_some_iff.1 HT.out).1
          exact this
        go_wp2_with (go_at_call 26; ((with_reducible refine (ir (r : Int) _ (by omega) (by omega)).mono ?_); rintro e w' ⟨rfl, hb2⟩))
        go_roundw
        case rel =>
          refine ⟨i + k, by omega, ?_, (Lib.below_iterAt HB.out (Nat.le_refl _) _ _).trans (hb2.mono (by rw [Lib.iterAt_size]; omega)), fun j hj => ?_⟩
          · rw [hb2.block _ (by rw [Lib.iterAt_size]; exact hw2)]
            exact Lib.iterAt_heap _ _ _ i _ HT.out
          · by_cases e : j < i
            · exact HI.out.2.2.2 j e
            · exact HD.out j (by omega) hj
        case measure =>
          have h1 := HT.out
          have h2 := Lib.iterAt_heap wr w.heap.size s i (i + k) HT.out
          have h3 := hb2.block w.heap.size (by rw [Lib.iterAt_size]; exact hw2)
          simp [World.iterPos, h1, h2, h3]; omega
    · have hnx := fun ty => Lib.run_next_end_at (P := Try.prog) wr w.heap.size s i ty hit hlt
      clear hit
      go_wp2_with fail
      go_ret
      exact ⟨_, rfl, .inl ⟨rfl, fun j hj => HI.out.2.2.2 j (by omega)⟩, hb⟩
theorem ia (s : ByteArray) (w : World) (hs : s.size ≤ 1048576) : Calls Try.prog 25 #[.string s, .string seps] w (IA s w) := by
  by_cases h8 : s.size ≤ 8
  · exact ia_short s w h8
  · exact ia_long s w (by omega) hs
def b1 (t : ByteArray) : Bool := t.toList == [46]
def b2 (t : ByteArray) : Bool := t.toList == [46, 46]
def b3 (t : ByteArray) : Bool := t.toList == [110, 111, 100, 101, 95, 109, 111, 100, 117, 108, 101, 115]
theorem toList_eq_iff (t : ByteArray) (l : List UInt8) : (t.toList == l) = true ↔ t = ⟨l.toArray⟩ := by
  rw [beq_iff_eq, ByteArray.toList_eq]
  constructor
  · intro h; apply WideShapes.bytes_inj; rw [h]
  · rintro rfl; rfl
theorem bad_iff (t : ByteArray) : Bad t ↔ b1 t = true ∨ b2 t = true ∨ b3 t = true := by
  unfold Bad b1 b2 b3
  rw [toList_eq_iff, toList_eq_iff, toList_eq_iff]
  rfl
theorem isBad_y (t : ByteArray) (w : World) (h : Bad t) : Calls Try.prog 23 #[.string t] w fun e w' => e = .returned (.bool true) ∧ w = w' := by
  rw [bad_iff] at h
  cases h1 : b1 t
  · cases h2 : b2 t
    · cases h3 : b3 t
      · simp [h1, h2, h3] at h
      · unfold b1 at h1; unfold b2 at h2; unfold b3 at h3; clear h
        go_enter Try.func23, Try.ntmps23
        go_wp2_with fail
        go_ret
        exact ⟨rfl, rfl⟩
    · unfold b1 at h1; unfold b2 at h2; clear h
      go_enter Try.func23, Try.ntmps23
      go_wp2_with fail
      go_ret
      exact ⟨rfl, rfl⟩
  · unfold b1 at h1; clear h
    go_enter Try.func23, Try.ntmps23
    go_wp2_with fail
    go_ret
    exact ⟨rfl, rfl⟩
theorem isBad_n (t : ByteArray) (w : World) (h : ¬ Bad t) : Calls Try.prog 23 #[.string t] w fun e w' => e = .returned (.bool false) ∧ w = w' := by
  rw [bad_iff] at h
  have h1 : b1 t = false := by cases e : b1 t <;> simp_all
  have h2 : b2 t = false := by cases e : b2 t <;> simp_all
  have h3 : b3 t = false := by cases e : b3 t <;> simp_all
  unfold b1 at h1; unfold b2 at h2; unfold b3 at h3; clear h
  go_enter Try.func23, Try.ntmps23
  go_wp2_with fail
  go_ret
  exact ⟨rfl, rfl⟩
theorem sep_y (s : ByteArray) (i : Nat) (w : World) (h : Sep s i) : Calls Try.prog 22 #[.int .u8 (bt s i)] w fun e w' => e = .returned (.bool true) ∧ w = w' := by
  rcases h with h | h
  · rw [h]
    go_enter Try.func22, Try.ntmps22
    go_wp2_with fail
    go_ret
    exact ⟨rfl, rfl⟩
  · rw [h]
    go_enter Try.func22, Try.ntmps22
    go_wp2_with fail
    go_ret
    exact ⟨rfl, rfl⟩
theorem sep_n (s : ByteArray) (i : Nat) (w : World) (h : ¬ Sep s i) : Calls Try.prog 22 #[.int .u8 (bt s i)] w fun e w' => e = .returned (.bool false) ∧ w = w' := by
  have h1 : (bt s i == 47) = false := by simp; exact fun e => h (.inl e)
  have h2 : (bt s i == 92) = false := by simp; exact fun e => h (.inr e)
  clear h
  go_enter Try.func22, Try.ntmps22
  go_wp2_with fail
  go_ret
  exact ⟨rfl, rfl⟩
def Rs (s : ByteArray) (w : World) (e : Ending) (w' : World) : Prop := ∃ r, e = .returned (.string r) ∧ Ans s 0 r ∧ Below w.heap.size w w'
theorem back (s : ByteArray) (w : World) (hs : s.size ≤ 1048576) : Calls Try.prog 15 #[.string s] w (Rs s w) := by
  have hbt := get_bt s
  go_enter Try.func15, Try.ntmps15
  go_wp2_with fail
  go_loop [3, 4, 5] (fun f n i => ∃ (k e : Nat) (r : ByteArray), k ≤ s.size ∧ f = .string r ∧ n = .int .i64 e ∧ i = .int .i64 ((k : Int) - 1) ∧ Hid (Ans s k r ∧ IsEnd s k e)) (fun _ _ i => (intOf i + 1).toNat)
  case atStart => exact ⟨s.size, s.size, ByteArray.empty, Nat.le_refl _, rfl, rfl, rfl, Lib.hid ⟨Ans.end_ (Nat.le_refl _), IsEnd.top s⟩⟩
  case round =>
    obtain ⟨k, e, r, hk, rfl, rfl, rfl, H⟩ := hrel
    cases k with
    | zero =>
      go_wp2_with fail
      go_ret
      exact ⟨_, rfl, H.out.1, Below.refl _ _⟩
    | succ m =>
      have em : ((m + 1 : Nat) : Int) - 1 = (m : Int) := by omega
      rw [em]
      clear em
      have he1 : (m : Int) + 1 ≤ (e : Int) := by have := H.out.2.1; omega
      have he2 : (e : Int) ≤ (s.size : Int) := by have := H.out.2.2.1; omega
      have hm : (m : Int) < (s.size : Int) := by omega
      have he3 : m + 1 ≤ e := by omega
      have he4 : e ≤ s.size := by omega
      have hm2 : m < s.size := by omega
      by_cases hsp : Sep s m
      · have HS := Lib.hid hsp
        clear hsp
        by_cases hb : Bad (s.extract (m + 1) e)
        · have HB := Lib.hid hb
          clear hb
          go_wp2_with (first | (go_at_call 22; ((with_reducible refine (sep_y s m _ HS.out).mono ?_); rintro e w' ⟨rfl, rfl⟩)) | (go_at_call 23; ((with_reducible refine (isBad_y _ _ HB.out).mono ?_); rintro e w' ⟨rfl, rfl⟩)))
          go_round
          case rel => exact ⟨m, m, _, by omega, rfl, rfl, rfl, Lib.hid ⟨Ans.hit ⟨hm2, HS.out, e, H.out.2, rfl, HB.out⟩, IsEnd.here HS.out hm2⟩⟩
          case measure => simp [intOf] <;> omega
        · have HB := Lib.hid hb
          clear hb
          go_wp2_with (first | (go_at_call 22; ((with_reducible refine (sep_y s m _ HS.out).mono ?_); rintro e w' ⟨rfl, rfl⟩)) | (go_at_call 23; ((with_reducible refine (isBad_n _ _ HB.out).mono ?_); rintro e w' ⟨rfl, rfl⟩)))
          go_round
          case rel => exact ⟨m, m, r, by omega, rfl, rfl, rfl, Lib.hid ⟨Ans.step (not_bad H.out.2 HB.out) H.out.1, IsEnd.here HS.out hm2⟩⟩
          case measure => simp [intOf] <;> omega
      · have HS := Lib.hid hsp
        clear hsp
        go_wp2_with (go_at_call 22; ((with_reducible refine (sep_n s m _ HS.out).mono ?_); rintro e w' ⟨rfl, rfl⟩))
        go_round
        case rel => exact ⟨m, e, r, by omega, rfl, rfl, rfl, Lib.hid ⟨Ans.step (not_sep_bad HS.out) H.out.1, H.out.2.back HS.out⟩⟩
        case measure => simp [intOf] <;> omega
def strSz : Value → Nat | .string p => p.size | _ => 0
/-- What is left of the path. -/
def Rest (s p : ByteArray) : Prop :=
  (∃ k, 1 ≤ k ∧ k ≤ s.size ∧ p = s.extract k s.size ∧ Sep s (k - 1) ∧ ∀ j, j < k - 1 → ∀ x, ¬ BadAt s j x) ∨ (p = ByteArray.empty ∧ ∀ j x, ¬ BadAt s j x)
theorem Rest.size {s p : ByteArray} (h : Rest s p) : p.size ≤ s.size := by
  rcases h with ⟨k, _, _, rfl, _⟩ | ⟨rfl, _⟩
  · rw [size_extract_to]; omega
  · exact Nat.zero_le _
theorem not_bad_empty : ¬ Bad ByteArray.empty := by rintro (h | h | h) <;> exact absurd (congrArg ByteArray.size h) (by decide)
theorem extract_nil (s : ByteArray) (k : Nat) (h : s.size ≤ k) : s.extract k s.size = ByteArray.empty := by
  apply Aid.empty_of
  rw [size_extract_to]; omega
theorem Rest.done {s p : ByteArray} (h : Rest s p) (hp : p.size = 0) : Ans s 0 ByteArray.empty := by
  rcases h with ⟨k, h1, h2, rfl, h3, h4⟩ | ⟨_, h4⟩
  · rw [size_extract_to] at hp
    obtain rfl : k = s.size := by omega
    refine .inr ⟨rfl, fun j _ x hx => ?_⟩
    by_cases e : j < s.size - 1
    · exact h4 j e x hx
    · have hj : j < s.size := hx.1
      obtain rfl : j = s.size - 1 := by omega
      have he : IsEnd s (s.size - 1 + 1) s.size := by rw [show s.size - 1 + 1 = s.size by omega]; exact IsEnd.top s
      refine not_bad he ?_ x hx
      rw [show s.size - 1 + 1 = s.size by omega, extract_nil s _ (Nat.le_refl _)]
      exact not_bad_empty
  · exact .inr ⟨rfl, fun j _ x => h4 j x⟩
theorem first_none {s : ByteArray} (h : Idx s (-1)) : Ans s 0 ByteArray.empty := by
  rcases h with ⟨_, h⟩ | ⟨k, hk, _⟩
  · exact .inr ⟨rfl, fun j _ x hx => h j hx.1 hx.2.1⟩
  · omega
theorem first_some {s : ByteArray} {k : Nat} (h : Idx s k) : k < s.size ∧ Rest s (s.extract (k + 1) s.size) := by
  rcases h with ⟨e, _⟩ | ⟨j, hj, h1, h2, h3⟩
  · omega
  · obtain rfl : k = j := by omega
    exact ⟨h1, .inl ⟨k + 1, by omega, by omega, rfl, h2, fun i hi x hx => h3 i (by omega) hx.2.1⟩⟩
theorem sep_ext {s : ByteArray} {k j : Nat} (h : k + j < s.size) : Sep (s.extract k s.size) j ↔ Sep s (k + j) := by
  unfold Sep
  rw [bt_extract s k s.size j (Nat.le_refl _) h]
theorem ext_ext (s : ByteArray) (k m : Nat) : (s.extract k s.size).extract m (s.extract k s.size).size = s.extract (k + m) s.size := by
  apply WideShapes.bytes_inj
  rw [extract_data, extract_data, extract_data, size_extract_to, List.drop_take, List.drop_drop, List.take_take]
  congr 1; omega
theorem ext_pre (s : ByteArray) (k m : Nat) (h : k + m ≤ s.size) : (s.extract k s.size).extract 0 m = s.extract k (k + m) := by
  apply WideShapes.bytes_inj
  rw [extract_data, extract_data, extract_data]
  simp only [List.drop_zero, Nat.sub_zero]
  rw [List.take_take, show k + m - k = m by omega, Nat.min_eq_left (by omega)]
/-- The last segment. -/
theorem last_seg {s p : ByteArray} (h : Rest s p) (h0 : p.size ≠ 0) (hi : Idx p (-1)) : (Bad p → Ans s 0 p) ∧ (¬ Bad p → Rest s ByteArray.empty) := by
  rcases h with ⟨k, h1, h2, rfl, h3, h4⟩ | ⟨rfl, _⟩
  · rcases hi with ⟨_, hn⟩ | ⟨m, hm, _⟩
    · rw [size_extract_to] at hn h0
      have hn' : ∀ j, k ≤ j → j < s.size → ¬ Sep s j := fun j a b => by
        have := hn (j - k) (by omega)
        rw [sep_ext (by omega), show k + (j - k) = j by omega] at this
        exact this
      have he : IsEnd s (k - 1 + 1) s.size := by rw [show k - 1 + 1 = k by omega]; exact ⟨by omega, Nat.le_refl _, hn', .inl rfl⟩
      constructor
      · intro hb
        refine Ans.skip (Nat.zero_le (k - 1)) (fun j _ hj => h4 j hj) (Ans.hit ⟨by omega, h3, s.size, he, ?_, hb⟩)
        rw [show k - 1 + 1 = k by omega]
      · intro hb
        refine .inr ⟨rfl, fun j x hx => ?_⟩
        by_cases e : j < k - 1
        · exact h4 j e x hx
        by_cases e2 : j = k - 1
        · subst e2
          exact not_bad he (by rw [show k - 1 + 1 = k by omega]; exact hb) x hx
        · exact hn' j (by omega) hx.1 hx.2.1
    · omega
  · exact absurd rfl h0
/-- A segment with another behind it. -/
theorem mid_seg {s p : ByteArray} {m : Nat} (h : Rest s p) (h0 : p.size ≠ 0) (hi : Idx p m) : m < p.size ∧ (Bad (p.extract 0 m) → Ans s 0 (p.extract 0 m)) ∧ (¬ Bad (p.extract 0 m) → Rest s (p.extract (m + 1) p.size)) := by
  rcases h with ⟨k, h1, h2, rfl, h3, h4⟩ | ⟨rfl, _⟩
  · rcases hi with ⟨e, _⟩ | ⟨m', hm, q1, q2, q3⟩
    · omega
    · obtain rfl : m = m' := by omega
      have q1' := q1
      rw [size_extract_to] at q1'
      rw [sep_ext (by omega)] at q2
      have hn' : ∀ j, k ≤ j → j < k + m → ¬ Sep s j := fun j a b => by
        have := q3 (j - k) (by omega)
        rw [sep_ext (by omega), show k + (j - k) = j by omega] at this
        exact this
      have he : IsEnd s (k - 1 + 1) (k + m) := by rw [show k - 1 + 1 = k by omega]; exact ⟨by omega, by omega, hn', .inr q2⟩
      rw [ext_pre s k m (by omega), ext_ext]
      refine ⟨q1, fun hb => ?_, fun hb => ?_⟩
      · refine Ans.skip (Nat.zero_le (k - 1)) (fun j _ hj => h4 j hj) (Ans.hit ⟨by omega, h3, k + m, he, ?_, hb⟩)
        rw [show k - 1 + 1 = k by omega]
      · refine .inl ⟨k + (m + 1), by omega, by omega, rfl, by rw [show k + (m + 1) - 1 = k + m by omega]; exact q2, fun j hj x hx => ?_⟩
        by_cases e : j < k - 1
        · exact h4 j e x hx
        by_cases e2 : j = k - 1
        · subst e2
          exact not_bad he (by rw [show k - 1 + 1 = k by omega]; exact hb) x hx
        · exact hn' j (by omega) (by omega) hx.2.1
  · exact absurd rfl h0
theorem bads (t : ByteArray) (h : ¬ Bad t) : (t.toList == [46]) = false ∧ (t.toList == [46, 46]) = false ∧ (t.toList == [110, 111, 100, 101, 95, 109, 111, 100, 117, 108, 101, 115]) = false := by
  rw [bad_iff] at h
  refine ⟨?_, ?_, ?_⟩
  · show b1 t = false
    cases e : b1 t <;> simp_all
  · show b2 t = false
    cases e : b2 t <;> simp_all
  · show b3 t = false
    cases e : b3 t <;> simp_all
theorem bady (t : ByteArray) (h : Bad t) : ((t.toList == [46]) = false ∧ (t.toList == [46, 46]) = false ∧ (t.toList == [110, 111, 100, 101, 95, 109, 111, 100, 117, 108, 101, 115]) = true) ∨ ((t.toList == [46]) = false ∧ (t.toList == [46, 46]) = true) ∨ (t.toList == [46]) = true := by
  rw [bad_iff] at h
  unfold b1 b2 b3 at h
  cases h1 : t.toList == [46] <;> cases h2 : t.toList == [46, 46] <;> simp_all
set_option maxHeartbeats 2000000 in
theorem find (s : ByteArray) (w : World) (hs : s.size ≤ 1048576) : Calls Try.prog 21 #[.string s] w (Rs s w) := by
  go_enter Try.func21, Try.ntmps21
  go_wp2_with fail
  refine (ia s _ hs).mono ?_
  rintro e w1 ⟨n, rfl, hi, hb⟩
  have HB := Lib.hid hb
  clear hb
  have hcase : n = -1 ∨ ∃ k : Nat, n = k := by
    rcases hi with ⟨e, _⟩ | ⟨k, e, _⟩
    · exact .inl e
    · exact .inr ⟨k, e⟩
  rcases hcase with rfl | ⟨k, rfl⟩
  · have HI := Lib.hid hi
    clear hi
    go_wp2_with fail
    go_ret
    exact ⟨_, rfl, first_none HI.out, HB.out⟩
  · obtain ⟨hk, hr⟩ := first_some hi
    have HR := Lib.hid hr
    clear hr hi
    have e1 : ((k : Int) == -1) = false := by simp
    have hk2 : (k : Int) + 1 ≤ (s.size : Int) := by omega
    have hk3 : k + 1 ≤ s.size := by omega
    go_wp2_with fail
    generalize s.extract (k + 1) s.size = p0 at HR ⊢
    have hz := HR.out.size
    clear e1 hk2 hk3 hk
    go_loopw [0, 4, 5] (fun v _ _ wr => ∃ p, v = .string p ∧ Hid (Rest s p) ∧ Hid (Below w.heap.size w wr)) (fun v _ _ _ => strSz v)
    case atStart => exact ⟨p0, rfl, HR, HB⟩
    case round =>
      obtain ⟨p, rfl, HP, HW⟩ := hrel
      have hps := HP.out.size
      by_cases h0 : p.size = 0
      · obtain rfl := Aid.empty_of p h0
        have HA := Lib.hid (HP.out.done h0)
        clear h0
        go_wp2_with fail
        go_ret
        exact ⟨_, rfl, HA.out, HW.out⟩
      · have hne := Aid.nonempty_of p h0
        have hne2 := Aid.toList_ne p h0
        have hne3 : (!p.toList.isEmpty) = true := by rw [hne]; rfl
        have H0 := Lib.hid h0
        clear h0
        go_wp2_with fail
        refine (ia p _ (by omega)).mono ?_
        rintro e w2 ⟨n, rfl, hi, hb⟩
        have HB2 := Lib.hid (HW.out.trans (hb.mono HW.out.size))
        clear hb
        have hcase : n = -1 ∨ ∃ k : Nat, n = k := by
          rcases hi with ⟨e, _⟩ | ⟨k, e, _⟩
          · exact .inl e
          · exact .inr ⟨k, e⟩
        rcases hcase with rfl | ⟨m, rfl⟩
        · obtain ⟨q1, q2⟩ := last_seg HP.out H0.out hi
          have Q1 := Lib.hid q1
          have Q2 := Lib.hid q2
          clear q1 q2 hi
          by_cases hbad : Bad p
          · have HA := Lib.hid (Q1.out hbad)
            obtain ⟨h1, h2, h3⟩ | ⟨h1, h2⟩ | h1 := bady p hbad
            all_goals
              clear hbad
              go_wp2_with fail
              go_ret
              exact ⟨_, rfl, HA.out, HB2.out⟩
          · have HA := Lib.hid (Q2.out hbad)
            obtain ⟨f1, f2, f3⟩ := bads p hbad
            clear hbad
            go_wp2_with fail
            go_roundw
            case rel => exact ⟨_, rfl, HA, HB2⟩
            case measure =>
              have := H0.out
              show 0 < p.size
              omega
        · obtain ⟨q0, q1, q2⟩ := mid_seg HP.out H0.out hi
          have Q1 := Lib.hid q1
          have Q2 := Lib.hid q2
          clear q1 q2 hi
          have e1 : ((m : Int) != -1) = true := by simp
          have hm1 : (m : Int) ≤ (p.size : Int) := by omega
          have hm2 : (m : Int) + 1 ≤ (p.size : Int) := by omega
          have hm3 : m ≤ p.size := by omega
          have hm4 : m + 1 ≤ p.size := by omega
          by_cases hbad : Bad (p.extract 0 m)
          · have HA := Lib.hid (Q1.out hbad)
            obtain ⟨h1, h2, h3⟩ | ⟨h1, h2⟩ | h1 := bady _ hbad
            all_goals
              clear hbad
              go_wp2_with fail
              go_ret
              exact ⟨_, rfl, HA.out, HB2.out⟩
          · have HA := Lib.hid (Q2.out hbad)
            obtain ⟨f1, f2, f3⟩ := bads _ hbad
            clear hbad
            go_wp2_with fail
            go_roundw
            case rel => exact ⟨_, rfl, HA, HB2⟩
            case measure =>
              show (p.extract (m + 1) p.size).size < p.size
              rw [size_extract_to]
              omega
def Bl (w : World) (e : Ending) (w' : World) : Prop := w' = w ∧ ∃ v, e = .returned (.bool v)
theorem zb (s : ByteArray) (w : World) : Calls Try.prog 13 #[.string s] w (Bl w) := by
  by_cases h0 : (1048576 : Int) < (s.size : Int)
  · go_enter Try.func13, Try.ntmps13
    go_wp2_with fail
    go_ret
    exact ⟨rfl, _, rfl⟩
  · go_enter Try.func13, Try.ntmps13
    go_wp2_with fail
    go_ret
    exact ⟨rfl, _, rfl⟩
theorem find14 (s : ByteArray) (w : World) (hs : s.size ≤ 1048576) : Calls Try.prog 14 #[.string s] w (Rs s w) := by
  go_enter Try.func14, Try.ntmps14
  go_wp2_with fail
  refine (find s _ hs).mono ?_
  rintro e w1 ⟨r, rfl, ha, hb⟩
  have HA := Lib.hid ha
  have HB := Lib.hid hb
  clear ha hb
  go_wp2_with fail
  go_ret
  exact ⟨_, rfl, HA.out, HB.out⟩
theorem main (s : ByteArray) (w : World) (hs : s.size ≤ maxLen) : Calls Try.prog 4 #[.string s] w fun e w' => e = .returned (.bool true) ∧ Below w.heap.size w w' := by
  unfold maxLen at hs
  go_enter Try.func4, Try.ntmps4
  go_wp2_with fail
  refine (zb s _).mono ?_
  rintro e w1 ⟨rfl, v, rfl⟩
  cases v
  · go_wp2_with fail
    go_ret
    exact ⟨rfl, Below.refl _ _⟩
  by_cases h0 : (1048576 : Int) < (s.size : Int)
  · go_wp2_with fail
    go_ret
    exact ⟨rfl, Below.refl _ _⟩
  have h1 : s.size ≤ 1048576 := by omega
  go_wp2_with fail
  refine (find14 s _ h1).mono ?_
  rintro e w2 ⟨r, rfl, ha, hb⟩
  have HA := Lib.hid ha
  have HB := Lib.hid hb
  clear ha hb
  go_wp2_with fail
  refine (back s _ h1).mono ?_
  rintro e w3 ⟨r2, rfl, ha2, hb2⟩
  obtain rfl := HA.out.uniq ha2
  have HB2 := Lib.hid (HB.out.trans (hb2.mono HB.out.size))
  clear ha2 hb2
  go_wp2_with fail
  go_ret
  exact ⟨by simp, HB2.out⟩

set_option maxHeartbeats 2000000 in
theorem walk (a0 : ByteArray) (w : World) (w0 : a0.size ≤ maxLen) :
    Calls Try.prog 4 #[.string a0] w fun e w' => e = .returned (.bool true) ∧ Below w.heap.size w w' := by
  exact main a0 w w0

set_option maxRecDepth 100000 in
theorem lifted (os : Os) (started : os.Started) (H : Type) (enc : TypeId × Value → H) :
    ReturnsInHanded {} Try.checked os 4 .any (Rows.fnFindInvalidSegmentMatchesBackwardScanSpec.pre6 enc Try.prog Try.f4 Rows.fnFindInvalidSegmentMatchesBackwardScanRow.domain false) (Rows.fnFindInvalidSegmentMatchesBackwardScanSpec.post enc Try.prog Try.f4 false true false false) := by
  refine returnsInHanded_of_change (C := Try.checked) own started (by kernel_rfl) Try.func4
    (ChangeSpec.witness6 (enc := enc) (C := Try.checked) false ⟨#[], #[.string ByteArray.empty], []⟩ 8 (by kernel_rfl) (by kernel_rfl) (by kernel_rfl) (by kernel_rfl)) ?_
  intro W base args ds gs before hval0 hW hcnd _
  have hval : ∀ (j : Nat) t v, Try.f4.params[j]? = some t → args[j]? = some v → Value.okWide Try.prog W .any base t v := hval0
  have hW' := hW
  obtain ⟨p, q, hA0, hV, rfl, hfz, hnd⟩ := hW
  have hA : DataW.TrodAll enc Try.prog W 0 (fun _ => true) true Try.f4.params.toList args.toList ds p := hA0
  rw [Try.params4] at hA hval
  obtain ⟨v0, vs0, d0, ds0, p0, q0, hargs, rfl, rfl, h0, r0⟩ := trodAll_cons hA
  obtain ⟨rfl, rfl, rfl⟩ := trodAll_nil r0
  obtain rfl : args = #[v0] := by cases args; simp_all
  obtain ⟨rfl, rfl⟩ := trodVars_none hV
  obtain ⟨a0, rfl, rfl, rfl, w0⟩ := open_string Try.underlying9 (hval 0 9 v0 rfl rfl) h0
  clear hA0 hval0
  refine (walk a0 W w0).mono fun e W' ⟨he, bel⟩ => ?_
  subst he
  exact ⟨_, rfl, _, _, _, [], _, [], hW', trodAll_mk1 (shut_bool Try.underlying4 _), (trodAll_cons_mk (shut_string Try.underlying9 w0) trodAll_mk0), rfl, bel.frame _, fun h => by cases h⟩

theorem joined : joinedFacts Try.prog 4 Try.f4 Rows.fnFindInvalidSegmentMatchesBackwardScanSpec Rows.fnFindInvalidSegmentMatchesBackwardScanRow = true := by
  unfold joinedFacts
  rw [Facts.enter, Facts.lifts, Facts.make]
  kernel_rfl

theorem over : Rows.fnFindInvalidSegmentMatchesBackwardScanRow.holds Try.pinned (OpenSpec.ofChange Rows.fnFindInvalidSegmentMatchesBackwardScanSpec) :=
  OpenClaim.holds_of_wide 4 Try.f4 rfl rfl rfl rfl rfl rfl rfl ⟨rfl, rfl, rfl, rfl, rfl⟩ rfl rfl rfl rfl rfl (by kernel_rfl) Try.func4 joined
    (of_decide_eq_true (by kernel_rfl)) (by unfold Func.isWrapper; first | (rw [if_pos (by decide +kernel)]; kernel_rfl) | (rw [if_neg (by decide +kernel)]; exact ⟨rfl, rfl⟩))
    (fun os started H enc _ => lifted os started H enc)

theorem proved : Rows.FnFindInvalidSegmentMatchesBackwardScanSaid :=
  over
#print axioms proved
end Go.Proofs.Ytkkhfhbmcdpboaa.fnFindInvalidSegmentMatchesBackwardScan
