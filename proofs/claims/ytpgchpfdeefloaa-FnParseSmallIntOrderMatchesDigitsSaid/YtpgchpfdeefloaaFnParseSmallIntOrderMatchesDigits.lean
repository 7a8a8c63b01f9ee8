/- For two nonempty all-digit texts of equal length, each with at most nine significant digits, parseSmallInt's values compare exactly as the texts compare byte by byte. No condition. -/
import Derived.Test.YtpgchpfdeefloaaRows
import Derived.WalkKit
import Derived.ProofKit
import Derived.OpenShut
import Derived.ShutString
import Derived.Test.YtpgchpfdeefloaaFacts
import Derived.Test.YtpgchpfdeefloaaAid
import Derived.Test.YtpgchpfdeefloaaSl
import Derived.LoopTactic
import Derived.Deep.QuietTactic
import Derived.BigQuiet
namespace Go.Proofs.Ytpgchpfdeefloaa.fnParseSmallIntOrderMatchesDigits
open Go.ChangeShapes Go.WideShapes Go.ChangeAt Go.RowKit
open Go.ChangeMaps (open_string shut_string)
set_option linter.unusedVariables false

theorem own : ownKnob Try.prog.godebug = none := by kernel_rfl
theorem laidOut : laidOutB Try.prog = true := by kernel_rfl

open Sl
theorem copyB_info : (Try.prog.info? 5).map (fun i => (i.zero, i.size, i.bytes)) = some (some (.int .u8 0), 1, 1) := by kernel_rfl
theorem copyB (a : Option Addr) (len cap : Nat) (zs : List Int) (w : World) (h : Sl .u8 w a len zs) (hlen : len ≤ 17592186044416) :
    Calls Try.prog 31 #[.slice a len cap] w (Copied .u8 w a len zs) := by
  have hnil : ∀ w : World, (binOp .eql 22 (.slice a len cap) (.slice none 0 0)).run Try.prog w = .ok (.bool a.isNone) w := fun w => Lib.run_eql_slice_nil w 22 5 _ _ _ _ _ Try.underlying22
  have hmk := run_make_ints (P := Try.prog) Try.underlying22 copyB_info (by omega) len hlen
  cases a with
  | none =>
    have H := Lib.hid (Copied.nil h)
    go_enter Try.func31, Try.ntmps31
    go_wp2
    go_ret
    exact H.out
  | some x =>
    have HL := Lib.hid h.len
    go_enter Try.func31, Try.ntmps31
    go_wp2
    go_loopw [4] (fun i wr => ∃ k : Nat, k ≤ len ∧ i = .int .i64 k ∧ Blk .u8 wr w.heap.size 5 (partOf zs k) ∧ Below w.heap.size w wr) (fun i _ => len - (intOf i).toNat)
    case atStart => exact ⟨0, by omega, rfl, by rw [partOf_zero, HL.out]; exact Blk.made _ _ _ _, (Below.refl _ _).alloc (Nat.le_refl _) _⟩
    case round =>
      obtain ⟨k, hk, rfl, hb, hl⟩ := hrel
      by_cases hlt : k < len
      · obtain ⟨b, off, e, hlb, hc⟩ := h.at k hlt
        injection e with e
        subst e
        have hc' : wr.cell? ⟨b, off + k, none⟩ = some (.int .u8 (nth zs k)) := by rw [hl.cell (p := ⟨b, off + k, none⟩) hlb]; exact hc
        have hd := hb.cell k (by rw [partOf_len _ _ (by rw [HL.out]; omega), HL.out]; exact hlt)
        have hz := hb.frozen k
        have hk2 : (k : Int) < (len : Int) := by omega
        clear hc
        go_wp2
        go_roundw
        case rel => exact ⟨k + 1, by omega, by go_num, by rw [← partOf_set zs k (by rw [HL.out]; exact hlt)]; exact hb.set k _, hl.setCell (Nat.le_refl _) _⟩
        case measure => simp [intOf]; omega
      · obtain rfl : k = len := by omega
        rw [show partOf zs k = zs by rw [← HL.out]; exact partOf_all zs] at hb
        go_wp2
        go_ret
        exact Copied.mk HL.out (by unfold maxLen; omega) hb hl (Nat.le_refl _)

def Dig (zs : List Int) : Prop := ∀ i, i < zs.length → 48 ≤ nth zs i ∧ nth zs i ≤ 57
instance (zs : List Int) : Decidable (Dig zs) := inferInstanceAs (Decidable (∀ i, i < zs.length → _))
def allD (zs : List Int) : Bool := decide (Dig zs)
def val (zs : List Int) : Nat → Int
  | 0 => 0
  | k + 1 => val zs k * 10 + (nth zs k - 48)
theorem val_zero (zs : List Int) (L : Nat) (h : ∀ i, i < L → nth zs i = 48) : ∀ k, k ≤ L → val zs k = 0
  | 0, _ => rfl
  | k + 1, hk => by
    unfold val
    rw [val_zero zs L h k (by omega), h k (by omega)]; rfl
theorem val_nonneg (zs : List Int) (hd : Dig zs) : ∀ k, k ≤ zs.length → 0 ≤ val zs k
  | 0, _ => Int.le_refl _
  | k + 1, hk => by
    have := val_nonneg zs hd k (by omega)
    have := hd k (by omega)
    unfold val; omega
theorem val_lt (zs : List Int) (L : Nat) (hd : Dig zs) (h : ∀ i, i < L → nth zs i = 48) (hL : L ≤ zs.length) : ∀ j, L + j ≤ zs.length → val zs (L + j) < 10 ^ j
  | 0, _ => by rw [Nat.add_zero, val_zero zs L h L (Nat.le_refl _)]; decide
  | j + 1, hj => by
    have ih := val_lt zs L hd h hL j (by omega)
    have := hd (L + j) (by omega)
    show val zs (L + j) * 10 + (nth zs (L + j) - 48) < _
    rw [Int.pow_succ]
    omega
theorem val_bound (zs : List Int) (L : Nat) (hd : Dig zs) (h : ∀ i, i < L → nth zs i = 48) (hL : L ≤ zs.length) (h9 : zs.length - L ≤ 9) (k : Nat) (hk : k ≤ zs.length) : val zs k ≤ 1000000000 := by
  by_cases hk2 : k ≤ L
  · rw [val_zero zs L h k hk2]; decide
  · obtain ⟨j, rfl⟩ : ∃ j, k = L + j := ⟨k - L, by omega⟩
    have h1 := val_lt zs L hd h hL j hk
    have hj : j ≤ 9 := by omega
    have h2 : (10 : Int) ^ j ≤ 10 ^ 9 := by
      have : j = 0 ∨ j = 1 ∨ j = 2 ∨ j = 3 ∨ j = 4 ∨ j = 5 ∨ j = 6 ∨ j = 7 ∨ j = 8 ∨ j = 9 := by omega
      rcases this with rfl | rfl | rfl | rfl | rfl | rfl | rfl | rfl | rfl | rfl <;> decide
    have h3 : (10 : Int) ^ 9 = 1000000000 := by decide
    omega
def First (xs ys : List Int) (i : Nat) : Prop := ∀ j, j < i → nth xs j = nth ys j
theorem val_eq (xs ys : List Int) : ∀ k, First xs ys k → val xs k = val ys k
  | 0, _ => rfl
  | k + 1, h => by
    unfold val
    rw [val_eq xs ys k (fun j hj => h j (by omega)), h k (by omega)]
theorem val_less (xs ys : List Int) (hx : Dig xs) (hy : Dig ys) (i : Nat) (hl : xs.length = ys.length) (hi : i < xs.length) (h : First xs ys i) (hlt : nth xs i < nth ys i) : ∀ j, i + 1 + j ≤ xs.length → val xs (i + 1 + j) < val ys (i + 1 + j)
  | 0, _ => by
    show val xs i * 10 + (nth xs i - 48) < val ys i * 10 + (nth ys i - 48)
    rw [val_eq xs ys i h]; omega
  | j + 1, hj => by
    have ih := val_less xs ys hx hy i hl hi h hlt j (by omega)
    have h1 := hx (i + 1 + j) (by omega)
    have h2 := hy (i + 1 + j) (by omega)
    show val xs (i + 1 + j) * 10 + (nth xs (i + 1 + j) - 48) < val ys (i + 1 + j) * 10 + (nth ys (i + 1 + j) - 48)
    omega
theorem val_less_all (xs ys : List Int) (hx : Dig xs) (hy : Dig ys) (i : Nat) (hl : xs.length = ys.length) (hi : i < xs.length) (h : First xs ys i) (hlt : nth xs i < nth ys i) : val xs xs.length < val ys ys.length := by
  have := val_less xs ys hx hy i hl hi h hlt (xs.length - (i + 1)) (by omega)
  rw [show i + 1 + (xs.length - (i + 1)) = xs.length by omega] at this
  rw [← hl]; exact this

def fitsB (n : Nat) : Bool := decide (n ≤ 1048576)
theorem zz (a b : Option Addr) (la ca lb cb : Nat) (w : World) (h1 : la ≤ maxLen) (h2 : lb ≤ maxLen) :
    Calls Try.prog 28 #[.slice a la ca, .slice b lb cb] w fun e w' => e = .returned (.bool (fitsB (la + lb))) ∧ w = w' := by
  unfold maxLen at h1 h2
  by_cases h : la + lb ≤ 1048576
  · have H := Lib.hid (show fitsB (la + lb) = true by unfold fitsB; simpa using h)
    go_enter Try.func28, Try.ntmps28
    go_wp2
    go_ret
    exact ⟨by rw [H.out]; rfl, rfl⟩
  · have H := Lib.hid (show fitsB (la + lb) = false by unfold fitsB; simpa using h)
    go_enter Try.func28, Try.ntmps28
    go_wp2
    all_goals
      go_ret
      exact ⟨by rw [H.out]; rfl, rfl⟩

theorem alld (a : Option Addr) (len cap : Nat) (zs : List Int) (w : World) (h : Sl .u8 w a len zs) (hlen : len ≤ 4096) :
    Calls Try.prog 29 #[.slice a len cap] w fun e w' => e = .returned (.bool (allD zs)) ∧ w = w' := by
  have HL := Lib.hid h.len
  go_enter Try.func29, Try.ntmps29
  go_wp2
  go_loop [3] (fun i => ∃ k : Nat, k ≤ len ∧ i = .int .i64 k ∧ ∀ j, j < k → 48 ≤ nth zs j ∧ nth zs j ≤ 57) (fun i => len - (intOf i).toNat)
  case atStart => exact ⟨0, by omega, rfl, fun j hj => by omega⟩
  case round =>
    obtain ⟨k, hk, rfl, hn⟩ := hrel
    have HN := Lib.hid hn
    clear hn
    by_cases hlt : k < len
    · obtain ⟨b, off, rfl, _, hc⟩ := h.at k hlt
      have hk2 : (k : Int) < (len : Int) := by omega
      by_cases d1 : nth zs k < 48
      · have H := Lib.hid (show allD zs = false from decide_eq_false fun hd => by have := hd k (by rw [HL.out]; exact hlt); omega)
        go_wp2
        go_ret
        exact ⟨by rw [H.out]; rfl, rfl⟩
      · by_cases d2 : 57 < nth zs k
        · have H := Lib.hid (show allD zs = false from decide_eq_false fun hd => by have := hd k (by rw [HL.out]; exact hlt); omega)
          go_wp2
          go_ret
          exact ⟨by rw [H.out]; rfl, rfl⟩
        · go_wp2
          go_round
          case rel => exact ⟨k + 1, by omega, by go_num, fun j hj => by
            by_cases q : j = k
            · subst q; omega
            · exact HN.out j (by omega)⟩
          case measure => simp [intOf]; omega
    · have H := Lib.hid (show allD zs = true from decide_eq_true fun j hj => HN.out j (by rw [HL.out] at hj; omega))
      go_wp2
      go_ret
      exact ⟨by rw [H.out]; rfl, rfl⟩

def SigPost (zs : List Int) (len : Nat) (w : World) (e : Ending) (w' : World) : Prop := ∃ L : Nat, L ≤ len ∧ (∀ i, i < L → nth zs i = 48) ∧ e = .returned (.int .i64 ((len : Int) - (L : Int))) ∧ w = w'
theorem sig (a : Option Addr) (len cap : Nat) (zs : List Int) (w : World) (h : Sl .u8 w a len zs) (hlen : len ≤ 4096) :
    Calls Try.prog 30 #[.slice a len cap] w (SigPost zs len w) := by
  go_enter Try.func30, Try.ntmps30
  go_wp2
  go_loop [3] (fun i => ∃ k : Nat, k ≤ len ∧ i = .int .i64 k ∧ ∀ j, j < k → nth zs j = 48) (fun i => len - (intOf i).toNat)
  case atStart => exact ⟨0, by omega, rfl, fun j hj => by omega⟩
  case round =>
    obtain ⟨k, hk, rfl, hn⟩ := hrel
    have HN := Lib.hid hn
    clear hn
    by_cases hlt : k < len
    · obtain ⟨b, off, rfl, _, hc⟩ := h.at k hlt
      have hk2 : (k : Int) < (len : Int) := by omega
      by_cases d1 : nth zs k = 48
      · have d2 : (nth zs k == 48) = true := by simpa using d1
        have D1 := Lib.hid d1
        clear d1
        go_wp2
        go_round
        case rel => exact ⟨k + 1, by omega, by go_num, fun j hj => by
            by_cases q : j = k
            · subst q; exact D1.out
            · exact HN.out j (by omega)⟩
        case measure => simp [intOf]; omega
      · have d2 : (nth zs k == 48) = false := by simpa using d1
        go_wp2
        go_ret
        exact ⟨k, hk, HN.out, rfl, rfl⟩
    · have d3 : decide ((k : Int) < (len : Int)) = false := by simp; omega
      go_wp2
      go_ret
      exact ⟨k, hk, HN.out, rfl, rfl⟩

theorem psi (a : Option Addr) (len cap : Nat) (zs : List Int) (w : World) (h : Sl .u8 w a len zs) (hlen : len ≤ 4096) (hpos : 0 < len) (hd : Dig zs) (hb : ∀ k, k ≤ zs.length → val zs k ≤ 1000000000) :
    Calls Try.prog 41 #[.slice a len cap] w fun e w' => e = .returned (.int .i64 (val zs len)) ∧ w = w' := by
  have HL := Lib.hid h.len
  have HD := Lib.hid hd
  have HB := Lib.hid hb
  clear hd hb
  obtain ⟨b, off, rfl, _, hc⟩ := h.at 0 hpos
  have h0 := HD.out 0 (by rw [HL.out]; exact hpos)
  have hz : (nth zs 0 == 45) = false := by simp; omega
  have hk2 : (0 : Int) < (len : Int) := by omega
  have hc0 : w.cell? ⟨b, off, none⟩ = some (.int .u8 (nth zs 0)) := by simpa using hc
  clear hc
  go_enter Try.func41, Try.ntmps41
  go_wp2
  clear hc0 h0 hz
  go_loop [4, 16] (fun n i => ∃ k : Nat, k ≤ len ∧ i = .int .i64 k ∧ n = .int .i64 (val zs k)) (fun _ i => len - (intOf i).toNat)
  case atStart => exact ⟨0, by omega, rfl, rfl⟩
  case round =>
    obtain ⟨k, hk, rfl, rfl⟩ := hrel
    have v0 := val_nonneg zs HD.out k (by rw [HL.out]; exact hk)
    have v1 := HB.out k (by rw [HL.out]; exact hk)
    by_cases hlt : k < len
    · have hc := h.cell k hlt
      have hk3 : (k : Int) < (len : Int) := by omega
      have hdk := HD.out k (by rw [HL.out]; exact hlt)
      have HS := Lib.hid (show val zs (k + 1) = val zs k * 10 + (nth zs k - 48) by rfl)
      go_wp2
      go_round
      case rel => exact ⟨k + 1, by omega, by go_num, by rw [HS.out]⟩
      case measure => simp [intOf]; omega
    · obtain rfl : k = len := by omega
      go_wp2
      go_ret
      exact ⟨rfl, rfl⟩
theorem psi32 (a : Option Addr) (len cap : Nat) (zs : List Int) (w : World) (h : Sl .u8 w a len zs) (hlen : len ≤ 4096) (hpos : 0 < len) (hd : Dig zs) (hb : ∀ k, k ≤ zs.length → val zs k ≤ 1000000000) :
    Calls Try.prog 32 #[.slice a len cap] w fun e w' => e = .returned (.int .i64 (val zs len)) ∧ w = w' := by
  have H := Lib.hid (psi a len cap zs w h hlen hpos hd hb)
  clear hd hb
  go_enter Try.func32, Try.ntmps32
  go_wp2_with (go_at_call 41; ((with_reducible refine H.out.mono ?_); rintro e w' ⟨rfl, rfl⟩))
  go_ret
  exact ⟨rfl, rfl⟩

def CmpPost (xs ys : List Int) (w : World) (e : Ending) (w' : World) : Prop :=
  (∃ n, w' = w.drewN n) ∧ ((e = .returned (.int .i64 (-1)) ∧ ∃ i, i < xs.length ∧ First xs ys i ∧ nth xs i < nth ys i) ∨
  (e = .returned (.int .i64 1) ∧ ∃ i, i < xs.length ∧ First xs ys i ∧ nth ys i < nth xs i) ∨ (e = .returned (.int .i64 0) ∧ First xs ys xs.length))
theorem lexc (a b : Option Addr) (len ca cb : Nat) (xs ys : List Int) (w : World) (ha : Sl .u8 w a len xs) (hb : Sl .u8 w b len ys) (hlen : len ≤ 4096) :
    Calls Try.prog 33 #[.slice a len ca, .slice b len cb] w (CmpPost xs ys w) := by
  have HL := Lib.hid ha.len
  go_enter Try.func33, Try.ntmps33
  go_wp2
  go_loopw [6] (fun i wr => ∃ k : Nat, k ≤ len ∧ i = .int .i64 k ∧ First xs ys k ∧ ∃ n, wr = w.drewN n) (fun i _ => len - (intOf i).toNat)
  case atStart => exact ⟨0, by omega, rfl, fun j hj => by omega, 0, rfl⟩
  case round =>
    obtain ⟨k, hk, rfl, hF, n, rfl⟩ := hrel
    by_cases hlt : k < len
    · obtain ⟨bA, offA, rfl, _, hcA⟩ := ha.at k hlt
      obtain ⟨bB, offB, rfl, _, hcB⟩ := hb.at k hlt
      have hk2 : (k : Int) < (len : Int) := by omega
      by_cases d1 : nth xs k < nth ys k
      · go_wp2_with fail
        go_quiet (fail)
        go_wp2_with fail
        go_ret
        exact ⟨⟨_, by rw [World.drewN_drewN]⟩, .inl ⟨rfl, k, by rw [HL.out]; exact hlt, hF, d1⟩⟩
      · by_cases d2 : nth ys k < nth xs k
        · go_wp2_with fail
          go_quiet (fail)
          go_wp2_with fail
          go_quiet (fail)
          go_wp2_with fail
          go_ret
          exact ⟨⟨_, by simp only [World.drewN_drewN]; rfl⟩, .inr (.inl ⟨rfl, k, by rw [HL.out]; exact hlt, hF, d2⟩)⟩
        · go_wp2_with fail
          go_quiet (fail)
          go_wp2_with fail
          go_quiet (fail)
          go_wp2_with fail
          go_roundw
          case rel => exact ⟨k + 1, by omega, by go_num, fun j hj => by
            by_cases q : j = k
            · subst q; omega
            · exact hF j (by omega), _, rfl⟩
          case measure => simp [intOf]; omega
    · obtain rfl : k = len := by omega
      go_wp2_with fail
      go_ret
      exact ⟨⟨_, rfl⟩, .inr (.inr ⟨rfl, by rw [HL.out]; exact hF⟩)⟩

set_option maxHeartbeats 2000000 in
theorem walk (a0 : Option Addr) (len0 cap0 : Nat) (z0 : List Int) (a1 : Option Addr) (len1 cap1 : Nat) (z1 : List Int) (w : World) (w0 : Aid.IsRow .u8 w a0 len0 cap0 z0) (w1 : Aid.IsRow .u8 w a1 len1 cap1 z1) :
    Calls Try.prog 6 #[.slice a0 len0 cap0, .slice a1 len1 cap1] w fun e w' => e = .returned (.bool true) ∧ Below w.heap.size w w' := by
  obtain ⟨s0, f0, c0, m0, _⟩ := Sl.of_row w0
  obtain ⟨s1, f1, c1, m1, _⟩ := Sl.of_row w1
  obtain ⟨xs, hxs⟩ : ∃ xs, xs = z0.take len0 := ⟨_, rfl⟩
  obtain ⟨ys, hys⟩ : ∃ ys, ys = z1.take len1 := ⟨_, rfl⟩
  rw [← hxs] at s0
  rw [← hys] at s1
  clear hxs hys w0 w1 f0 f1
  have m0' : len0 ≤ maxLen := by omega
  have m1' : len1 ≤ maxLen := by omega
  clear c0 m0 c1 m1
  by_cases hf : fitsB (len0 + len1) = false
  · go_enter Try.func6, Try.ntmps6
    go_wp2_with (go_at_call 28; ((with_reducible refine (zz _ _ _ _ _ _ _ m0' m1').mono ?_); rintro e w' ⟨rfl, rfl⟩))
    go_ret
    exact ⟨rfl, Below.refl _ _⟩
  rw [Bool.not_eq_false] at hf
  by_cases h1 : 4096 < len0
  · go_enter Try.func6, Try.ntmps6
    go_wp2_with (go_at_call 28; ((with_reducible refine (zz _ _ _ _ _ _ _ m0' m1').mono ?_); rintro e w' ⟨rfl, rfl⟩))
    go_ret
    exact ⟨rfl, Below.refl _ _⟩
  by_cases h2 : 4096 < len1
  · go_enter Try.func6, Try.ntmps6
    go_wp2_with (go_at_call 28; ((with_reducible refine (zz _ _ _ _ _ _ _ m0' m1').mono ?_); rintro e w' ⟨rfl, rfl⟩))
    go_ret
    exact ⟨rfl, Below.refl _ _⟩
  have b0 : len0 ≤ 4096 := by omega
  have b1 : len1 ≤ 4096 := by omega
  clear h1 h2
  by_cases h3 : len0 = 0
  · have e3 : ((len0 : Int) == 0) = true := by simp; omega
    clear h3
    go_enter Try.func6, Try.ntmps6
    go_wp2_with (go_at_call 28; ((with_reducible refine (zz _ _ _ _ _ _ _ m0' m1').mono ?_); rintro e w' ⟨rfl, rfl⟩))
    go_ret
    exact ⟨rfl, Below.refl _ _⟩
  have e3 : ((len0 : Int) == 0) = false := by simp; omega
  by_cases h4 : len0 = len1
  case neg =>
    have e4 : ((len0 : Int) != (len1 : Int)) = true := by simp; omega
    go_enter Try.func6, Try.ntmps6
    go_wp2_with (go_at_call 28; ((with_reducible refine (zz _ _ _ _ _ _ _ m0' m1').mono ?_); rintro e w' ⟨rfl, rfl⟩))
    go_ret
    exact ⟨rfl, Below.refl _ _⟩
  subst h4
  by_cases dx : allD xs = false
  · go_enter Try.func6, Try.ntmps6
    go_wp2_with (first | (go_at_call 28; ((with_reducible refine (zz _ _ _ _ _ _ _ m0' m1').mono ?_); rintro e w' ⟨rfl, rfl⟩)) | (go_at_call 29; ((with_reducible refine (alld _ _ _ _ _ s0 b0).mono ?_); rintro e w' ⟨rfl, rfl⟩)))
    go_ret
    exact ⟨rfl, Below.refl _ _⟩
  rw [Bool.not_eq_false] at dx
  by_cases dy : allD ys = false
  · go_enter Try.func6, Try.ntmps6
    go_wp2_with (first | (go_at_call 28; ((with_reducible refine (zz _ _ _ _ _ _ _ m0' m1').mono ?_); rintro e w' ⟨rfl, rfl⟩)) | (go_at_call 29; ((with_reducible refine (alld _ _ _ _ _ s0 b0).mono ?_); rintro e w' ⟨rfl, rfl⟩)) | (go_at_call 29; ((with_reducible refine (alld _ _ _ _ _ s1 b0).mono ?_); rintro e w' ⟨rfl, rfl⟩)))
    go_ret
    exact ⟨rfl, Below.refl _ _⟩
  rw [Bool.not_eq_false] at dy
  have Dx : Hid (Dig xs) := (of_decide_eq_true dx : Dig xs)
  have Dy : Hid (Dig ys) := (of_decide_eq_true dy : Dig ys)
  have HX := Lib.hid s0.len
  have HY := Lib.hid s1.len
  go_enter Try.func6, Try.ntmps6
  go_wp2_with (first
    | (go_at_call 28; ((with_reducible refine (zz _ _ _ _ _ _ _ m0' m1').mono ?_); rintro e w' ⟨rfl, rfl⟩))
    | (go_at_call 29; ((with_reducible refine (alld _ _ _ _ _ s0 b0).mono ?_); rintro e w' ⟨rfl, rfl⟩))
    | (go_at_call 29; ((with_reducible refine (alld _ _ _ _ _ s1 b0).mono ?_); rintro e w' ⟨rfl, rfl⟩))
    | (go_at_call 30; ((with_reducible refine (sig _ _ _ _ _ s0 b0).mono ?_); rintro e w' ⟨Lx, hLx, hzx, rfl, rfl⟩; have HZx := Lib.hid hzx; clear hzx))
    | (go_at_call 30; ((with_reducible refine (sig _ _ _ _ _ s1 b0).mono ?_); rintro e w' ⟨Ly, hLy, hzy, rfl, rfl⟩; have HZy := Lib.hid hzy; clear hzy)))
  · go_ret
    exact ⟨rfl, Below.refl _ _⟩
  · have h9 := ‹(len0 : Int) - (Lx : Int) ≤ 9 ∧ (len0 : Int) - (Ly : Int) ≤ 9›
    have Bx := Lib.hid (val_bound xs Lx Dx.out HZx.out (by rw [HX.out]; exact hLx) (by rw [HX.out]; omega))
    have By := Lib.hid (val_bound ys Ly Dy.out HZy.out (by rw [HY.out]; exact hLy) (by rw [HY.out]; omega))
    have hpos : 0 < len0 := by omega
    clear h9
    refine (copyB _ _ _ _ _ s0 (by omega)).mono ?_
    rintro e w1 ⟨aX, cX, rfl, _, _, sX, bX, _, _⟩
    have s1' := s1.below bX
    go_wp2_with fail
    refine (copyB _ _ _ _ _ s1' (by omega)).mono ?_
    rintro e w2 ⟨aY, cY, rfl, _, _, sY, bY, _, _⟩
    have sX' := sX.below bY
    go_wp2_with fail
    refine (psi32 _ _ _ _ _ sX' b0 hpos Dx.out Bx.out).mono ?_
    rintro e w' ⟨rfl, rfl⟩
    go_wp2_with fail
    refine (psi32 _ _ _ _ _ sY b0 hpos Dy.out By.out).mono ?_
    rintro e w' ⟨rfl, rfl⟩
    go_wp2_with fail
    refine (lexc _ _ _ _ _ _ _ _ sX' sY b0).mono ?_
    have hB : Below w.heap.size w w2 := bX.trans (bY.mono bX.size)
    have hB2 : ∀ n, Below w.heap.size w (w2.drewN n) := fun n => ⟨hB.os, hB.tape, hB.output, hB.size, hB.block⟩
    have HB2 := Lib.hid hB2
    clear hB2
    rintro e w3 ⟨⟨n, rfl⟩, ⟨rfl, i, hi, hF, hlt⟩ | ⟨rfl, i, hi, hF, hlt⟩ | ⟨rfl, hF⟩⟩
    · have hv := val_less_all xs ys Dx.out Dy.out i (HX.out.trans HY.out.symm) hi hF hlt
      rw [HX.out, HY.out] at hv
      clear hF
      go_wp2_with fail
      go_ret
      exact ⟨by simp, HB2.out _⟩
    · have hv := val_less_all ys xs Dy.out Dx.out i (HY.out.trans HX.out.symm) (by rw [HY.out, ← HX.out]; exact hi) (fun j hj => (hF j hj).symm) hlt
      rw [HX.out, HY.out] at hv
      clear hF
      go_wp2_with fail
      go_ret
      exact ⟨by simp, HB2.out _⟩
    · have hv := val_eq xs ys _ hF
      rw [HX.out] at hv
      have hv2 : (val xs len0 == val ys len0) = true := by simpa using hv
      clear hF hv
      go_wp2_with fail
      go_ret
      exact ⟨rfl, HB2.out _⟩
  · go_ret
    exact ⟨rfl, Below.refl _ _⟩

set_option maxRecDepth 100000 in
theorem lifted (os : Os) (started : os.Started) (H : Type) (enc : TypeId × Value → H) :
    ReturnsInHanded {} Try.checked os 6 .any (Rows.fnParseSmallIntOrderMatchesDigitsSpec.pre6 enc Try.prog Try.f6 Rows.fnParseSmallIntOrderMatchesDigitsRow.domain false) (Rows.fnParseSmallIntOrderMatchesDigitsSpec.post enc Try.prog Try.f6 false true false false) := by
  refine returnsInHanded_of_change (C := Try.checked) own started (by kernel_rfl) Try.func6
    (ChangeSpec.witness6 (enc := enc) (C := Try.checked) false ⟨#[], #[.slice none 0 0, .slice none 0 0], []⟩ 8 (by kernel_rfl) (by kernel_rfl) (by kernel_rfl) (by kernel_rfl)) ?_
  intro W base args ds gs before hval0 hW hcnd _
  have hval : ∀ (j : Nat) t v, Try.f6.params[j]? = some t → args[j]? = some v → Value.okWide Try.prog W .any base t v := hval0
  have hW' := hW
  obtain ⟨p, q, hA0, hV, rfl, hfz, hnd⟩ := hW
  have hA : DataW.TrodAll enc Try.prog W 0 (fun _ => true) true Try.f6.params.toList args.toList ds p := hA0
  rw [Try.params6] at hA hval
  obtain ⟨v0, vs0, d0, ds0, p0, q0, hargs, rfl, rfl, h0, r0⟩ := trodAll_cons hA
  obtain ⟨v1, vs1, d1, ds1, p1, q1, rfl, rfl, rfl, h1, r1⟩ := trodAll_cons r0
  obtain ⟨rfl, rfl, rfl⟩ := trodAll_nil r1
  obtain rfl : args = #[v0, v1] := by cases args; simp_all
  obtain ⟨rfl, rfl⟩ := trodVars_none hV
  obtain ⟨a0, len0, cap0, rfl⟩ := okWide_slice Try.underlying22 (hval 0 22 v0 rfl rfl)
  have k0 := h0
  have lt0 : ∀ x ∈ p0, x.block < W.heap.size := by obtain ⟨m, hm⟩ := k0; exact DataW.trod_lt m _ _ _ hm
  obtain ⟨z0, w0⟩ := Aid.open_row Try.underlying22 Try.underlying5 (by kernel_rfl) h0
  obtain ⟨a1, len1, cap1, rfl⟩ := okWide_slice Try.underlying22 (hval 1 22 v1 rfl rfl)
  have k1 := h1
  have lt1 : ∀ x ∈ p1, x.block < W.heap.size := by obtain ⟨m, hm⟩ := k1; exact DataW.trod_lt m _ _ _ hm
  obtain ⟨z1, w1⟩ := Aid.open_row Try.underlying22 Try.underlying5 (by kernel_rfl) h1
  clear hA0 hval0
  refine (walk a0 len0 cap0 z0 a1 len1 cap1 z1 W w0 w1).mono fun e W' ⟨he, bel⟩ => ?_
  subst he
  exact ⟨_, rfl, _, _, _, [], _, [], hW', trodAll_mk1 (shut_bool Try.underlying4 _), (trodAll_cons_mk (Below.trod laidOut (by kernel_rfl) (of_decide_eq_true (by kernel_rfl)) k0 bel lt0) (trodAll_cons_mk (Below.trod laidOut (by kernel_rfl) (of_decide_eq_true (by kernel_rfl)) k1 bel lt1) trodAll_mk0)), rfl, bel.frame _, fun h => by cases h⟩

theorem joined : joinedFacts Try.prog 6 Try.f6 Rows.fnParseSmallIntOrderMatchesDigitsSpec Rows.fnParseSmallIntOrderMatchesDigitsRow = true := by
  unfold joinedFacts
  rw [Facts.enter, Facts.lifts, Facts.make]
  kernel_rfl

theorem over : Rows.fnParseSmallIntOrderMatchesDigitsRow.holds Try.pinned (OpenSpec.ofChange Rows.fnParseSmallIntOrderMatchesDigitsSpec) :=
  OpenClaim.holds_of_wide 6 Try.f6 rfl rfl rfl rfl rfl rfl rfl ⟨rfl, rfl, rfl, rfl, rfl⟩ rfl rfl rfl rfl rfl (by kernel_rfl) Try.func6 joined
    (of_decide_eq_true (by kernel_rfl)) (by unfold Func.isWrapper; first | (rw [if_pos (by decide +kernel)]; kernel_rfl) | (rw [if_neg (by decide +kernel)]; exact ⟨rfl, rfl⟩))
    (fun os started H enc _ => lifted os started H enc)

theorem proved : Rows.FnParseSmallIntOrderMatchesDigitsSaid :=
  over
#print axioms proved
end Go.Proofs.Ytpgchpfdeefloaa.fnParseSmallIntOrderMatchesDigits
