/- Contracts of functions that the law of this seat reaches, and plain facts; no condition. -/
import Derived.Test.YtfhafelkkophgaaFmtProg
import Derived.WalkKit
import Derived.ProofKit
import Derived.OpenShut
import Derived.ShutString
import Derived.Test.YtfhafelkkophgaaFmtAid
import Derived.Test.YtfhafelkkophgaaFmtV1
import Derived.ArgAppend
import Derived.WalkSpells
import Derived.LoopTactic
import Derived.IntWalk
import Derived.Outline
import Derived.Deep.QuietTactic
import Derived.BigQuiet
import Derived.Deep.RegionHeld3
import Derived.Deep.RegionLaw
import Derived.StillTailTactics
import Derived.OwnWalk
import Derived.RegionTactic
import Derived.Laws.BitsAllLaws
import Derived.Laws.BitsLemmas
import Derived.Lib.ConvBytes
namespace Go.Proofs.YtfhafelkkophgaaFmt.Aux
open Go.ChangeShapes Go.WideShapes Go.ChangeAt Go.RowKit
open Go.ChangeMaps (open_string shut_string)
set_option linter.unusedVariables false
set_option linter.unusedSimpArgs false
open Fl Str Pb Qd PlainAid Aux
theorem i32_and1023 (x : Int) (h0 : 0 ≤ x) (h1 : x < 2147483648) : bits .and .i32 x 1023 = x % 1024 := bits_mask .i32 31 (by decide) wraps_i32 10 (by decide) x h0 h1
/-- The runes of a text from i on. -/
inductive Chn (s : ByteArray) : Nat → List Int → Prop
  | nil : Chn s s.size []
  | cons {i : Nat} {r : Int} {m : Nat} {R : List Int} (h : Dv s i r m) (t : Chn s (i + m) R) : Chn s i (r :: R)
theorem dv_lt {s : ByteArray} {i : Nat} {r : Int} {m : Nat} (h : Dv s i r m) : i < s.size ∧ 1 ≤ m ∧ m ≤ 4 ∧ i + m ≤ s.size := by unfold Dv at h; omega
theorem bt_rng (s : ByteArray) (i : Nat) : 0 ≤ bt s i ∧ bt s i ≤ 255 := by
  unfold bt
  split
  · rename_i h
    have := (s[i]'h).toNat_lt
    omega
  · omega
theorem dv_r {s : ByteArray} {i : Nat} {r : Int} {m : Nat} (h : Dv s i r m) : 0 ≤ r ∧ r ≤ 1114111 ∧ (r < 55296 ∨ 57343 < r) ∧ (bt s i < 128 ↔ r < 128) ∧ (r < 128 → m = 1 ∧ r = bt s i) ∧ (65535 < r → 2 ≤ m) := by
  have := bt_rng s i
  unfold Dv at h
  omega
theorem chn_cases {s : ByteArray} {i : Nat} {R : List Int} (h : Chn s i R) : (i = s.size ∧ R = []) ∨ ∃ r m R', R = r :: R' ∧ Dv s i r m ∧ Chn s (i + m) R' ∧ i < s.size := by
  cases h with
  | nil => exact .inl ⟨rfl, rfl⟩
  | cons h t => exact .inr ⟨_, _, _, rfl, h, t, (dv_lt h).1⟩
theorem chn_le {s : ByteArray} {i : Nat} {R : List Int} (h : Chn s i R) : i ≤ s.size := by
  rcases chn_cases h with ⟨e, _⟩ | ⟨_, _, _, _, _, _, h⟩ <;> omega
theorem v16m {s : ByteArray} {k m : Nat} {r : Int} {ok : Bool} (hk : k < s.size) (h : (ok = true ∧ Dv s k r m) ∨ (ok = false ∧ m = 1 ∧ r = 0 ∧ ∀ r m, ¬ Dv s k r m)) : 1 ≤ m ∧ m ≤ 4 ∧ k + m ≤ s.size := by
  rcases h with ⟨_, h⟩ | ⟨_, h, _⟩
  · exact (dv_lt h).2
  · omega
theorem v16s {s : ByteArray} {k m : Nat} {r : Int} {ok : Bool} (hok : ok = true) (h : (ok = true ∧ Dv s k r m) ∨ (ok = false ∧ m = 1 ∧ r = 0 ∧ ∀ r m, ¬ Dv s k r m)) (HC : Hid (∀ R, Chn s k R → ∃ R', Chn s 0 R')) : Hid (∀ R, Chn s (k + m) R → ∃ R', Chn s 0 R') := Lib.hid fun R h' => by
  rcases h with ⟨_, hd⟩ | ⟨h2, _⟩
  · exact HC.out _ (.cons hd h')
  · rw [h2] at hok
    cases hok
def V16 (w : World) (s : ByteArray) (e : Ending) (w' : World) : Prop := (∃ q, w' = w.drewN q) ∧ ∃ v, e = .returned (.bool v) ∧ Hid (v = true → ∃ R, Chn s 0 R)
set_option maxRecDepth 100000 in
set_option maxHeartbeats 8000000 in
theorem valid16 (s : ByteArray) (hs : s.size ≤ 16777216) (w : World) : Calls Tryf.prog 16 #[.string s] w (V16 w s) := by
  have HD := Lib.hid (fun i hi w => dec31 s i hs hi w)
  go_enter Tryf.func16, Tryf.ntmps16
  go_wp2_with fail
  go_loopw [3] (fun i wr => ∃ k : Nat, k ≤ s.size ∧ i = .int .i64 k ∧ Hid (∀ R, Chn s k R → ∃ R', Chn s 0 R') ∧ ∃ q, wr = w.drewN q) (fun i _ => s.size - (intOf i).toNat)
  case atStart => exact ⟨0, Nat.zero_le _, rfl, Lib.hid fun R h => ⟨R, h⟩, 0, rfl⟩
  case round =>
    obtain ⟨k, hk, rfl, HC, qq, rfl⟩ := hrel
    by_cases hlt : k < s.size
    · have hk2 : (k : Int) < (s.size : Int) := by omega
      have HV0 := Lib.hid (HD.out k hlt (w.drewN qq))
      go_wp2_with (go_at_call 31; refine HV0.out.mono ?_; rintro e w1 ⟨⟨q1, rfl⟩, r, m, ok, rfl, HV⟩; clear HV0; have hm := v16m hlt HV.out)
      · go_ret
        exact ⟨⟨_, rfl⟩, false, rfl, Lib.hid fun h => by cases h⟩
      · rename_i hok
        have hok : ok = true := by simpa using hok
        go_roundw
        case rel => exact ⟨k + m, by omega, congrArg _ (by omega), v16s hok HV.out HC, _, rfl⟩
        case measure => simp [intOf]; omega
    · obtain rfl : k = s.size := by omega
      go_wp2_with fail
      go_ret
      exact ⟨⟨_, rfl⟩, true, rfl, Lib.hid fun _ => HC.out _ .nil⟩
/-- The units of a text. -/
def u16r (r : Int) : List Int := if r ≤ 65535 then [r] else [55296 + (r - 65536) / 1024, 56320 + (r - 65536) % 1024]
def u16s : List Int → List Int
  | [] => []
  | r :: R => u16r r ++ u16s R
theorem u16s_app (A B : List Int) : u16s (A ++ B) = u16s A ++ u16s B := by
  induction A with
  | nil => rfl
  | cons a A ih => simp [u16s, ih]
theorem dv_decode {s : ByteArray} {i : Nat} {r : Int} {m : Nat} (h : Dv s i r m) : ((Utf8.decode s i).1 : Int) = r ∧ (Utf8.decode s i).2 = m := by
  have hl := dv_lt h
  have hg : ∀ k, i + k < s.size → ((s.get! (i + k)).toNat : Int) = bt s (i + k) := fun k hk => by
    have e : s.get! (i + k) = s[i + k]'hk := by
      show s.get! (i + k) = _
      simp [ByteArray.get!, getElem!_pos, hk]
      rfl
    rw [e, ← get_bt s (i + k) hk]
  have h0 := hg 0 (by omega)
  rw [Nat.add_zero] at h0
  have hc : ∀ k, i + k < s.size → 128 ≤ bt s (i + k) → bt s (i + k) ≤ 191 → ((decide (i + k < s.size) && (s.get! (i + k)).toNat / 64 == 2) = true) := fun k hk h1 h2 => by
    have := hg k hk
    have : (s.get! (i + k)).toNat / 64 = 2 := by omega
    simp [hk, this]
  unfold Dv at h
  rcases h with ⟨rfl, h1, h2, h3⟩ | ⟨rfl, h1, h2, h3, h4, h5, h6⟩ | ⟨rfl, h1, h2, h3, h4, h5, h6, h7, h8, h9, h10⟩ | ⟨rfl, h1, h2, h3, h4, h5, h6, h7, h8, h9, h10, h11, h12⟩
  · have : (s.get! i).toNat < 128 := by omega
    simp only [Utf8.decode, Nat.add_zero, this, if_true]
    exact ⟨by omega, trivial⟩
  · have g1 := hg 1 h1
    have k1 := hc 1 h1 h4 h5
    have a0 : ¬ (s.get! (i + 0)).toNat < 128 := by rw [Nat.add_zero]; omega
    have a1 : ((s.get! (i + 0)).toNat / 32 == 6) = true := by rw [Nat.add_zero]; simp; omega
    have a2 : 128 ≤ (s.get! (i + 0)).toNat % 32 * 64 + (s.get! (i + 1)).toNat % 64 := by rw [Nat.add_zero]; omega
    simp only [Utf8.decode, a0, a1, k1, a2, if_true, if_false, Bool.and_self, ge_iff_le, and_true]
    rw [Nat.add_zero]; omega
  · have g1 := hg 1 (by omega)
    have g2 := hg 2 h1
    have k1 := hc 1 (by omega) h4 h5
    have k2 := hc 2 h1 h8 h9
    have a0 : ¬ (s.get! (i + 0)).toNat < 128 := by rw [Nat.add_zero]; omega
    have a1 : ((s.get! (i + 0)).toNat / 32 == 6) = false := by rw [Nat.add_zero]; simp; omega
    have a3 : ((s.get! (i + 0)).toNat / 16 == 14) = true := by rw [Nat.add_zero]; simp; omega
    have a2 : (decide (2048 ≤ (s.get! (i + 0)).toNat % 16 * 4096 + (s.get! (i + 1)).toNat % 64 * 64 + (s.get! (i + 2)).toNat % 64) && Utf8.valid (((s.get! (i + 0)).toNat % 16 * 4096 + (s.get! (i + 1)).toNat % 64 * 64 + (s.get! (i + 2)).toNat % 64 : Nat) : Int)) = true := by
      rw [Nat.add_zero]
      simp only [Utf8.valid, Bool.and_eq_true, Bool.or_eq_true, decide_eq_true_eq]
      omega
    simp only [Utf8.decode, a0, a1, a3, k1, k2, a2, if_true, if_false, Bool.and_self, Bool.false_and, ge_iff_le, and_true, Bool.false_eq_true]
    rw [Nat.add_zero]; omega
  · have g1 := hg 1 (by omega)
    have g2 := hg 2 (by omega)
    have g3 := hg 3 h1
    have k1 := hc 1 (by omega) h4 h5
    have k2 := hc 2 (by omega) h8 h9
    have k3 := hc 3 h1 h10 h11
    have a0 : ¬ (s.get! (i + 0)).toNat < 128 := by rw [Nat.add_zero]; omega
    have a1 : ((s.get! (i + 0)).toNat / 32 == 6) = false := by rw [Nat.add_zero]; simp; omega
    have a3 : ((s.get! (i + 0)).toNat / 16 == 14) = false := by rw [Nat.add_zero]; simp; omega
    have a4 : ((s.get! (i + 0)).toNat / 8 == 30) = true := by rw [Nat.add_zero]; simp; omega
    have a2 : (decide (65536 ≤ (s.get! (i + 0)).toNat % 8 * 262144 + (s.get! (i + 1)).toNat % 64 * 4096 + (s.get! (i + 2)).toNat % 64 * 64 + (s.get! (i + 3)).toNat % 64) && Utf8.valid (((s.get! (i + 0)).toNat % 8 * 262144 + (s.get! (i + 1)).toNat % 64 * 4096 + (s.get! (i + 2)).toNat % 64 * 64 + (s.get! (i + 3)).toNat % 64 : Nat) : Int)) = true := by
      rw [Nat.add_zero]
      simp only [Utf8.valid, Bool.and_eq_true, Bool.or_eq_true, decide_eq_true_eq]
      omega
    simp only [Utf8.decode, a0, a1, a3, a4, k1, k2, k3, a2, if_true, if_false, Bool.and_self, Bool.false_and, ge_iff_le, and_true, Bool.false_eq_true]
    rw [Nat.add_zero]; omega
end Go.Proofs.YtfhafelkkophgaaFmt.Aux
