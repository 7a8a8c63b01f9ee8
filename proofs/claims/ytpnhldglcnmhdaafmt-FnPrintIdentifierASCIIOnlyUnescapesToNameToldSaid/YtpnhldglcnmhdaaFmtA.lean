/- Contracts of functions that the law of this seat reaches, and plain facts; no condition. -/
import Derived.Test.YtpnhldglcnmhdaaFmtProg
import Derived.WalkKit
import Derived.ProofKit
import Derived.OpenShut
import Derived.ShutString
import Derived.Test.YtpnhldglcnmhdaaFmtAid
import Derived.Test.YtpnhldglcnmhdaaFmtFl
import Derived.Test.YtpnhldglcnmhdaaFmtStr
import Derived.Test.YtpnhldglcnmhdaaFmtPb
import Derived.Test.YtpnhldglcnmhdaaFmtQd
import Derived.ArgAppend
import Derived.WalkSmall
import Derived.Lib.OthersKept
import Derived.Laws.RangeAny
import Derived.Laws.OwnMore
import Derived.WalkSpells
import Derived.LoopTactic
import Derived.IntWalk
import Derived.Outline
import Derived.Deep.QuietTactic
import Derived.BigQuiet
import Derived.Deep.RegionHeld3
import Derived.Deep.RegionLaw
import Derived.StillTailTactics
import Derived.OwnWalk
import Derived.RegionTactic
import Derived.Laws.BitsAllLaws
import Derived.Laws.BitsLemmas
import Derived.Lib.ConvBytes
import Derived.Lib.RuneBytes
namespace Go.Proofs.YtpnhldglcnmhdaaFmt.Aux
open Go.ChangeShapes Go.WideShapes Go.ChangeAt Go.RowKit
open Go.ChangeMaps (open_string shut_string)
set_option linter.unusedVariables false
set_option linter.unusedSimpArgs false
open Fl Str Pb Qd PlainAid
/-- A rune that stands in a text at i, with its width. -/
def Dv (s : ByteArray) (i : Nat) (r : Int) (m : Nat) : Prop :=
  (m = 1 ∧ i < s.size ∧ bt s i < 128 ∧ r = bt s i) ∨
  (m = 2 ∧ i + 1 < s.size ∧ 194 ≤ bt s i ∧ bt s i ≤ 223 ∧ 128 ≤ bt s (i + 1) ∧ bt s (i + 1) ≤ 191 ∧ r = (bt s i - 192) * 64 + (bt s (i + 1) - 128)) ∨
  (m = 3 ∧ i + 2 < s.size ∧ 224 ≤ bt s i ∧ bt s i ≤ 239 ∧ 128 ≤ bt s (i + 1) ∧ bt s (i + 1) ≤ 191 ∧ (bt s i = 224 → 160 ≤ bt s (i + 1)) ∧ (bt s i = 237 → bt s (i + 1) ≤ 159) ∧ 128 ≤ bt s (i + 2) ∧ bt s (i + 2) ≤ 191 ∧ r = (bt s i - 224) * 4096 + (bt s (i + 1) - 128) * 64 + (bt s (i + 2) - 128)) ∨
  (m = 4 ∧ i + 3 < s.size ∧ 240 ≤ bt s i ∧ bt s i ≤ 244 ∧ 128 ≤ bt s (i + 1) ∧ bt s (i + 1) ≤ 191 ∧ (bt s i = 240 → 144 ≤ bt s (i + 1)) ∧ (bt s i = 244 → bt s (i + 1) ≤ 143) ∧ 128 ≤ bt s (i + 2) ∧ bt s (i + 2) ≤ 191 ∧ 128 ≤ bt s (i + 3) ∧ bt s (i + 3) ≤ 191 ∧ r = (bt s i - 240) * 262144 + (bt s (i + 1) - 128) * 4096 + (bt s (i + 2) - 128) * 64 + (bt s (i + 3) - 128))
/-- The runes of a text from i on. -/
inductive Chn (s : ByteArray) : Nat → List Int → Prop
  | nil : Chn s s.size []
  | cons {i : Nat} {r : Int} {m : Nat} {R : List Int} (h : Dv s i r m) (t : Chn s (i + m) R) : Chn s i (r :: R)
theorem dv_lt {s : ByteArray} {i : Nat} {r : Int} {m : Nat} (h : Dv s i r m) : i < s.size ∧ 1 ≤ m ∧ m ≤ 4 ∧ i + m ≤ s.size := by unfold Dv at h; omega
theorem bt_rng (s : ByteArray) (i : Nat) : 0 ≤ bt s i ∧ bt s i ≤ 255 := by
  unfold bt
  split
  · rename_i h
    have := (s[i]'h).toNat_lt
    omega
  · omega
theorem dv_r {s : ByteArray} {i : Nat} {r : Int} {m : Nat} (h : Dv s i r m) : 0 ≤ r ∧ r ≤ 1114111 ∧ (r < 55296 ∨ 57343 < r) ∧ (bt s i < 128 ↔ r < 128) ∧ (r < 128 → m = 1 ∧ r = bt s i) ∧ (65535 < r → 2 ≤ m) := by
  have := bt_rng s i
  unfold Dv at h
  omega
theorem chn_cases {s : ByteArray} {i : Nat} {R : List Int} (h : Chn s i R) : (i = s.size ∧ R = []) ∨ ∃ r m R', R = r :: R' ∧ Dv s i r m ∧ Chn s (i + m) R' ∧ i < s.size := by
  cases h with
  | nil => exact .inl ⟨rfl, rfl⟩
  | cons h t => exact .inr ⟨_, _, _, rfl, h, t, (dv_lt h).1⟩
theorem chn_le {s : ByteArray} {i : Nat} {R : List Int} (h : Chn s i R) : i ≤ s.size := by
  rcases chn_cases h with ⟨e, _⟩ | ⟨_, _, _, _, _, _, h⟩ <;> omega
theorem dv_decode {s : ByteArray} {i : Nat} {r : Int} {m : Nat} (h : Dv s i r m) : ((Utf8.decode s i).1 : Int) = r ∧ (Utf8.decode s i).2 = m := by
  have hl := dv_lt h
  have hg : ∀ k, i + k < s.size → ((s.get! (i + k)).toNat : Int) = bt s (i + k) := fun k hk => by
    have e : s.get! (i + k) = s[i + k]'hk := by
      show s.get! (i + k) = _
      simp [ByteArray.get!, getElem!_pos, hk]
      rfl
    rw [e, ← get_bt s (i + k) hk]
  have h0 := hg 0 (by omega)
  rw [Nat.add_zero] at h0
  have hc : ∀ k, i + k < s.size → 128 ≤ bt s (i + k) → bt s (i + k) ≤ 191 → ((decide (i + k < s.size) && (s.get! (i + k)).toNat / 64 == 2) = true) := fun k hk h1 h2 => by
    have := hg k hk
    have : (s.get! (i + k)).toNat / 64 = 2 := by omega
    simp [hk, this]
  unfold Dv at h
  rcases h with ⟨rfl, h1, h2, h3⟩ | ⟨rfl, h1, h2, h3, h4, h5, h6⟩ | ⟨rfl, h1, h2, h3, h4, h5, h6, h7, h8, h9, h10⟩ | ⟨rfl, h1, h2, h3, h4, h5, h6, h7, h8, h9, h10, h11, h12⟩
  · have : (s.get! i).toNat < 128 := by omega
    simp only [Utf8.decode, Nat.add_zero, this, if_true]
    exact ⟨by omega, trivial⟩
  · have g1 := hg 1 h1
    have k1 := hc 1 h1 h4 h5
    have a0 : ¬ (s.get! (i + 0)).toNat < 128 := by rw [Nat.add_zero]; omega
    have a1 : ((s.get! (i + 0)).toNat / 32 == 6) = true := by rw [Nat.add_zero]; simp; omega
    have a2 : 128 ≤ (s.get! (i + 0)).toNat % 32 * 64 + (s.get! (i + 1)).toNat % 64 := by rw [Nat.add_zero]; omega
    simp only [Utf8.decode, a0, a1, k1, a2, if_true, if_false, Bool.and_self, ge_iff_le, and_true]
    rw [Nat.add_zero]; omega
  · have g1 := hg 1 (by omega)
    have g2 := hg 2 h1
    have k1 := hc 1 (by omega) h4 h5
    have k2 := hc 2 h1 h8 h9
    have a0 : ¬ (s.get! (i + 0)).toNat < 128 := by rw [Nat.add_zero]; omega
    have a1 : ((s.get! (i + 0)).toNat / 32 == 6) = false := by rw [Nat.add_zero]; simp; omega
    have a3 : ((s.get! (i + 0)).toNat / 16 == 14) = true := by rw [Nat.add_zero]; simp; omega
    have a2 : (decide (2048 ≤ (s.get! (i + 0)).toNat % 16 * 4096 + (s.get! (i + 1)).toNat % 64 * 64 + (s.get! (i + 2)).toNat % 64) && Utf8.valid (((s.get! (i + 0)).toNat % 16 * 4096 + (s.get! (i + 1)).toNat % 64 * 64 + (s.get! (i + 2)).toNat % 64 : Nat) : Int)) = true := by
      rw [Nat.add_zero]
      simp only [Utf8.valid, Bool.and_eq_true, Bool.or_eq_true, decide_eq_true_eq]
      omega
    simp only [Utf8.decode, a0, a1, a3, k1, k2, a2, if_true, if_false, Bool.and_self, Bool.false_and, ge_iff_le, and_true, Bool.false_eq_true]
    rw [Nat.add_zero]; omega
  · have g1 := hg 1 (by omega)
    have g2 := hg 2 (by omega)
    have g3 := hg 3 h1
    have k1 := hc 1 (by omega) h4 h5
    have k2 := hc 2 (by omega) h8 h9
    have k3 := hc 3 h1 h10 h11
    have a0 : ¬ (s.get! (i + 0)).toNat < 128 := by rw [Nat.add_zero]; omega
    have a1 : ((s.get! (i + 0)).toNat / 32 == 6) = false := by rw [Nat.add_zero]; simp; omega
    have a3 : ((s.get! (i + 0)).toNat / 16 == 14) = false := by rw [Nat.add_zero]; simp; omega
    have a4 : ((s.get! (i + 0)).toNat / 8 == 30) = true := by rw [Nat.add_zero]; simp; omega
    have a2 : (decide (65536 ≤ (s.get! (i + 0)).toNat % 8 * 262144 + (s.get! (i + 1)).toNat % 64 * 4096 + (s.get! (i + 2)).toNat % 64 * 64 + (s.get! (i + 3)).toNat % 64) && Utf8.valid (((s.get! (i + 0)).toNat % 8 * 262144 + (s.get! (i + 1)).toNat % 64 * 4096 + (s.get! (i + 2)).toNat % 64 * 64 + (s.get! (i + 3)).toNat % 64 : Nat) : Int)) = true := by
      rw [Nat.add_zero]
      simp only [Utf8.valid, Bool.and_eq_true, Bool.or_eq_true, decide_eq_true_eq]
      omega
    simp only [Utf8.decode, a0, a1, a3, a4, k1, k2, k3, a2, if_true, if_false, Bool.and_self, Bool.false_and, ge_iff_le, and_true, Bool.false_eq_true]
    rw [Nat.add_zero]; omega
theorem dv_enc {s : ByteArray} {i : Nat} {r : Int} {m : Nat} (h : Dv s i r m) (hr : 128 ≤ r) : (Lib.encodeRuneZ r).length = m ∧ ∀ j, (hj : j < (Lib.encodeRuneZ r).length) → bt s (i + j) = (Lib.encodeRuneZ r)[j] := by
  unfold Dv at h
  rcases h with h | ⟨rfl, h⟩ | ⟨rfl, h⟩ | ⟨rfl, h⟩
  · omega
  · have e := Lib.encodeRuneZ_two (r := r) (by omega) (by omega)
    refine ⟨by rw [e]; rfl, fun j hj => ?_⟩
    simp only [e] at hj ⊢
    simp at hj
    rcases (by omega : j = 0 ∨ j = 1) with rfl | rfl
    · simp only [List.getElem_cons_zero, Nat.add_zero]; omega
    · simp only [List.getElem_cons_zero, List.getElem_cons_succ]; omega
  · have e := Lib.encodeRuneZ_three (r := r) (by omega)
    refine ⟨by rw [e]; rfl, fun j hj => ?_⟩
    simp only [e] at hj ⊢
    simp at hj
    rcases (by omega : j = 0 ∨ j = 1 ∨ j = 2) with rfl | rfl | rfl
    · simp only [List.getElem_cons_zero, Nat.add_zero]; omega
    · simp only [List.getElem_cons_zero, List.getElem_cons_succ]; omega
    · simp only [List.getElem_cons_zero, List.getElem_cons_succ]; omega
  · have e := Lib.encodeRuneZ_four (r := r) (by omega) (by omega)
    refine ⟨by rw [e]; rfl, fun j hj => ?_⟩
    simp only [e] at hj ⊢
    simp at hj
    rcases (by omega : j = 0 ∨ j = 1 ∨ j = 2 ∨ j = 3) with rfl | rfl | rfl | rfl
    · simp only [List.getElem_cons_zero, Nat.add_zero]; omega
    · simp only [List.getElem_cons_zero, List.getElem_cons_succ]; omega
    · simp only [List.getElem_cons_zero, List.getElem_cons_succ]; omega
    · simp only [List.getElem_cons_zero, List.getElem_cons_succ]; omega
/-- A hex digit, upper case. -/
def hx (d : Int) : Int := if d < 10 then 48 + d else 55 + d
def hexB : ByteArray := ⟨#[48, 49, 50, 51, 52, 53, 54, 55, 56, 57, 65, 66, 67, 68, 69, 70]⟩
theorem hexT : ∀ d : Fin 16, bt hexB d.val = hx (d.val : Int) := by decide
theorem hexG (d : Nat) (h : d < 16) : ∃ x : Int, (∀ (h' : d < (⟨#[48, 49, 50, 51, 52, 53, 54, 55, 56, 57, 65, 66, 67, 68, 69, 70]⟩ : ByteArray).size), (((⟨#[48, 49, 50, 51, 52, 53, 54, 55, 56, 57, 65, 66, 67, 68, 69, 70]⟩ : ByteArray)[d]'h').toNat : Int) = x) ∧ x = hx d := ⟨bt hexB d, fun h' => get_bt hexB d h', hexT ⟨d, h⟩⟩
/-- How a rune is printed. -/
def E (r : Int) : List Int := if 32 ≤ r ∧ r ≤ 126 then [r] else [92, 117, hx (r / 4096), hx (r / 256 % 16), hx (r / 16 % 16), hx (r % 16)]
def ER : List Int → List Int
  | [] => []
  | r :: R => E r ++ ER R
def U8 : List Int → List Int
  | [] => []
  | r :: R => Lib.encodeRuneZ r ++ U8 R
theorem ER_app (A B : List Int) : ER (A ++ B) = ER A ++ ER B := by
  induction A with
  | nil => rfl
  | cons a A ih => simp [ER, ih]
theorem U8_app (A B : List Int) : U8 (A ++ B) = U8 A ++ U8 B := by
  induction A with
  | nil => rfl
  | cons a A ih => simp [U8, ih]
theorem E_asc {r : Int} (h0 : 32 ≤ r) (h1 : r ≤ 126) : E r = [r] := by simp [E, h0, h1]
theorem E_esc {r : Int} (h : ¬ (32 ≤ r ∧ r ≤ 126)) : E r = [92, 117, hx (r / 4096), hx (r / 256 % 16), hx (r / 16 % 16), hx (r % 16)] := by simp only [E, if_neg h]
theorem E_len (r : Int) : 1 ≤ (E r).length ∧ (E r).length ≤ 6 := by unfold E; split <;> simp
theorem ER_len (R : List Int) : (ER R).length ≤ 6 * R.length := by
  induction R with
  | nil => simp [ER]
  | cons r R ih => have := E_len r; simp [ER]; omega
theorem ER_asc {R : List Int} (h : ∀ r ∈ R, 32 ≤ r ∧ r ≤ 126) : ER R = R := by
  induction R with
  | nil => rfl
  | cons r R ih =>
    have h1 := h r (by simp)
    simp [ER, E_asc h1.1 h1.2, ih (fun x hx => h x (by simp [hx]))]
theorem dv_bytes {s : ByteArray} {i : Nat} {r : Int} {m : Nat} (h : Dv s i r m) : (Lib.encodeRuneZ r).length = m ∧ ∀ j, (hj : j < (Lib.encodeRuneZ r).length) → bt s (i + j) = (Lib.encodeRuneZ r)[j] := by
  have hr := dv_r h
  by_cases h1 : 128 ≤ r
  · exact dv_enc h h1
  · have e : Lib.encodeRuneZ r = [r] := Lib.encodeRuneZ_one (by omega) (by omega)
    obtain ⟨rfl, e2⟩ := hr.2.2.2.2.1 (by omega)
    refine ⟨by rw [e]; rfl, fun j hj => ?_⟩
    simp only [e] at hj ⊢
    simp at hj
    subst hj
    simpa using e2.symm
theorem chn_bytes {s : ByteArray} : ∀ (R : List Int) (i : Nat), Chn s i R → i + (U8 R).length = s.size ∧ ∀ j, (hj : j < (U8 R).length) → bt s (i + j) = (U8 R)[j] := by
  intro R
  induction R with
  | nil =>
    intro i h
    rcases chn_cases h with ⟨e, _⟩ | ⟨_, _, _, e, _⟩
    · exact ⟨by simpa [U8] using e, fun j hj => by simp [U8] at hj⟩
    · cases e
  | cons r R ih =>
    intro i h
    rcases chn_cases h with ⟨_, e⟩ | ⟨r', m, R', e, hd, hc, _⟩
    · cases e
    · injection e with e1 e2
      subst e1; subst e2
      obtain ⟨l1, g1⟩ := dv_bytes hd
      obtain ⟨l2, g2⟩ := ih _ hc
      refine ⟨by simp only [U8, List.length_append]; omega, fun j hj => ?_⟩
      simp only [U8] at hj ⊢
      by_cases hh : j < (Lib.encodeRuneZ r).length
      · rw [List.getElem_append_left hh]
        exact g1 j hh
      · rw [List.getElem_append_right (by omega)]
        have := g2 (j - (Lib.encodeRuneZ r).length) (by rw [List.length_append] at hj; omega)
        rw [← this]
        congr 1
        omega
/-- The bytes of a list of numbers. -/
def strOf (P : List Int) : ByteArray := ⟨(P.map fun x => x.toNat.toUInt8).toArray⟩
theorem strOf_size (P : List Int) : (strOf P).size = P.length := by simp [strOf, ByteArray.size]
theorem strOf_bt {P : List Int} (h : ∀ x ∈ P, 0 ≤ x ∧ x ≤ 255) (i : Nat) (hi : i < P.length) : bt (strOf P) i = P[i] := by
  have hs : i < (strOf P).size := by rw [strOf_size]; exact hi
  rw [bt_get _ i hs]
  have := h P[i] (List.getElem_mem hi)
  simp only [strOf, List.getElem_map]
  rw [u8_of_int _ this.1 this.2]
  omega
theorem chn_rng {s : ByteArray} {R : List Int} (h : Chn s 0 R) : ∀ x ∈ U8 R, 0 ≤ x ∧ x ≤ 255 := by
  intro x hx
  obtain ⟨j, hj, rfl⟩ := List.getElem_of_mem hx
  rw [← (chn_bytes R 0 h).2 j hj]
  exact bt_rng s _
theorem chn_str {s : ByteArray} {R : List Int} (h : Chn s 0 R) : strOf (U8 R) = s := by
  obtain ⟨l, g⟩ := chn_bytes R 0 h
  refine eq_of_bt (by rw [strOf_size]; omega) fun k hk => ?_
  rw [strOf_size] at hk
  rw [strOf_bt (chn_rng h) k hk, ← g k hk, Nat.zero_add]
/-- The runes that the law lets by. -/
def Ok (R : List Int) : Prop := ∀ r ∈ R, r ≤ 65535 ∧ r ≠ 92
end Go.Proofs.YtpnhldglcnmhdaaFmt.Aux
