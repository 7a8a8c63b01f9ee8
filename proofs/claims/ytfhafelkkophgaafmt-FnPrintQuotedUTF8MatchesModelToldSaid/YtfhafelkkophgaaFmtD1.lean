/- Contracts of functions that the law of this seat reaches, and plain facts; no condition. -/
import Derived.Test.YtfhafelkkophgaaFmtProg
import Derived.WalkKit
import Derived.ProofKit
import Derived.OpenShut
import Derived.ShutString
import Derived.Test.YtfhafelkkophgaaFmtAid
import Derived.Test.YtfhafelkkophgaaFmtC
import Derived.ArgAppend
import Derived.WalkSpells
import Derived.LoopTactic
import Derived.IntWalk
import Derived.Outline
import Derived.Deep.QuietTactic
import Derived.BigQuiet
import Derived.Deep.RegionHeld3
import Derived.Deep.RegionLaw
import Derived.StillTailTactics
import Derived.OwnWalk
import Derived.RegionTactic
import Derived.Laws.BitsAllLaws
import Derived.Laws.BitsLemmas
import Derived.Lib.ConvBytes
namespace Go.Proofs.YtfhafelkkophgaaFmt.Aux
open Go.ChangeShapes Go.WideShapes Go.ChangeAt Go.RowKit
open Go.ChangeMaps (open_string shut_string)
set_option linter.unusedVariables false
set_option linter.unusedSimpArgs false
open Fl Str Pb Qd PlainAid Aux
theorem hx_dig (d : Int) (h0 : 0 ≤ d) (h1 : d < 16) : (48 ≤ hx d ∧ hx d ≤ 57) ∨ (65 ≤ hx d ∧ hx d ≤ 70) := by
  unfold hx
  split <;> omega
theorem scrB_le (j : Nat) (h : j < 6) : 99 ≤ scrB j ∧ scrB j ≤ 116 := by
  have : ∀ j : Fin 6, 99 ≤ scrB j.val ∧ scrB j.val ≤ 116 := by decide
  exact this ⟨j, h⟩
def good (q b : Int) : Prop := ¬ (b = 0 ∨ b = 7 ∨ b = 8 ∨ b = 11 ∨ b = 12 ∨ b = 13 ∨ b = 27) ∧ (b = 10 → q = 96) ∧ ((q = 34 ∨ q = 39 ∨ q = 96) → b ≠ q)
def validR (r : Int) : Prop := 128 ≤ r ∧ ((r < 55296) ∨ (57343 < r ∧ r ≤ 1114111)) ∧ r ≠ 8232 ∧ r ≠ 8233 ∧ r ≠ 65279
/-- What a strict reader may go through. -/
inductive Sc (n : Nat) (Z : Nat → Int) (q : Int) (ns ao wl : Bool) : List Int → Prop
  | rest {k : Nat} {X : List Int} (h : Aux.Rest n Z q ns ao wl k X) : Sc n Z q ns ao wl X
  | dig {b : Int} {X : List Int} (hb : (48 ≤ b ∧ b ≤ 57) ∨ (65 ≤ b ∧ b ≤ 70)) (h : Sc n Z q ns ao wl X) : Sc n Z q ns ao wl (b :: X)
  | esc {c : Int} {X : List Int} (h0 : 0 ≤ c) (h1 : c < 128) (h : Sc n Z q ns ao wl X) : Sc n Z q ns ao wl (92 :: c :: X)
section
variable {n : Nat} {Z : Nat → Int} {q : Int} {ns ao wl : Bool}
theorem sc_u4 {z : Int} (h0 : 0 ≤ z) (h1 : z ≤ 65535) {X : List Int} (h : Sc n Z q ns ao wl X) : Sc n Z q ns ao wl (hx (z / 4096) :: hx (z / 256 % 16) :: hx (z / 16 % 16) :: hx (z % 16) :: X) :=
  .dig (hx_dig _ (by omega) (by omega)) (.dig (hx_dig _ (by omega) (by omega)) (.dig (hx_dig _ (by omega) (by omega)) (.dig (hx_dig _ (by omega) (by omega)) h)))
variable (n Z q ns ao wl) in
/-- The shapes of a piece. -/
def PSh (k : Nat) : Prop :=
  (∃ c Y, piece n Z q ns ao k = 92 :: c :: Y ∧ 0 ≤ c ∧ c < 128 ∧ ∀ X, Sc n Z q ns ao wl X → Sc n Z q ns ao wl (Y ++ X)) ∨
  (piece n Z q ns ao k = [Z k] ∧ adv n Z k = 1 ∧ 0 ≤ Z k ∧ Z k < 128 ∧ Z k ≠ 92 ∧ good q (Z k) ∧ (Z k = 36 → q = 96 → ¬ (k + 1 < n ∧ Z (k + 1) = 123)) ∧ (Z k = 47 → ¬ scr n Z ns k)) ∨
  (∃ r, piece n Z q ns ao k = Lib.encodeRuneZ r ∧ validR r ∧ ao = false)
theorem psh_e {k : Nat} {c : Int} {Y : List Int} (e : piece n Z q ns ao k = 92 :: c :: Y) (h0 : 0 ≤ c) (h1 : c < 128) (h : ∀ X, Sc n Z q ns ao wl X → Sc n Z q ns ao wl (Y ++ X)) : PSh n Z q ns ao wl k := .inl ⟨c, Y, e, h0, h1, h⟩
theorem psh (hZ : ∀ i, i < n → 0 ≤ Z i ∧ Z i ≤ 65535) {k : Nat} (hk : k < n) : PSh n Z q ns ao wl k := by
  obtain ⟨hz0, hz1⟩ := hZ k hk
  have D : ∀ b : Int, (48 ≤ b ∧ b ≤ 57) ∨ (65 ≤ b ∧ b ≤ 70) → ∀ X, Sc n Z q ns ao wl X → Sc n Z q ns ao wl (b :: X) := fun b hb X h => .dig hb h
  generalize hz : Z k = z at hz0 hz1
  have small : ∀ v : Int, z = v → v < 55296 → adv n Z k = 1 := fun v e hv => by
    unfold adv
    rw [if_neg (fun h => by have := h.1; omega)]
  have lit : ∀ v : Int, z = v → piece n Z q ns ao k = [v] → v < 128 → v ≠ 92 → good q v → (v = 36 → q = 96 → ¬ (k + 1 < n ∧ Z (k + 1) = 123)) → (v = 47 → ¬ scr n Z ns k) → PSh n Z q ns ao wl k := fun v e hp h1 h2 h3 h4 h5 =>
    .inr (.inl ⟨by rw [hz, e]; exact hp, small v e (by omega), by rw [hz]; exact hz0, by rw [hz, e]; exact h1, by rw [hz, e]; exact h2, by rw [hz, e]; exact h3, by rw [hz, e]; exact h4, by rw [hz, e]; exact h5⟩)
  by_cases e0 : z = 0
  · by_cases c : k + 1 < n ∧ 48 ≤ Z (k + 1) ∧ Z (k + 1) ≤ 57
    · exact psh_e (c := 120) (Y := [48, 48]) (by simp [piece, hz, e0, c]) (by decide) (by decide) (fun X h => D _ (by decide) _ (D _ (by decide) _ h))
    · exact psh_e (c := 48) (Y := []) (by simp only [piece, hz, e0, if_pos, if_neg c]) (by decide) (by decide) (fun X h => h)
  by_cases e7 : z = 7
  · exact psh_e (c := 120) (Y := [48, 55]) (by simp [piece, hz, e7]) (by decide) (by decide) (fun X h => D _ (by decide) _ (D _ (by decide) _ h))
  by_cases e8 : z = 8
  · exact psh_e (c := 98) (Y := []) (by simp [piece, hz, e8]) (by decide) (by decide) (fun X h => h)
  by_cases e12 : z = 12
  · exact psh_e (c := 102) (Y := []) (by simp [piece, hz, e12]) (by decide) (by decide) (fun X h => h)
  by_cases e10 : z = 10
  · by_cases hq : q = 96
    · exact lit 10 e10 (by simp [piece, hz, e10, hq]) (by decide) (by decide) ⟨by decide, fun _ => hq, fun _ => by rw [hq]; decide⟩ (fun h => by simp at h) (fun h => by simp at h)
    · exact psh_e (c := 110) (Y := []) (by simp [piece, hz, e10, hq]) (by decide) (by decide) (fun X h => h)
  by_cases e13 : z = 13
  · exact psh_e (c := 114) (Y := []) (by simp [piece, hz, e13]) (by decide) (by decide) (fun X h => h)
  by_cases e11 : z = 11
  · exact psh_e (c := 118) (Y := []) (by simp [piece, hz, e11]) (by decide) (by decide) (fun X h => h)
  by_cases e27 : z = 27
  · exact psh_e (c := 120) (Y := [49, 66]) (by simp [piece, hz, e27]) (by decide) (by decide) (fun X h => D _ (by decide) _ (D _ (by decide) _ h))
  by_cases e92 : z = 92
  · exact psh_e (c := 92) (Y := []) (by simp [piece, hz, e92]) (by decide) (by decide) (fun X h => h)
  by_cases e47 : z = 47
  · by_cases hs : scr n Z ns k
    · exact psh_e (c := 47) (Y := []) (by simp [piece, hz, e47, hs]) (by decide) (by decide) (fun X h => h)
    · exact lit 47 e47 (by simp [piece, hz, e47, hs]) (by decide) (by decide) ⟨by decide, fun h => by simp at h, fun h => by omega⟩ (fun h => by simp at h) (fun _ => hs)
  by_cases e39 : z = 39
  · by_cases hq : q = 39
    · exact psh_e (c := 39) (Y := []) (by simp [piece, hz, e39, hq]) (by decide) (by decide) (fun X h => h)
    · exact lit 39 e39 (by simp [piece, hz, e39, hq]) (by decide) (by decide) ⟨by decide, fun h => by simp at h, fun h => by omega⟩ (fun h => by simp at h) (fun h => by simp at h)
  by_cases e34 : z = 34
  · by_cases hq : q = 34
    · exact psh_e (c := 34) (Y := []) (by simp [piece, hz, e34, hq]) (by decide) (by decide) (fun X h => h)
    · exact lit 34 e34 (by simp [piece, hz, e34, hq]) (by decide) (by decide) ⟨by decide, fun h => by simp at h, fun h => by omega⟩ (fun h => by simp at h) (fun h => by simp at h)
  by_cases e96 : z = 96
  · by_cases hq : q = 96
    · exact psh_e (c := 96) (Y := []) (by simp [piece, hz, e96, hq]) (by decide) (by decide) (fun X h => h)
    · exact lit 96 e96 (by simp [piece, hz, e96, hq]) (by decide) (by decide) ⟨by decide, fun h => by simp at h, fun h => by omega⟩ (fun h => by simp at h) (fun h => by simp at h)
  by_cases e36 : z = 36
  · by_cases c : q = 96 ∧ k + 1 < n ∧ Z (k + 1) = 123
    · exact psh_e (c := 36) (Y := []) (by simp [piece, hz, e36, c]) (by decide) (by decide) (fun X h => h)
    · exact lit 36 e36 (by have : piece n Z q ns ao k = if q = 96 ∧ k + 1 < n ∧ Z (k + 1) = 123 then [92, 36] else [36] := by simp [piece, hz, e36]
                           rw [this, if_neg c]) (by decide) (by decide) ⟨by decide, fun h => by simp at h, fun h => by omega⟩ (fun _ hq h => c ⟨hq, h⟩) (fun h => by simp at h)
  by_cases e8232 : z = 8232
  · exact psh_e (c := 117) (Y := [50, 48, 50, 56]) (by simp [piece, hz, e8232]) (by decide) (by decide) (fun X h => D _ (by decide) _ (D _ (by decide) _ (D _ (by decide) _ (D _ (by decide) _ h))))
  by_cases e8233 : z = 8233
  · exact psh_e (c := 117) (Y := [50, 48, 50, 57]) (by simp [piece, hz, e8233]) (by decide) (by decide) (fun X h => D _ (by decide) _ (D _ (by decide) _ (D _ (by decide) _ (D _ (by decide) _ h))))
  by_cases e65279 : z = 65279
  · exact psh_e (c := 117) (Y := [70, 69, 70, 70]) (by simp [piece, hz, e65279]) (by decide) (by decide) (fun X h => D _ (by decide) _ (D _ (by decide) _ (D _ (by decide) _ (D _ (by decide) _ h))))
  have hd : piece n Z q ns ao k = dflt n Z ao k z := by simp only [piece, hz, e0, e7, e8, e12, e10, e13, e11, e27, e92, e47, e39, e34, e96, e36, e8232, e8233, e65279, if_false]
  have hu : ∀ v : Int, 0 ≤ v → v ≤ 65535 → piece n Z q ns ao k = u4 v → PSh n Z q ns ao wl k := fun v v0 v1 e => psh_e (c := 117) e (by decide) (by decide) (fun X h => by simpa using sc_u4 v0 v1 h)
  by_cases g0 : z ≤ 126
  · exact lit z rfl (hd.trans (by simp [dflt, g0])) (by omega) e92 ⟨by omega, fun h => absurd h e10, fun h => by omega⟩ (fun h => absurd h e36) (fun h => absurd h e47)
  by_cases g1 : 55296 ≤ z ∧ z ≤ 56319
  · by_cases hl : lowAt n Z k
    · obtain ⟨l1, l2, l3⟩ := hl
      have hl : lowAt n Z k := ⟨l1, l2, l3⟩
      cases ao
      · refine .inr (.inr ⟨z * 1024 + Z (k + 1) + -56613888, hd.trans (by simp [dflt, g0, g1, hl]), ⟨by omega, by omega, by omega, by omega, by omega⟩, rfl⟩)
      · refine psh_e (c := 117) (Y := hx (z / 4096) :: hx (z / 256 % 16) :: hx (z / 16 % 16) :: hx (z % 16) :: u4 (Z (k + 1))) (hd.trans (by simp [dflt, g0, g1, hl]; rfl)) (by decide) (by decide) (fun X h => ?_)
        have := sc_u4 (n := n) (Z := Z) (q := q) (ns := ns) (ao := true) (wl := wl) hz0 hz1 (.esc (c := 117) (by decide) (by decide) (sc_u4 (z := Z (k + 1)) (by omega) (by omega) h))
        simpa [u4] using this
    · exact hu z hz0 hz1 (hd.trans (by simp [dflt, g0, g1, hl]))
  by_cases g2 : (56320 ≤ z ∧ z ≤ 57343) ∨ (ao = true ∧ 255 < z)
  · exact hu z hz0 hz1 (hd.trans (by simp only [dflt, g0, g1, g2, if_false, if_true]))
  have g3 : ¬ (56320 ≤ z ∧ z ≤ 57343) := fun h => g2 (.inl h)
  cases ao
  · have hp : piece n Z q ns false k = Lib.encodeRuneZ z := hd.trans (by simp only [dflt, g0, g1, g2, if_false]; simp)
    by_cases g4 : z = 127
    · subst g4
      exact lit 127 rfl (hp.trans (by decide)) (by decide) (by decide) ⟨by decide, fun h => by simp at h, fun h => by omega⟩ (fun h => by simp at h) (fun h => by simp at h)
    · exact .inr (.inr ⟨z, hp, ⟨by omega, by omega, e8232, e8233, e65279⟩, rfl⟩)
  · have g5 : z ≤ 255 := by
      by_cases h : 255 < z
      · exact absurd (.inr ⟨rfl, h⟩) g2
      · omega
    refine psh_e (c := 120) (Y := [hx (z / 16), hx (z % 16)]) (hd.trans (by simp [dflt, g0, g1, g3, Int.not_lt.mpr g5, x2])) (by decide) (by decide) (fun X h => ?_)
    exact .dig (hx_dig _ (by omega) (by omega)) (.dig (hx_dig _ (by omega) (by omega)) h)
theorem enc_head {r : Int} (h : validR r) : ∃ b T, Lib.encodeRuneZ r = b :: T ∧ 128 ≤ b := by
  obtain ⟨h1, h2, -⟩ := h
  by_cases a : r ≤ 2047
  · exact ⟨_, _, Lib.encodeRuneZ_two h1 a, by omega⟩
  by_cases c : r ≤ 65535
  · exact ⟨_, _, Lib.encodeRuneZ_three (by omega), by omega⟩
  · exact ⟨_, _, Lib.encodeRuneZ_four (by omega) (by omega), by omega⟩
/-- A plain byte that comes next is its unit. -/
theorem restL (hZ : ∀ i, i < n → 0 ≤ Z i ∧ Z i ≤ 65535) {k : Nat} {b : Int} {T : List Int} (h : Aux.Rest n Z q ns ao wl k (b :: T)) (hb : b < 128) (h92 : b ≠ 92) :
    k < n ∧ Z k = b ∧ 0 ≤ b ∧ good q b ∧ (b = 36 → q = 96 → ¬ (k + 1 < n ∧ Z (k + 1) = 123)) ∧ (b = 47 → ¬ scr n Z ns k) ∧ Aux.Rest n Z q ns ao wl (k + 1) T := by
  generalize hl : b :: T = l at h
  cases h with
  | nil => cases hl
  | step hk h =>
    rcases psh (q := q) (ns := ns) (ao := ao) (wl := wl) hZ hk with ⟨c, Y, e, _⟩ | ⟨e, ea, a0, a1, a2, a3, a4, a5⟩ | ⟨r, e, hr, _⟩
    · rw [e] at hl
      injection hl with hl _
      exact absurd hl h92
    · rw [e] at hl
      injection hl with h1 h2
      rw [ea] at h
      subst h1
      exact ⟨hk, rfl, a0, a3, a4, a5, by rw [h2]; exact h⟩
    · obtain ⟨b', T', e2, hb'⟩ := enc_head hr
      rw [e, e2] at hl
      injection hl with h1 _
      omega
  | wrap hk hw h =>
    injection hl with hl _
    exact absurd hl h92
variable (n Z q ns ao wl) in
def Scr (T : List Int) : Prop := T[0]? = some 47 ∧ ∀ j, j < 6 → ∃ x, T[j + 1]? = some x ∧ low x = scrB j
theorem no_scr (hZ : ∀ i, i < n → 0 ≤ Z i ∧ Z i ≤ 65535) {k : Nat} {T : List Int} (h : Aux.Rest n Z q ns ao wl (k + 1) T) (h60 : Z k = 60) (hns : ns = false) : ¬ Scr T := by
  intro ⟨h0, hs⟩
  cases T with
  | nil => cases h0
  | cons b T =>
    have hb : b = 47 := by simpa using h0
    subst hb
    obtain ⟨hk, hz, _, _, _, hno, hr⟩ := restL hZ h (by decide) (by decide)
    have H : ∀ j, j ≤ 6 → Aux.Rest n Z q ns ao wl (k + 2 + j) (T.drop j) ∧ ∀ i, i < j → k + 2 + i < n ∧ low (Z (k + 2 + i)) = scrB i := by
      intro j
      induction j with
      | zero => exact fun _ => ⟨hr, fun i hi => absurd hi (Nat.not_lt_zero _)⟩
      | succ j ih =>
        intro hj
        obtain ⟨ih1, ih2⟩ := ih (by omega)
        obtain ⟨x, hx1, hx2⟩ := hs j (by omega)
        have hx1 : T[j]? = some x := by simpa using hx1
        have hlt : j < T.length := (List.getElem?_eq_some_iff.1 hx1).1
        have hd : T.drop j = x :: T.drop (j + 1) := by
          rw [List.drop_eq_getElem_cons hlt]
          rw [List.getElem?_eq_getElem hlt] at hx1
          injection hx1 with hx1
          rw [hx1]
        rw [hd] at ih1
        have hsb := scrB_le j (by omega)
        rw [← hx2] at hsb
        have hxb : x < 128 ∧ x ≠ 92 := by
          unfold low at hsb
          split at hsb <;> omega
        obtain ⟨q1, q2, _, _, _, _, q7⟩ := restL hZ ih1 hxb.1 hxb.2
        refine ⟨q7, fun i hi => ?_⟩
        by_cases hij : i = j
        · subst hij
          exact ⟨q1, by rw [q2]; exact hx2⟩
        · exact ih2 i (by omega)
    refine hno rfl ⟨hns, by omega, ?_, ?_, fun j hj => ?_⟩
    · exact h60
    · have := ((H 6 (Nat.le_refl _)).2 5 (by omega)).1
      omega
    · have := ((H 6 (Nat.le_refl _)).2 j hj).2
      exact this
variable (n Z q ns ao wl) in
/-- What the reader finds. -/
def Stp (b : Int) (T : List Int) : Prop :=
  (b = 92 ∧ ∃ c T', T = c :: T' ∧ 0 ≤ c ∧ c < 128 ∧ Sc n Z q ns ao wl T') ∨
  (0 ≤ b ∧ b < 128 ∧ b ≠ 92 ∧ good q b ∧ Sc n Z q ns ao wl T ∧ (b = 36 → q = 96 → ∀ T', T ≠ 123 :: T') ∧ (b = 60 → ns = false → ¬ Scr T)) ∨
  (∃ r X, b :: T = Lib.encodeRuneZ r ++ X ∧ validR r ∧ ao = false ∧ Sc n Z q ns ao wl X)
theorem sc_step (hZ : ∀ i, i < n → 0 ≤ Z i ∧ Z i ≤ 65535) {b : Int} {T : List Int} (h : Sc n Z q ns ao wl (b :: T)) : Stp n Z q ns ao wl b T := by
  generalize hl : b :: T = l at h
  cases h with
  | dig hb h =>
    injection hl with h1 h2
    subst h1; subst h2
    exact .inr (.inl ⟨by omega, by omega, by omega, ⟨by omega, by omega, by omega⟩, h, by omega, by omega⟩)
  | esc h0 h1 h =>
    injection hl with e1 e2
    subst e1
    exact .inl ⟨rfl, _, _, e2, h0, h1, h⟩
  | rest h =>
    cases h with
    | nil => cases hl
    | step hk h =>
      rename_i k X
      rcases psh (q := q) (ns := ns) (ao := ao) (wl := wl) hZ hk with ⟨c, Y, e, c0, c1, hY⟩ | ⟨e, ea, a0, a1, a2, a3, a4, a5⟩ | ⟨r, e, hr, hao⟩
      · rw [e] at hl
        injection hl with e1 e2
        exact .inl ⟨e1, c, Y ++ X, e2, c0, c1, hY X (.rest h)⟩
      · rw [e] at hl
        injection hl with e1 e2
        rw [ea] at h
        subst e1
        have e2 : T = X := e2
        subst e2
        refine .inr (.inl ⟨a0, a1, a2, a3, .rest h, fun h36 hq T' e => ?_, fun h60 hns => no_scr hZ h h60 hns⟩)
        subst e
        obtain ⟨q1, q2, _⟩ := restL hZ h (by decide) (by decide)
        exact a4 h36 hq ⟨q1, q2⟩
      · exact .inr (.inr ⟨r, X, by rw [← e]; exact hl, hr, hao, .rest h⟩)
    | wrap hk hw h =>
      injection hl with e1 e2
      exact .inl ⟨e1, 10, _, e2, by decide, by decide, .rest (.step hk h)⟩
end
end Go.Proofs.YtfhafelkkophgaaFmt.Aux
