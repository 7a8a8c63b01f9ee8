/- Contracts of functions that the law of this seat reaches, and plain facts; no condition. -/
import Derived.Test.YtfhafelkkophgaaFmtProg
import Derived.WalkKit
import Derived.ProofKit
import Derived.OpenShut
import Derived.ShutString
import Derived.Test.YtfhafelkkophgaaFmtAid
import Derived.Test.YtfhafelkkophgaaFmtE
import Derived.Test.YtfhafelkkophgaaFmtF
import Derived.ArgAppend
import Derived.WalkSmall
import Derived.WalkSpells
import Derived.LoopTactic
import Derived.IntWalk
import Derived.Outline
import Derived.Deep.QuietTactic
import Derived.BigQuiet
import Derived.Deep.RegionHeld3
import Derived.Deep.RegionLaw
import Derived.StillTailTactics
import Derived.OwnWalk
import Derived.RegionTactic
import Derived.Laws.BitsAllLaws
import Derived.Laws.BitsLemmas
import Derived.Laws.IdiomStrings
import Derived.Lib.BufferRead
import Derived.Lib.ConvBytes
namespace Go.Proofs.YtfhafelkkophgaaFmt.Aux
open Go.ChangeShapes Go.WideShapes Go.ChangeAt Go.RowKit
open Go.ChangeMaps (open_string shut_string)
set_option linter.unusedVariables false
set_option linter.unusedSimpArgs false
open Fl Str Pb Qd PlainAid Aux
theorem cop_own {w w' : World} {a' : Option Addr} {n cap' : Nat} {V : Nat → Value} (hm : n ≤ maxLen) (hF : Fsl w' a' n V) (hd : a' = none ∧ cap' = 0 ∨ ∃ b, w.heap.size ≤ b ∧ a' = some ⟨b, 0, none⟩ ∧ Fblk w' b 5 n V ∧ cap' = n) : OwnG w' w.heap.size (.slice a' n cap') n ((List.range n).map V) := by
  refine ⟨by simp, ?_⟩
  rcases hd with ⟨rfl, rfl⟩ | ⟨b, hb, rfl, hk, e⟩
  · have := hF.none_
    subst this
    exact .inl ⟨rfl, rfl⟩
  · subst e
    exact .inr ⟨b, _, _, (0, 0), rfl, hb, hk, .inl (Nat.zero_le _), Nat.le_refl _, hm, by simp, List.take_of_length_le (by simp)⟩
/-- The text of a run, as the law looks at it. -/
def RunQ (w : World) (B pn : Nat) (Y : Nat → Int) (n : Nat) (Z : Nat → Int) (q : Int) (ns ao : Bool) (e : Ending) (w' : World) : Prop :=
  ∃ ja jc P wl, e = .returned (.slice ja (pn + P.length) jc) ∧ Hid (Fsl w' ja pn (fun i => .int .u8 (Y i))) ∧ Hid ((ja = none ∧ jc = 0 ∧ pn = 0 ∧ P = []) ∨ ∃ g, ja = some ⟨g, 0, none⟩ ∧ ∀ j, (hj : j < P.length) → w'.cell? ⟨g, pn + j, none⟩ = some (.int .u8 P[j])) ∧ pn + P.length ≤ jc ∧ jc ≤ maxLen ∧ Hid (Sc n Z q ns ao wl P) ∧ P.length ≤ 12 * n ∧ Hid (Below B w w')
theorem RunP.q {w w' : World} {B pn n : Nat} {Y Z : Nat → Int} {q : Int} {ns ao : Bool} {e : Ending} (h : RunP w B ((List.range pn).map fun i => .int .u8 (Y i)) n Z q ns ao e w') : RunQ w B pn Y n Z q ns ao e w' := by
  obtain ⟨ja, jn, jc, P, wl, rfl, own, hR, hl, bel⟩ := h
  have hln : ((List.range pn).map (fun i => Value.int .u8 (Y i)) ++ P.map (fun x => Value.int .u8 x)).length = pn + P.length := by simp
  have hF := own_fsl (m := pn) (V := fun i => .int .u8 (Y i)) own (by omega) (fun i hi => by rw [List.getElem?_append_left (by simpa using hi)]; simp [hi])
  have hC : ∀ g, (Value.slice ja jn jc).ownBlock = some g → ∀ j, (hj : j < P.length) → w'.cell? ((⟨g, 0, none⟩ : Addr).add (pn + j)) = some (.int .u8 P[j]) := fun g hg j hj => own.cells hg _ _ (by rw [List.getElem?_append_right (by simp)]; simp [hj])
  obtain ⟨_, ho⟩ := own
  rcases ho with ⟨e, e2⟩ | ⟨g, cap, cur, fz, e, _, _, _, h1, h2, _⟩
  · injection e with e1 e3 e4
    subst e1; subst e3; subst e4
    have hp : pn = 0 := by omega
    have hp2 : P = [] := List.length_eq_zero_iff.1 (by omega)
    subst hp; subst hp2
    exact ⟨none, 0, [], wl, rfl, Lib.hid hF, Lib.hid (.inl ⟨rfl, rfl, rfl, rfl⟩), Nat.le_refl _, Nat.zero_le _, Lib.hid (.rest hR), hl, Lib.hid bel⟩
  · injection e with e1 e3 e4
    subst e1; subst e4
    rw [hln] at e3 h1
    subst e3
    refine ⟨_, _, P, wl, rfl, Lib.hid hF, Lib.hid (.inr ⟨g, rfl, fun j hj => ?_⟩), h1, h2, Lib.hid (.rest hR), hl, Lib.hid bel⟩
    have := hC g rfl j hj
    have e : (⟨g, 0, none⟩ : Addr).add (pn + j) = ⟨g, 0 + (pn + j), none⟩ := by unfold Addr.add; split <;> simp_all
    rw [e, Nat.zero_add] at this
    exact this
def Fin4 (w : World) (e : Ending) (w' : World) : Prop := e = .returned (.bool true) ∧ Below w.heap.size w w'
theorem cv0 {ja : Option Addr} {P : List Int} (h : P = []) (c : Nat) (w : World) : (convert 25 9 (.slice ja P.length c)).run Tryf.prog w = .ok (.string (strOf P)) w := by
  subst h
  cases ja with
  | none => exact conv_nil c w
  | some x => exact conv_run (P := []) (fun x hx => by cases hx) (fun j hj => absurd hj (Nat.not_lt_zero _))
theorem cv1 {w3 : World} {ja : Option Addr} {jc pn q : Nat} {P : List Int} (hP : ∀ x ∈ P, 0 ≤ x ∧ x ≤ 255) (hD : (ja = none ∧ jc = 0 ∧ pn = 0 ∧ P = []) ∨ ∃ g, ja = some ⟨g, 0, none⟩ ∧ ∀ j, (hj : j < P.length) → w3.cell? ⟨g, pn + j, none⟩ = some (.int .u8 P[j])) :
    (convert 25 9 (.slice (Option.map (fun x => x.add pn) ja) P.length (jc - pn))).run Tryf.prog (w3.drewN q) = .ok (.string (strOf P)) (w3.drewN q) := by
  rcases hD with ⟨rfl, rfl, rfl, rfl⟩ | ⟨g, rfl, hc⟩
  · exact conv_nil _ _
  · refine conv_run hP fun j hj => ?_
    have := hc j hj
    have e : ((⟨g, 0, none⟩ : Addr).add pn).add j = ⟨g, pn + j, none⟩ := by unfold Addr.add; repeat' split
                                                                            all_goals simp_all
    rw [e]
    exact this
/-- What the reader meets at k. -/
def Rdr (P : List Int) (n : Nat) (Z : Nat → Int) (q : Int) (ns ao wl : Bool) (s : ByteArray) (k : Nat) : Prop :=
  (bt s k = 92 ∧ k + 1 < s.size ∧ 0 ≤ bt s (k + 1) ∧ bt s (k + 1) < 128 ∧ Hid (Sc n Z q ns ao wl (P.drop (k + 2)))) ∨
  (0 ≤ bt s k ∧ bt s k < 128 ∧ bt s k ≠ 92 ∧ good q (bt s k) ∧ Hid (Sc n Z q ns ao wl (P.drop (k + 1))) ∧ (bt s k = 36 → q = 96 → ¬ (k + 1 < s.size ∧ bt s (k + 1) = 123)) ∧ (bt s k = 60 → ns = false → k + 8 ≤ s.size → bt s (k + 1) = 47 → ¬ ∀ j, j < 6 → low (bt s (k + 2 + j)) = scrB j)) ∨
  (128 ≤ bt s k ∧ ∃ r m, validR r ∧ ao = false ∧ Hid (Sc n Z q ns ao wl (P.drop (k + m))) ∧ 1 ≤ m ∧ k + m ≤ s.size ∧ Hid (∀ w, Calls Tryf.prog 14 #[.string s, .int .i64 (k : Int)] w (DecT w r m)))
theorem rdr {P : List Int} {n : Nat} {Z : Nat → Int} {q : Int} {ns ao wl : Bool} (hZ : ∀ i, i < n → 0 ≤ Z i ∧ Z i ≤ 65535) (hP : ∀ x ∈ P, 0 ≤ x ∧ x ≤ 255) (hs : P.length ≤ 16777216) {k : Nat} (hk : k < P.length) (h : Sc n Z q ns ao wl (P.drop k)) : Rdr P n Z q ns ao wl (strOf P) k := by
  have hsz := strOf_size P
  have hd : P.drop k = P[k] :: P.drop (k + 1) := List.drop_eq_getElem_cons hk
  have hB : ∀ i, (hi : i < P.length) → bt (strOf P) i = P[i] := fun i hi => strOf_bt hP i hi
  have hb := hB k hk
  have hdd : ∀ i, (P.drop (k + 1))[i]? = P[k + 1 + i]? := fun i => by rw [List.getElem?_drop]
  rw [hd] at h
  rcases sc_step hZ h with ⟨h92, c, T', e, c0, c1, hT⟩ | ⟨b0, b1, b2, b3, hT, h36, h60⟩ | ⟨r, X, e, hr, hao, hX⟩
  · have h1 : k + 1 < P.length := by
      have := congrArg List.length e
      simp at this
      omega
    have e2 : P.drop (k + 1) = P[k + 1] :: P.drop (k + 2) := List.drop_eq_getElem_cons h1
    rw [e2] at e
    injection e with e3 e4
    refine .inl ⟨hb.trans h92, by omega, by rw [hB _ h1, e3]; exact c0, by rw [hB _ h1, e3]; exact c1, Lib.hid (by rw [e4]; exact hT)⟩
  · refine .inr (.inl ⟨by omega, by omega, by omega, by rw [hb]; exact b3, Lib.hid hT, fun he hq ⟨hl, h123⟩ => ?_, fun he hns hl h47 hsc => ?_⟩)
    · have h1 : k + 1 < P.length := by omega
      have e2 : P.drop (k + 1) = P[k + 1] :: P.drop (k + 2) := List.drop_eq_getElem_cons h1
      rw [hB _ h1] at h123
      refine h36 (hb.symm.trans he) hq (P.drop (k + 2)) ?_
      rw [e2, h123]
    · refine h60 (hb.symm.trans he) hns ⟨?_, fun j hj => ?_⟩
      · have h1 : k + 1 < P.length := by omega
        rw [hdd, Nat.add_zero, List.getElem?_eq_getElem h1, ← hB _ h1, h47]
      · have h1 : k + 2 + j < P.length := by omega
        refine ⟨P[k + 2 + j], ?_, ?_⟩
        · rw [hdd, show k + 1 + (j + 1) = k + 2 + j by omega, List.getElem?_eq_getElem h1]
        · rw [← hB _ h1]; exact hsc j hj
  · have h128 : 128 ≤ P[k] := by
      obtain ⟨b, T, e2, hb2⟩ := enc_head hr
      rw [e2] at e
      injection e with e3 _
      omega
    have hl := congrArg List.length e
    have hl2 := Lib.encodeRuneZ_length r
    simp at hl
    refine .inr (.inr ⟨by omega, r, (Lib.encodeRuneZ r).length, hr, hao, Lib.hid ?_, hl2.1, by omega, Lib.hid fun w => decG hP hs (by rw [hd]; exact e) hr w⟩)
    have : P.drop (k + (Lib.encodeRuneZ r).length) = X := by
      rw [← List.drop_drop, hd, e, List.drop_left]
    rw [this]
    exact hX
end Go.Proofs.YtfhafelkkophgaaFmt.Aux
