/- Contracts of functions that the law of this seat reaches, and plain facts; no condition. -/
import Derived.Test.YtpnhldglcnmhdaaFmtProg
import Derived.WalkKit
import Derived.ProofKit
import Derived.OpenShut
import Derived.ShutString
import Derived.Test.YtpnhldglcnmhdaaFmtAid
import Derived.Test.YtpnhldglcnmhdaaFmtFl
import Derived.Test.YtpnhldglcnmhdaaFmtG
import Derived.Test.YtpnhldglcnmhdaaFmtStr
import Derived.Test.YtpnhldglcnmhdaaFmtPb
import Derived.Test.YtpnhldglcnmhdaaFmtQd
import Derived.ArgAppend
import Derived.WalkSmall
import Derived.Lib.OthersKept
import Derived.Laws.RangeAny
import Derived.Laws.OwnMore
import Derived.WalkSpells
import Derived.LoopTactic
import Derived.IntWalk
import Derived.Outline
import Derived.Deep.QuietTactic
import Derived.BigQuiet
import Derived.Deep.RegionHeld3
import Derived.Deep.RegionLaw
import Derived.StillTailTactics
import Derived.OwnWalk
import Derived.RegionTactic
import Derived.Laws.BitsAllLaws
import Derived.Laws.BitsLemmas
import Derived.Lib.ConvBytes
import Derived.Lib.RuneBytes
import Derived.Maps.Own
import Derived.Laws.IdiomStrings
import Derived.Laws.BytesArg
namespace Go.Proofs.YtpnhldglcnmhdaaFmt.Aux
open Go.ChangeShapes Go.WideShapes Go.ChangeAt Go.RowKit
open Go.ChangeMaps (open_string shut_string)
set_option linter.unusedVariables false
set_option linter.unusedSimpArgs false
open Fl Str Pb Qd PlainAid Aux
theorem ow_at {w : World} {B n c : Nat} {a : Option Addr} {L : List Int} (h : OW w B (.slice a n c) L) : n = L.length ∧ ∀ i, i < L.length → ∃ g, a = some ⟨g, 0, none⟩ ∧ g < w.heap.size ∧ B ≤ g ∧ w.cell? ⟨g, i, none⟩ = some (.int .u8 (L.getD i 0)) := by
  obtain ⟨a', c', e⟩ := ow_slice h
  injection e with e1 e2 e3
  refine ⟨e2, fun i hi => ?_⟩
  have hlt := fun k hk => World.ownsRow.lt h k hk
  rcases h.2 with ⟨e, h0⟩ | ⟨g, cap, cur, e, hb, hg, _⟩
  · omega
  · injection e with f1 f2 f3
    subst f1
    have := World.ownsRow.cells h (g := g) rfl i (.int .u8 (L.getD i 0)) (by simp [List.getD, hi])
    have e : (⟨g, 0, none⟩ : Addr).add i = ⟨g, i, none⟩ := by unfold Addr.add; simp; try omega
    rw [e] at this
    exact ⟨g, rfl, (Array.getElem?_eq_some_iff.1 hg).1, hb, this⟩
theorem conv28 {s : ByteArray} {R : List Int} (hR : Chn s 0 R) {w : World} {B n c : Nat} {a : Option Addr} (h : OW w B (.slice a n c) (U8 R)) : (convert 28 9 (.slice a n c)).run Tryf.prog w = .ok (.string s) w := by
  obtain ⟨e, hc⟩ := ow_at h
  have hs := chn_str hR
  have hr := chn_rng hR
  rcases a with _ | x
  · have h0 : U8 R = [] := by
      rcases Nat.eq_zero_or_pos (U8 R).length with h0 | h0
      · exact List.eq_nil_of_length_eq_zero h0
      · obtain ⟨g, e, _⟩ := hc 0 h0
        cases e
    rw [run_convert_bytes_nil w 28 5 Tryf.underlying28 Tryf.underlying5 n c 9 Tryf.underlying9, ← hs, h0]
    rfl
  · have := run_convert_bytes_back (P := Tryf.prog) w 28 9 5 x c ((U8 R).map fun x => x.toNat.toUInt8) Tryf.underlying28 Tryf.underlying5 Tryf.underlying9 (fun j hj => by
      have hj' : j < (U8 R).length := by simpa using hj
      obtain ⟨g, e, _, _, hcj⟩ := hc j hj'
      cases e
      have e : (⟨g, 0, none⟩ : Addr).add j = ⟨g, j, none⟩ := by unfold Addr.add; simp; try omega
      rw [e, hcj]
      have hb := hr (U8 R)[j] (List.getElem_mem hj')
      simp only [List.getElem_map]
      rw [u8_of_int _ hb.1 hb.2]
      simp only [List.getD, List.getElem?_eq_getElem hj', Option.getD_some]
      congr 2
      omega)
    rw [List.length_map, ← e] at this
    rw [this, ← hs]
    rfl
theorem er_at (Rd R' : List Int) (r : Int) (t : Nat) (h : t < (E r).length) : (ER (Rd ++ r :: R')).getD ((ER Rd).length + t) 0 = (E r).getD t 0 := by
  rw [ER_app]
  simp only [ER, List.getD]
  rw [List.getElem?_append_right (by omega), Nat.add_sub_cancel_left, List.getElem?_append_left h]
theorem er_len (Rd R' : List Int) (r : Int) : (ER (Rd ++ r :: R')).length = (ER Rd).length + (E r).length + (ER R').length := by
  rw [ER_app]
  simp only [ER, List.length_append]
  omega
/-- The digits of a rune, and what they make. -/
def dg (r : Int) (t : Nat) : Int := if t = 0 then r / 4096 else if t = 1 then r / 256 % 16 else if t = 2 then r / 16 % 16 else r % 16
def cv (r : Int) (t : Nat) : Int := if t = 0 then 0 else if t = 1 then r / 4096 else if t = 2 then r / 256 else if t = 3 then r / 16 else r
theorem dg_rng (r : Int) (h0 : 0 ≤ r) (h1 : r ≤ 65535) (t : Nat) : 0 ≤ dg r t ∧ dg r t ≤ 15 := by unfold dg; split <;> (try split) <;> (try split) <;> omega
theorem cv_rng (r : Int) (h0 : 0 ≤ r) (h1 : r ≤ 65535) (t : Nat) (ht : t < 4) : 0 ≤ cv r t ∧ cv r t ≤ 4095 := by
  rcases (by omega : t = 0 ∨ t = 1 ∨ t = 2 ∨ t = 3) with rfl | rfl | rfl | rfl <;> simp [cv] <;> omega
theorem cv_step (r : Int) (h0 : 0 ≤ r) (h1 : r ≤ 65535) (t : Nat) (ht : t < 4) : cv r (t + 1) = cv r t * 16 + dg r t := by
  rcases (by omega : t = 0 ∨ t = 1 ∨ t = 2 ∨ t = 3) with rfl | rfl | rfl | rfl <;> simp [cv, dg] <;> omega
theorem e_dig (r : Int) (h : ¬ (32 ≤ r ∧ r ≤ 126)) (t : Nat) (ht : t < 4) : (E r).getD (2 + t) 0 = hx (dg r t) := by
  rw [E_esc h]
  rcases (by omega : t = 0 ∨ t = 1 ∨ t = 2 ∨ t = 3) with rfl | rfl | rfl | rfl <;> rfl
/-- Where the reader of the escapes stands. -/
def QB (w2 : World) (R : List Int) (j : Nat) (v : Value) (wr : World) (Rd Rt : List Int) : Prop := R = Rd ++ Rt ∧ j = (ER Rd).length ∧ OW wr w2.heap.size v (U8 Rd) ∧ Below w2.heap.size w2 wr ∧ (U8 Rd).length ≤ 4 * (ER Rd).length
theorem enc_len (r : Int) : (Lib.encodeRuneZ r).length ≤ 4 := (Lib.encodeRuneZ_length r).2
theorem qb_ap {w2 wr w' : World} {R Rd R' : List Int} {r : Int} {j k : Nat} {v v' : Value} (h : QB w2 R j v wr Rd (r :: R')) (ha : AP wr w2.heap.size v (U8 Rd ++ Lib.encodeRuneZ r) v' w') (hk : (E r).length = k) : QB w2 R (j + k) v' w' (Rd ++ [r]) R' := by
  obtain ⟨h1, h2, h3, h4, h5⟩ := h
  have he := enc_len r
  have hl := E_len r
  refine ⟨by rw [h1]; simp, by rw [ER_app]; simp [ER]; omega, by rw [U8_app]; simpa [U8] using ha.1, ?_, by rw [U8_app, ER_app]; simp [U8, ER]; omega⟩
  have hv := fun k hk => (World.ownsRow.lt h3 k hk).1
  exact h4.trans ⟨ha.2.os, ha.2.tape, ha.2.output, ha.2.size, fun k hk => ha.2.block k (by have := h4.size; omega) fun e => by have := hv _ e.symm; omega⟩
end Go.Proofs.YtpnhldglcnmhdaaFmt.Aux
