/- Contracts of functions that the law of this seat reaches, and plain facts; no condition. -/
import Derived.Test.YtfhafelkkophgaaFmtProg
import Derived.WalkKit
import Derived.ProofKit
import Derived.OpenShut
import Derived.ShutString
import Derived.Test.YtfhafelkkophgaaFmtAid
import Derived.Test.YtfhafelkkophgaaFmtK
import Derived.Test.YtfhafelkkophgaaFmtN4
import Derived.Test.YtfhafelkkophgaaFmtX
import Derived.ArgAppend
import Derived.WalkSmall
import Derived.Lib.OthersKept
import Derived.Laws.RangeAny
import Derived.Laws.OwnMore
import Derived.WalkSpells
import Derived.LoopTactic
import Derived.IntWalk
import Derived.Outline
import Derived.Deep.QuietTactic
import Derived.BigQuiet
import Derived.Deep.RegionHeld3
import Derived.Deep.RegionLaw
import Derived.StillTailTactics
import Derived.OwnWalk
import Derived.RegionTactic
import Derived.Laws.BitsAllLaws
import Derived.Laws.BitsLemmas
import Derived.Lib.ConvBytes
namespace Go.Proofs.YtfhafelkkophgaaFmt.Aux
open Go.ChangeShapes Go.WideShapes Go.ChangeAt Go.RowKit
open Go.ChangeMaps (open_string shut_string)
set_option linter.unusedVariables false
set_option linter.unusedSimpArgs false
open Fl Str Pb Qd PlainAid Aux
theorem rest_one {n : Nat} {Z : Nat → Int} {q : Int} {ns ao : Bool} {k : Nat} {X X' : List Int} (h : Aux.Rest n Z q ns ao false k X) : Aux.Rest n Z q ns ao false k X' → X = X' := by
  intro h'
  induction h generalizing X' with
  | nil =>
    cases h' with
    | nil => rfl
    | step hk _ => omega
    | wrap _ hw _ => cases hw
  | step hk _ ih =>
    cases h' with
    | nil => omega
    | step _ h2 => rw [ih h2]
    | wrap _ hw _ => cases hw
  | wrap _ hw _ => cases hw
def vs (L : List Int) : List Value := L.map (fun x => .int .u8 x)
theorem vs_app (L M : List Int) : vs (L ++ M) = vs L ++ vs M := List.map_append
theorem vs_range (L : List Int) : (List.range L.length).map (fun i => Value.int .u8 (L.getD i 0)) = vs L := by
  apply List.ext_getElem
  · simp [vs]
  · intro i h1 h2
    have hi : i < L.length := by simpa using h1
    simp [vs, List.getD, hi]
theorem owng_len {w : World} {B : Nat} {a : Option Addr} {m c n : Nat} {xs : List Value} (h : OwnG w B (.slice a m c) n xs) : m = n := by
  obtain ⟨a', c', e⟩ := h.slice
  injection e
theorem owng_fsl {w : World} {B : Nat} {a : Option Addr} {n c : Nat} {L : List Int} (h : OwnG w B (.slice a n c) L.length (vs L)) : n = L.length ∧ Fsl w a L.length (fun i => .int .u8 (L.getD i 0)) := by
  have hl := owng_len h
  refine ⟨hl, ?_⟩
  rcases h.2 with ⟨e, h0⟩ | ⟨g, cap, cur, fz, e, hb, hg, _⟩
  · injection e with e1 e2 e3
    subst e1
    rw [h0]
    exact Fsl.nil _ _
  · injection e with e1 e2 e3
    subst e1
    refine ⟨fun e => (by cases e), fun i hi => ?_⟩
    have := h.cells (g := g) rfl i (.int .u8 (L.getD i 0)) (by simp [vs, List.getD, hi])
    refine ⟨g, 0, rfl, (Array.getElem?_eq_some_iff.1 hg).1, ?_⟩
    have e : (⟨g, 0, none⟩ : Addr).add i = ⟨g, i, none⟩ := by unfold Addr.add; simp; try omega
    rw [e] at this
    rw [Nat.zero_add]
    exact this
/-- A row of bytes that is the call's own, made after w0. -/
def WL (w0 w : World) (v : Value) (L : List Int) : Prop := OwnG w w0.heap.size v L.length (vs L) ∧ Below w0.heap.size w0 w
def W18 (w0 : World) (L : List Int) (e : Ending) (w' : World) : Prop := ∃ ja jn jc, e = .returned (.slice ja jn jc) ∧ Hid (WL w0 w' (.slice ja jn jc) L)
theorem WL.to {w0 w w' : World} {v : Value} {L : List Int} (h : WL w0 w v L) {Q : Nat → Prop} (hc : Chg Q w w') (hq : ∀ i, Q i → w0.heap.size ≤ i) (hn : ∀ k, v.ownBlock = some k → ¬ Q k) : WL w0 w' v L :=
  ⟨h.1.chg hc hn, h.2.trans (hc.below h.2.size hq)⟩
/-- The prefix' bytes. -/
def pl (pn : Nat) (Y : Nat → Int) : List Int := (List.range pn).map Y
theorem pl_len (pn : Nat) (Y : Nat → Int) : (pl pn Y).length = pn := by simp [pl]
theorem vs_pl (pn : Nat) (Y : Nat → Int) : vs (pl pn Y) = (List.range pn).map (fun i => Value.int .u8 (Y i)) := by simp [vs, pl]
theorem want1 (w1 : World) (c : Nat) (hc : c ≤ 16777216) (b1 : Option Addr) (pn cp1 : Nat) (Y : Nat → Int) (hF : Fsl w1 b1 pn (fun i => .int .u8 (Y i))) (hlt : ∀ x, b1 = some x → x.block < w1.heap.size) (hpn : pn ≤ 1048576) :
    Calls Tryf.prog 18 #[.slice (some ⟨w1.heap.size, 0, none⟩) 0 c, .slice b1 pn cp1] (w1.alloc (.cells (madeCells #[.int .u8 0] c) 5)) (W18 w1 (pl pn Y)) := by
  have ho := ot_start w1 c hc
  refine (app18 w1.heap.size (some ⟨w1.heap.size, 0, none⟩) 0 c [] b1 pn cp1 Y _ ho.own (by simp) (hF.alloc _) (fun x e e2 => ?_) (by simp; omega)).mono ?_
  · have := hlt x e
    simp [Value.ownBlock] at e2
    omega
  · rintro e w' ⟨ja, jn, jc, rfl, h⟩
    refine ⟨ja, jn, jc, rfl, Lib.hid ⟨?_, ?_⟩⟩
    · have := h.out.own
      rw [List.nil_append, ← vs_pl] at this
      rw [pl_len]
      simpa [vs, pl_len] using this
    · refine ho.bel.trans (h.out.chg.below (by simp) fun i hi => ?_)
      simp [Value.ownBlock] at hi
      omega
theorem want2 {w1 w3 w4 : World} {ja : Option Addr} {jn jc : Nat} {L : List Int} (h : WL w1 w3 (.slice ja jn jc) L) {ma : Option Addr} {mn mc : Nat} {M : List Int} (hm : OwnG w4 w3.heap.size (.slice ma mn mc) M.length (vs M)) (hb : Below w3.heap.size w3 w4) (hl : L.length + M.length ≤ 134217727) :
    Calls Tryf.prog 18 #[.slice ja jn jc, .slice ma mn mc] w4 (W18 w1 (L ++ M)) := by
  have h2 : WL w1 w4 (.slice ja jn jc) L := h.to (Chg.of_below hb (fun i a b => by omega) : Chg (fun _ => False) w3 w4) (fun _ h => h.elim) (fun _ _ h => h)
  obtain ⟨rfl, hf⟩ := owng_fsl hm
  have e : (vs L).length = L.length := by simp [vs]
  refine (app18 w1.heap.size ja jn jc (vs L) ma M.length mc (fun i => M.getD i 0) w4 (by rw [e]; exact h2.1) h2.2.size hf (fun x e e2 => ?_) (by rw [e]; exact hl)).mono ?_
  · subst e
    have h3 := (h.1.lt _ e2).2
    rcases hm.2 with ⟨e, _⟩ | ⟨g, cap, cur, fz, e, hg, _⟩
    · cases e
    · injection e with e1
      injection e1 with e1
      subst e1
      simp at h3
      omega
  · rintro e w' ⟨ka, kn, kc, rfl, hA⟩
    refine ⟨ka, kn, kc, rfl, Lib.hid ⟨?_, ?_⟩⟩
    · have := hA.out.own
      rw [vs_range, ← vs_app] at this
      simpa [vs] using this
    · exact h2.2.trans (hA.out.chg.below h2.2.size fun i hi => (h2.1.lt i hi).1)
/-- The cloned prefix. -/
def CB (w w1 : World) (b1 : Option Addr) (pn cp1 : Nat) (Y : Nat → Int) : Prop := OwnG w1 w.heap.size (.slice b1 pn cp1) pn ((List.range pn).map (fun i => Value.int .u8 (Y i))) ∧ Fsl w1 b1 pn (fun i => .int .u8 (Y i)) ∧ (∀ x, b1 = some x → x.block < w1.heap.size) ∧ Below w.heap.size w w1
theorem cop_own {w w' : World} {a' : Option Addr} {n cap' : Nat} {V : Nat → Value} (hm : n ≤ maxLen) (hF : Fsl w' a' n V) (hd : a' = none ∧ cap' = 0 ∨ ∃ b, w.heap.size ≤ b ∧ a' = some ⟨b, 0, none⟩ ∧ Fblk w' b 5 n V ∧ cap' = n) : OwnG w' w.heap.size (.slice a' n cap') n ((List.range n).map V) := by
  refine ⟨by simp, ?_⟩
  rcases hd with ⟨rfl, rfl⟩ | ⟨b, hb, rfl, hk, e⟩
  · have := hF.none_
    subst this
    exact .inl ⟨rfl, rfl⟩
  · subst e
    exact .inr ⟨b, _, _, (0, 0), rfl, hb, hk, .inl (Nat.zero_le _), Nat.le_refl _, hm, by simp, List.take_of_length_le (by simp)⟩
theorem cb_of {w : World} {q : Nat} {a0 : Option Addr} {pn : Nat} {Y : Nat → Int} {e : Ending} {w1 : World} (hpn : pn ≤ 1048576) (h : Cop (w.drewN q) a0 pn 5 (fun i => .int .u8 (Y i)) e w1) : ∃ b1 cp1, e = .returned (.slice b1 pn cp1) ∧ Hid (CB w w1 b1 pn cp1 Y) := by
  obtain ⟨b1, cp1, rfl, _, hF, hb, _, hd⟩ := h
  refine ⟨b1, cp1, rfl, Lib.hid ⟨cop_own (w := w) (by unfold maxLen; omega) hF hd, hF, fun x hx => ?_, ((below_drewN (Below.refl _ w) q)).trans hb⟩⟩
  rcases hd with ⟨h1, _⟩ | ⟨b, _, h1, hb2, _⟩
  · rw [h1] at hx; cases hx
  · rw [h1] at hx
    cases hx
    exact hb2.lt
theorem ps_new {w w1 w5 : World} {b1 : Option Addr} {pn cp1 : Nat} {Y : Nat → Int} (h : CB w w1 b1 pn cp1 Y) (hb : Below w1.heap.size w1 w5) {W : Array Value} {ms : Bool} (hW : W[9]? = some (.slice b1 pn cp1) ∧ W[24]? = some (.int .u64 0) ∧ W[26]? = some (.int .i64 0) ∧ W[30]? = some (.bool ms) ∧ W[31]? = some (.bool false)) :
    PS (w5.alloc (.cells W 96)) w5.heap.size w.heap.size 0 ms b1 pn cp1 (vs (pl pn Y)) := by
  have hr : (w5.alloc (.cells W 96)).heap[w5.heap.size]? = some (.cells W 96 (0, 0)) := heap_alloc_new _ _
  have hc : ∀ i, (w5.alloc (.cells W 96)).cell? ⟨w5.heap.size, i, none⟩ = W[i]? := fun i => cell_of_row _ _ i _ _ _ hr
  obtain ⟨h9, h24, h26, h30, h31⟩ := hW
  refine ⟨by rw [hc]; exact h9, frozen_of_row _ _ _ _ _ hr, by rw [hc]; exact h24, by rw [hc]; exact h26, by rw [hc]; exact h30, by rw [hc]; exact h31, ?_, fun e => ?_⟩
  · have h2 := (h.1.chg (Chg.of_below hb (fun i a b => by omega) : Chg (fun _ => False) w1 w5) (fun _ _ h => h)).chg ((Chg.refl (fun _ => False) w5).alloc (.cells W 96)) (fun _ _ h => h)
    rw [vs_pl]
    simpa using h2
  · have := (h.1.lt _ e).2
    have := hb.size
    omega
/-- The two byte rows are alike. -/
theorem eqq {w w1 w5 w7 : World} {b1 : Option Addr} {pn cp1 : Nat} {Y : Nat → Int} (h : CB w w1 b1 pn cp1 Y) {wa : Option Addr} {wn wc : Nat} {q : Int} {P : List Int} {W : Array Value} (hW : WL w1 w5 (.slice wa wn wc) (pl pn Y ++ (q :: (P ++ [q])))) {ja : Option Addr} {jn jc : Nat} (h9 : P9 w7 w5.heap.size w.heap.size ja jn jc (vs (pl pn Y) ++ (.int .u8 q :: (P.map (fun x => Value.int .u8 x) ++ [.int .u8 q])))) (hc : Ch9 (w5.alloc (.cells W 96)) w5.heap.size (.slice b1 pn cp1) w7 (.slice ja jn jc)) (hl : pn + P.length ≤ 16777000) :
    Calls Tryf.prog 22 #[.slice ja jn jc, .slice wa wn wc] w7 (Eqt w7) := by
  have hb := h.1.lt
  have hw := hW.1.lt
  have e7 : vs (pl pn Y) ++ (.int .u8 q :: (P.map (fun x => Value.int .u8 x) ++ [.int .u8 q])) = vs (pl pn Y ++ (q :: (P ++ [q]))) := by simp [vs]
  rw [e7] at h9
  have h6 : OwnG (w5.alloc (.cells W 96)) w1.heap.size (.slice wa wn wc) (pl pn Y ++ (q :: (P ++ [q]))).length (vs (pl pn Y ++ (q :: (P ++ [q])))) := hW.1.chg ((Chg.refl (fun _ => False) w5).alloc _) (fun _ _ h => h)
  have h7 : OwnG w7 w1.heap.size (.slice wa wn wc) (pl pn Y ++ (q :: (P ++ [q]))).length (vs (pl pn Y ++ (q :: (P ++ [q])))) := h6.chg hc.1 fun k hk hh => by
    have h1 := hw k hk
    rcases hh with hh | hh
    · omega
    · have h2 := hb k hh
      omega
  obtain ⟨e1, f1⟩ := owng_fsl h7
  have h8 := h9.own
  rw [show (vs (pl pn Y ++ (q :: (P ++ [q])))).length = (pl pn Y ++ (q :: (P ++ [q]))).length by simp [vs]] at h8
  obtain ⟨e2, f2⟩ := owng_fsl h8
  have hL : (pl pn Y ++ (q :: (P ++ [q]))).length = pn + P.length + 2 := by simp [pl]; omega
  subst e1; subst e2
  exact eq22 _ _ _ _ _ _ _ (by omega) f2 f1
theorem fin_below {w w1 w5 w7 : World} {b1 : Option Addr} {pn cp1 : Nat} {Y : Nat → Int} (h : CB w w1 b1 pn cp1 Y) {v v' : Value} {L : List Int} (hW : WL w1 w5 v L) {W : Array Value} (hc : Ch9 (w5.alloc (.cells W 96)) w5.heap.size (.slice b1 pn cp1) w7 v') (q : Nat) : Below w.heap.size w (w7.drewN q) := by
  have h1 := h.2.2.2
  have h2 := hW.2.mono h1.size
  have h3 := (h1.trans h2)
  have hs := h3.size
  refine below_drewN ((h3.alloc hs (.cells W 96)).trans (hc.1.below (by simp; omega) fun i hi => ?_)) q
  rcases hi with rfl | hi
  · exact hs
  · exact (h.1.lt i hi).1
theorem eqq' {w w1 w5 w7 : World} {b1 : Option Addr} {pn cp1 : Nat} {Y : Nat → Int} (h : CB w w1 b1 pn cp1 Y) {wa : Option Addr} {wn wc : Nat} {q : Int} {P P' : List Int} {W : Array Value} (hW : WL w1 w5 (.slice wa wn wc) (pl pn Y ++ (q :: (P ++ [q])))) (e : P = P') {ja : Option Addr} {jn jc : Nat} (h9 : P9 w7 w5.heap.size w.heap.size ja jn jc (vs (pl pn Y) ++ (.int .u8 q :: (P'.map (fun x => Value.int .u8 x) ++ [.int .u8 q])))) (hc : Ch9 (w5.alloc (.cells W 96)) w5.heap.size (.slice b1 pn cp1) w7 (.slice ja jn jc)) (hl : pn + P.length ≤ 16777000) :
    Calls Tryf.prog 22 #[.slice ja jn jc, .slice wa wn wc] w7 (Eqt w7) := by
  subst e
  exact eqq h hW h9 hc hl
theorem md_own {w4 : World} {B : Nat} {v : Value} {q : Int} {P : List Int} (h : OwnG w4 B v (P.length + 2) (.int .u8 q :: (P.map (fun x => Value.int .u8 x) ++ [.int .u8 q]))) : OwnG w4 B v (q :: (P ++ [q])).length (vs (q :: (P ++ [q]))) := by
  simpa [vs] using h
theorem le5 {w w1 w5 : World} {b1 : Option Addr} {pn cp1 : Nat} {Y : Nat → Int} (h : CB w w1 b1 pn cp1 Y) {v : Value} {L : List Int} (hW : WL w1 w5 v L) {o : Obj} : w.heap.size ≤ (w5.alloc o).heap.size := by
  have h1 := h.2.2.2.size
  have h2 := hW.2.size
  simp
  omega
def Fin5 (w : World) (e : Ending) (w' : World) : Prop := e = .returned (.bool true) ∧ Below w.heap.size w w'
set_option maxRecDepth 100000 in
set_option maxHeartbeats 8000000 in
theorem main5a (a0 : Option Addr) (pn c0 : Nat) (s : ByteArray) (fl : Int) (ms : Bool) (w : World) (h : (1048576 : Int) < (pn : Int) ∨ (¬ (1048576 : Int) < (pn : Int) ∧ (1048576 : Int) < (s.size : Int)) ∨ (¬ (1048576 : Int) < (pn : Int) ∧ ¬ (1048576 : Int) < (s.size : Int) ∧ (1048576 : Int) < (pn : Int) + (s.size : Int))) :
    Calls Tryf.prog 5 #[.slice a0 pn c0, .string s, .int .u8 fl, .bool ms] w (Fin5 w) := by
  have HG := Lib.hid (fun w => gd15 a0 pn c0 s fl ms w)
  rcases h with h | ⟨h1, h⟩ | ⟨h1, h2, h⟩
  · go_enter Tryf.func5, Tryf.ntmps5
    go_wp2_with (go_at_call 15; refine (HG.out _).mono ?_; rintro e w ⟨rfl, v, rfl⟩)
    all_goals go_ret
    all_goals exact ⟨rfl, Below.refl _ _⟩
  · go_enter Tryf.func5, Tryf.ntmps5
    go_wp2_with (go_at_call 15; refine (HG.out _).mono ?_; rintro e w ⟨rfl, v, rfl⟩)
    all_goals go_ret
    all_goals exact ⟨rfl, Below.refl _ _⟩
  · go_enter Tryf.func5, Tryf.ntmps5
    go_wp2_with (go_at_call 15; refine (HG.out _).mono ?_; rintro e w ⟨rfl, v, rfl⟩)
    all_goals go_ret
    all_goals exact ⟨rfl, Below.refl _ _⟩
set_option maxRecDepth 100000 in
set_option maxHeartbeats 8000000 in
theorem main5b (a0 : Option Addr) (pn c0 : Nat) (s : ByteArray) (fl : Int) (ms : Bool) (w : World) (h0 : pn ≤ 1048576) (h1 : s.size ≤ 1048576) (h2 : pn + s.size ≤ 1048576) (hR : ¬ ∃ R, Chn s 0 R) :
    Calls Tryf.prog 5 #[.slice a0 pn c0, .string s, .int .u8 fl, .bool ms] w (Fin5 w) := by
  have HG := Lib.hid (fun w => gd15 a0 pn c0 s fl ms w)
  have HV : Hid (∀ w, Calls Tryf.prog 16 #[.string s] w fun e w' => e = .returned (.bool false) ∧ ∃ q, w' = w.drewN q) := Lib.hid (fun w => (valid16 s (by omega) w).mono (by
    rintro e w' ⟨⟨q, rfl⟩, v, rfl, hv⟩
    cases v
    · exact ⟨rfl, q, rfl⟩
    · exact absurd (hv.out rfl) hR))
  go_enter Tryf.func5, Tryf.ntmps5
  go_wp2_with (first | (go_at_call 15; refine (HG.out _).mono ?_; rintro e w ⟨rfl, v, rfl⟩) | (go_at_call 16; refine (HV.out _).mono ?_; rintro e w' ⟨rfl, q, rfl⟩))
  · go_ret
    exact ⟨rfl, Below.refl _ _⟩
  · go_ret
    exact ⟨rfl, below_drewN (Below.refl _ _) _⟩
set_option maxRecDepth 1000000 in
set_option maxHeartbeats 40000000 in
theorem main5c (a0 : Option Addr) (pn c0 : Nat) (Y : Nat → Int) (s : ByteArray) (fl : Int) (ms : Bool) (w : World) (hY : Fsl w a0 pn (fun i => .int .u8 (Y i))) (h0 : pn ≤ 1048576) (h1 : s.size ≤ 1048576) (h2 : pn + s.size ≤ 1048576) (R : List Int) (hR : Chn s 0 R) :
    Calls Tryf.prog 5 #[.slice a0 pn c0, .string s, .int .u8 fl, .bool ms] w (Fin5 w) := by
  have HG := Lib.hid (fun w => gd15 a0 pn c0 s fl ms w)
  have HV : Hid (∀ w, Calls Tryf.prog 16 #[.string s] w fun e w' => ∃ v q, e = .returned (.bool v) ∧ w' = w.drewN q) := Lib.hid (fun w => (valid16 s (by omega) w).mono (by
    rintro e w' ⟨⟨q, rfl⟩, v, rfl, hv⟩
    exact ⟨v, q, rfl, rfl⟩))
  have HC := Lib.hid (fun q => (cl17 a0 pn c0 Y (w.drewN q) hY (by omega)).mono fun e w1 hh => cb_of (w := w) (q := q) h0 hh)
  obtain ⟨al, hal⟩ : ∃ al, (bits .and .u8 fl 1 != 0) = al := ⟨_, rfl⟩
  have HAL := Lib.hid hal
  have hmk := mk8 (pn + 4 * s.size + 2) ((pn : Int) + 4 * (s.size : Int) + 2) (by omega) (by omega)
  have HM := Lib.hid (fun w => model19 s h1 (u16s R).length (zr R) al ms (Cor.start hR) w)
  have HP := Lib.hid (fun B p ja jn jc xs0 w hps hx hB => pq21 B p s h1 R hR fl al ms ja jn jc xs0 w hps hx hB hal)
  generalize qch (cntu (zr R) 39 (u16s R).length : Nat) (cntu (zr R) 34 (u16s R).length : Nat) (bkc (zr R) (u16s R).length ms (u16s R).length) al = q at *
  generalize (u16s R).length = n at *
  generalize zr R = Z at *
  clear hY hR
  go_enter Tryf.func5, Tryf.ntmps5
  go_wp2_with (first
    | (go_at_call 15; refine (HG.out _).mono ?_; rintro e w ⟨rfl, v, rfl⟩)
    | (go_at_call 16; refine (HV.out _).mono ?_; rintro e w' ⟨v2, q1, rfl, rfl⟩)
    | (go_at_call 17; refine (HC.out _).mono ?_; rintro e w1 ⟨b1, cp1, rfl, CB1⟩; have A1 := Lib.hid (want1 w1 (pn + 4 * s.size + 2) (by omega) b1 pn cp1 Y CB1.out.2.1 CB1.out.2.2.1 h0))
    | (have A0 := A2; clear A2; go_at_call 18; refine A0.out.mono ?_; clear A0; rintro e w5 ⟨wa, wn, wc, rfl, W5⟩)
    | (have A0 := A1; clear A1; go_at_call 18; refine A0.out.mono ?_; clear A0; rintro e w3 ⟨ja, jn, jc, rfl, W3⟩)
    | (go_at_call 19; refine (HM.out _).mono ?_; rintro e w4 ⟨ma, mn, mc, P, rfl, M4, hP, R4, B4⟩; have A2 := Lib.hid (want2 (M := q :: (P ++ [q])) W3.out (md_own M4.out) B4.out (by simp [pl_len]; omega)); clear M4 B4)
    | (go_at_call 20; refine (np20 _ _ _ _ _).mono ?_; rintro e w6 ⟨W, rfl, rfl, HW⟩; have HPP := Lib.hid (HP.out w.heap.size w5.heap.size b1 pn cp1 (vs (pl pn Y)) _ (ps_new CB1.out W5.out.2 HW.out) (by simp [vs, pl_len]; omega) (le5 CB1.out W5.out)))
    | (go_at_call 21; refine HPP.out.mono ?_; rintro e w7 ⟨rfl, ka, kn, kc, P', H9, hP', R7, HCh⟩; have EP := Lib.hid (rest_one R4.out R7.out); have HJ := Lib.hid (js23 _ _ _ _ _ H9.out.c9); have HE := Lib.hid (eqq' CB1.out W5.out EP.out H9.out HCh.out (by omega)))
    | (go_at_call 23; refine HJ.out.mono ?_; rintro e w8 ⟨rfl, rfl⟩)
    | (go_at_call 22; refine HE.out.mono ?_; rintro e w9 ⟨rfl, q9, rfl⟩))
  · go_ret
    exact ⟨rfl, Below.refl _ _⟩
  · go_ret
    exact ⟨rfl, below_drewN (Below.refl _ _) _⟩
  · go_ret
    exact ⟨rfl, fin_below CB1.out W5.out HCh.out _⟩
theorem main5 (a0 : Option Addr) (pn c0 : Nat) (Y : Nat → Int) (s : ByteArray) (fl : Int) (ms : Bool) (w : World) (hY : Fsl w a0 pn (fun i => .int .u8 (Y i))) :
    Calls Tryf.prog 5 #[.slice a0 pn c0, .string s, .int .u8 fl, .bool ms] w (Fin5 w) := by
  by_cases h0 : (1048576 : Int) < (pn : Int)
  · exact main5a a0 pn c0 s fl ms w (.inl h0)
  by_cases h1 : (1048576 : Int) < (s.size : Int)
  · exact main5a a0 pn c0 s fl ms w (.inr (.inl ⟨h0, h1⟩))
  by_cases h2 : (1048576 : Int) < (pn : Int) + (s.size : Int)
  · exact main5a a0 pn c0 s fl ms w (.inr (.inr ⟨h0, h1, h2⟩))
  by_cases hR : ∃ R, Chn s 0 R
  · obtain ⟨R, hR⟩ := hR
    exact main5c a0 pn c0 Y s fl ms w hY (by omega) (by omega) (by omega) R hR
  · exact main5b a0 pn c0 s fl ms w (by omega) (by omega) (by omega) hR
end Go.Proofs.YtfhafelkkophgaaFmt.Aux
