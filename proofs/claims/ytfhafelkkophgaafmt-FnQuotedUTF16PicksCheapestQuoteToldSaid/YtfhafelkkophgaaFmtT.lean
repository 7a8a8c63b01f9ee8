/- Contracts of functions that the law of this seat reaches, and plain facts; no condition. -/
import Derived.Test.YtfhafelkkophgaaFmtProg
import Derived.WalkKit
import Derived.ProofKit
import Derived.OpenShut
import Derived.ShutString
import Derived.Test.YtfhafelkkophgaaFmtAid
import Derived.Test.YtfhafelkkophgaaFmtQ
import Derived.ArgAppend
import Derived.WalkSpells
import Derived.LoopTactic
import Derived.IntWalk
import Derived.Outline
import Derived.Deep.QuietTactic
import Derived.BigQuiet
import Derived.Laws.BitsAllLaws
namespace Go.Proofs.YtfhafelkkophgaaFmt.Aux
open Go.ChangeShapes Go.WideShapes Go.ChangeAt Go.RowKit
open Go.ChangeMaps (open_string shut_string)
set_option linter.unusedVariables false
set_option linter.unusedSimpArgs false
open Fl Str Pb Qd PlainAid Aux
def Bl (w : World) (e : Ending) (w' : World) : Prop := w' = w ∧ ∃ v, e = .returned (.bool v)
theorem gd220 (a : Option Addr) (l c : Nat) (x1 x2 x3 : Bool) (w : World) : Calls Tryf.prog 6 #[.slice a l c, .bool x1, .bool x2, .bool x3] w (Bl w) := by
  by_cases h0 : (1048576 : Int) < (l : Int)
  · go_enter Tryf.func6, Tryf.ntmps6
    go_wp2_with fail
    go_ret
    exact ⟨rfl, _, rfl⟩
  have e0 : IntKind.i64.wrap (l : Int) = (l : Int) := IntWalk.i64_in _ (by omega)
  go_enter Tryf.func6, Tryf.ntmps6
  go_wp2_with fail
  go_ret
  exact ⟨rfl, _, rfl⟩
theorem cl7_info : (Tryf.prog.info? 27).map (fun i => (i.zero, i.size, i.bytes)) = some (some (.int .u16 0), 1, 2) := by kernel_rfl
theorem cl7 (a : Option Addr) (len cap : Nat) (S : Nat → Int) (w : World) (h : Fsl w a len (fun i => .int .u16 (S i))) (hlen : len ≤ 137438953472) :
    Calls Tryf.prog 7 #[.slice a len cap] w (Cop w a len 27 (fun i => .int .u16 (S i))) := by
  have hnil : ∀ w : World, (binOp .eql 22 (.slice a len cap) (.slice none 0 0)).run Tryf.prog w = .ok (.bool a.isNone) w := fun w => Lib.run_eql_slice_nil w 22 27 _ _ _ _ _ Tryf.underlying22
  have hmk := run_make_one (P := Tryf.prog) Tryf.underlying22 cl7_info rfl (by omega) len hlen
  cases a with
  | none =>
    have H := Lib.hid (Cop.nil (t := 27) h)
    go_enter Tryf.func7, Tryf.ntmps7
    go_wp2
    go_ret
    exact H.out
  | some x =>
    go_enter Tryf.func7, Tryf.ntmps7
    go_wp2
    go_loopw [4] (fun i wr => ∃ k : Nat, k ≤ len ∧ i = .int .i64 k ∧ Fblk wr w.heap.size 27 len (parV (fun i => .int .u16 (S i)) (.int .u16 0) k) ∧ Below w.heap.size w wr) (fun i _ => len - (intOf i).toNat)
    case atStart => exact ⟨0, by omega, rfl, by rw [parV_zero]; exact Fblk.made _ _ _ _, (Below.refl _ _).alloc (Nat.le_refl _) _⟩
    case round =>
      obtain ⟨k, hk, rfl, hb, hl⟩ := hrel
      have HB := Lib.hid hb
      by_cases hlt : k < len
      · obtain ⟨b, off, e, hlb, hc⟩ := h.at k hlt
        injection e with e
        subst e
        have hc' : wr.cell? ⟨b, off + k, none⟩ = some (.int .u16 (S k)) := by rw [hl.cell (p := ⟨b, off + k, none⟩) hlb]; exact hc
        have hd := hb.cell k hlt
        have hz := hb.frozen k
        have hk2 : (k : Int) < (len : Int) := by omega
        clear hc hb
        go_wp2
        go_roundw
        case rel => exact ⟨k + 1, by omega, by go_num, by rw [← parV_set]; exact HB.out.set k _, hl.setCell (Nat.le_refl _) _⟩
        case measure => simp [intOf]; omega
      · obtain rfl : k = len := by omega
        clear hb
        go_wp2
        go_ret
        exact Cop.mk (HB.out.congr fun i hi => by simp [parV, hi]) hl (Nat.le_refl _)

set_option maxRecDepth 100000 in
set_option maxHeartbeats 8000000 in
theorem qt25 (B p : Nat) (a : Option Addr) (n c : Nat) (Z : Nat → Int) (nt al ms : Bool) (ja : Option Addr) (jn jc : Nat) (w : World) (hps : PS w p B (if nt then 72057594037927936 else 0) ms ja jn jc []) (hn : n ≤ 524288) (hB : B ≤ w.heap.size) (hsl : Fsl w a n (fun i => .int .u16 (Z i))) (hZ : ∀ i, i < n → 0 ≤ Z i ∧ Z i ≤ 65535) (hab : ∀ x, a = some x → x.block < B) (hpB : B ≤ p) :
    Calls Tryf.prog 25 #[.pointer (some ⟨p, 0, none⟩), .slice a n c, .bool al] w (QPo w p B (qch (cntu Z 39 n) (cntu Z 34 n) (bkc Z n ms n) (al && !nt)) n) := by
  have h0 := Lib.hid (fun fl hal => pq B p a n c Z fl (if nt then 72057594037927936 else 0) nt (al && !nt) ms ja jn jc w hps hn hB hsl hZ hab hpB (by cases nt <;> decide) (by cases nt <;> decide) hal)
  clear hps hsl hZ hab
  cases al
  · go_enter Tryf.func25, Tryf.ntmps25
    go_wp2_with (go_at_call 34; refine (h0.out 0 (by cases nt <;> decide)).mono ?_; rintro e w' ⟨rfl, h⟩; have H := Lib.hid h; clear h)
    go_end0
    exact ⟨rfl, H.out⟩
  · go_enter Tryf.func25, Tryf.ntmps25
    go_wp2_with (go_at_call 34; refine (h0.out 1 (by cases nt <;> decide)).mono ?_; rintro e w' ⟨rfl, h⟩; have H := Lib.hid h; clear h)
    go_end0
    exact ⟨rfl, H.out⟩
def QRo (w : World) (q : Int) (n : Nat) (e : Ending) (w' : World) : Prop := ∃ ja jc X, e = .returned (.slice ja (X.length + 2) jc) ∧ OwnG w' w.heap.size (.slice ja (X.length + 2) jc) (X.length + 2) (.int .u8 q :: (X ++ [.int .u8 q])) ∧ X.length ≤ 12 * n ∧ Below w.heap.size w w'
set_option maxRecDepth 100000 in
set_option maxHeartbeats 8000000 in
theorem run8 (a : Option Addr) (n c : Nat) (Z : Nat → Int) (al nt ms : Bool) (w : World) (hn : n ≤ 524288) (hsl : Fsl w a n (fun i => .int .u16 (Z i))) (hZ : ∀ i, i < n → 0 ≤ Z i ∧ Z i ≤ 65535) (hab : ∀ x, a = some x → x.block < w.heap.size) :
    Calls Tryf.prog 8 #[.slice a n c, .bool al, .bool nt, .bool ms] w (QRo w (qch (cntu Z 39 n) (cntu Z 34 n) (bkc Z n ms n) (al && !nt)) n) := by
  have h0 := Lib.hid (np24 nt ms w)
  have HSL := Lib.hid hsl
  have HZ := Lib.hid hZ
  have HAB := Lib.hid hab
  clear hsl hZ hab
  go_enter Tryf.func8, Tryf.ntmps8
  go_wp2_with (first
    | (go_at_call 24; refine h0.out.mono ?_; rintro e w1 ⟨p, ja, jn, jc, rfl, c9, f9, c24, c26, c30, c31, own, ne, bel, hp⟩; obtain rfl := (owng_len own); have HQ := Lib.hid (qt25 w.heap.size p a n c Z nt al ms ja 0 jc w1 ⟨c9, f9, c24, c26, c30, c31, own, ne⟩ hn bel.size (HSL.out.below bel) HZ.out HAB.out hp); have HB := Lib.hid bel; clear own ne bel c9 f9 c24 c26 c30 c31)
    | (go_at_call 25; refine HQ.out.mono ?_; rintro e w2 ⟨rfl, ja2, jc2, X, c9, own, hX, bel⟩; have HO := Lib.hid own; have HX := Lib.hid hX; have HB2 := Lib.hid bel; have HJ := Lib.hid (js26 p ja2 (X.length + 2) jc2 w2 c9); clear own bel hX c9)
    | (go_at_call 26; refine HJ.out.mono ?_; rintro e w3 ⟨rfl, rfl⟩))
  go_ret
  exact ⟨ja2, jc2, X, rfl, HO.out, HX.out, HB.out.trans HB2.out⟩
def Qfin (w : World) (e : Ending) (w' : World) : Prop := e = .returned (.bool true) ∧ Below w.heap.size w w'
theorem owng_at {w : World} {B : Nat} {ja : Option Addr} {m jc : Nat} {xs : List Value} (h : OwnG w B (.slice ja m jc) m xs) (h0 : 0 < m) : ∃ g, ja = some ⟨g, 0, none⟩ ∧ ∀ j u, xs[j]? = some u → w.cell? ⟨g, j, none⟩ = some u := by
  have hh := h
  rcases h.2 with ⟨e, e2⟩ | ⟨g, cap, cur, fz, e, _⟩
  · omega
  · injection e with e1 e2 e3
    subst e1
    refine ⟨g, rfl, fun j u hu => ?_⟩
    have := hh.cells (g := g) rfl j u hu
    have e : (⟨g, 0, none⟩ : Addr).add j = ⟨g, j, none⟩ := by unfold Addr.add; simp; try omega
    rwa [e] at this
def wantq (sg db bk : Int) (al : Bool) : Int := if al = true ∧ bk < (if sg < db then sg else db) then 96 else if sg < db then 39 else 34
theorem wantq_eq (sg db bk : Int) (al : Bool) : qch sg db bk al = wantq sg db bk al := by
  unfold qch wantq
  cases al <;> simp <;> split <;> simp_all
end Go.Proofs.YtfhafelkkophgaaFmt.Aux
