/- Contracts of functions that the law of this seat reaches, and plain facts; no condition. -/
import Derived.Test.YtfhafelkkophgaaFmtProg
import Derived.WalkKit
import Derived.ProofKit
import Derived.OpenShut
import Derived.ShutString
import Derived.Test.YtfhafelkkophgaaFmtAid
import Derived.Test.YtfhafelkkophgaaFmtP
import Derived.ArgAppend
import Derived.WalkSpells
import Derived.LoopTactic
import Derived.IntWalk
import Derived.Outline
import Derived.Deep.QuietTactic
import Derived.BigQuiet
import Derived.Deep.RegionHeld3
import Derived.Deep.RegionLaw
import Derived.StillTailTactics
import Derived.OwnWalk
import Derived.RegionTactic
import Derived.Laws.BitsAllLaws
import Derived.Lib.ConvBytes
namespace Go.Proofs.YtfhafelkkophgaaFmt.Aux
open Go.ChangeShapes Go.WideShapes Go.ChangeAt Go.RowKit
open Go.ChangeMaps (open_string shut_string)
set_option linter.unusedVariables false
set_option linter.unusedSimpArgs false
open Fl Str Pb Qd PlainAid Aux
/-- The cell of the printer's bytes. -/
structure P9 (w : World) (p B : Nat) (ja : Option Addr) (jn jc : Nat) (xs : List Value) : Prop where
  c9 : w.cell? ⟨p, 9, none⟩ = some (.slice ja jn jc)
  f9 : w.frozen? ⟨p, 9, none⟩ = false
  own : OwnG w B (.slice ja jn jc) xs.length xs
  ne : (Value.slice ja jn jc).ownBlock ≠ some p
theorem ps_p9 {w : World} {p B : Nat} {uf : Int} {ms : Bool} {ja : Option Addr} {jn jc : Nat} {xs : List Value} (h : PS w p B uf ms ja jn jc xs) : P9 w p B ja jn jc xs := ⟨h.c9, h.f9, h.own, h.ne⟩
theorem same_ne {w : World} {v v' : Value} {p : Nat} (h : Same w v v') (hn : v.ownBlock ≠ some p) (hp : p < w.heap.size) : v'.ownBlock ≠ some p := by
  rcases h with h | h
  · rw [h]; exact hn
  · intro e
    have := h p e
    omega
def Pr9 (w : World) (p B : Nat) (xs : List Value) (s : ByteArray) (e : Ending) (w' : World) : Prop := e = .returned (.tuple #[]) ∧ ∃ ja jn jc, P9 w' p B ja jn jc (xs ++ Lib.strCells s) ∧ Below B w w' ∧ ∀ j u, j ≠ 9 → w.cell? ⟨p, j, none⟩ = some u → w'.cell? ⟨p, j, none⟩ = some u
theorem prt9 {p B : Nat} {ja : Option Addr} {jn jc : Nat} {xs : List Value} (s : ByteArray) {w : World} (h : P9 w p B ja jn jc xs) (hB : B ≤ w.heap.size) (hpB : B ≤ p) (hs : xs.length + s.size ≤ 134217728) :
    Calls Tryf.prog 38 #[.pointer (some ⟨p, 0, none⟩), .string s] w (Pr9 w p B xs s) := by
  refine (prt p B (.slice ja jn jc) xs s w h.c9 h.f9 h.ne h.own hB hs).mono ?_
  rintro e w' ⟨rfl, ja', jn', jc', c9, f9, own, chg, same, keep⟩
  refine ⟨rfl, ja', jn', jc', ⟨c9, f9, own, same_ne same h.ne (World.block_lt_of_cell? w _ h.c9)⟩, chg.below hB fun i hi => ?_, keep⟩
  rcases hi with rfl | hi
  · exact hpB
  · exact (h.own.lt i hi).1
def Uq9 (w : World) (p B : Nat) (xs0 : List Value) (n : Nat) (e : Ending) (w' : World) : Prop := e = .returned (.tuple #[]) ∧ ∃ ja jn jc X, P9 w' p B ja jn jc (xs0 ++ X) ∧ X.length ≤ 12 * n ∧ Below B w w'
theorem uq9 {p B : Nat} {a : Option Addr} {n c : Nat} {Z : Nat → Int} (q fl : Int) {ja : Option Addr} {jn jc : Nat} {xs0 : List Value} {w : World} (h : P9 w p B ja jn jc xs0)
  (h26 : w.cell? ⟨p, 26, none⟩ = some (.int .i64 0)) {uf : Int} (h24 : w.cell? ⟨p, 24, none⟩ = some (.int .u64 uf)) (h31 : w.cell? ⟨p, 31, none⟩ = some (.bool false)) (hn : n ≤ 524288) (hB : B ≤ w.heap.size) (hpB : B ≤ p) (hsl : Fsl w a n (fun i => .int .u16 (Z i))) (hZ : ∀ i, i < n → 0 ≤ Z i ∧ Z i ≤ 65535) (hab : ∀ x, a = some x → x.block < B) (hx : xs0.length ≤ 1048576)
  (hH : ∀ w, Calls Tryf.prog 37 #[.int .u64 uf, .int .u64 68719476736] w fun e w' => e = .returned (.bool false) ∧ w' = w) :
    Calls Tryf.prog 35 #[.pointer (some ⟨p, 0, none⟩), .slice a n c, .int .i32 q, .int .u8 fl] w (Uq9 w p B xs0 n) := by
  refine (uq B p a n c Z q fl ja jn jc xs0 w h.c9 h.f9 h26 uf h24 h31 hn h.own hB hsl hZ (fun x e1 e2 => ?_) h.ne hx hH).mono ?_
  · have := hab x e1
    have := (h.own.lt _ e2).1
    omega
  · rintro e w' ⟨rfl, ja', jn', jc', X, c9, f9, own, hX, chg, same⟩
    refine ⟨rfl, ja', jn', jc', X, ⟨c9, f9, own, same_ne same h.ne (World.block_lt_of_cell? w _ h.c9)⟩, hX, chg.below hB fun i hi => ?_⟩
    rcases hi with rfl | hi
    · exact hpB
    · exact (h.own.lt i hi).1
theorem owng_len {w : World} {B : Nat} {a : Option Addr} {m c n : Nat} {xs : List Value} (h : OwnG w B (.slice a m c) n xs) : m = n := by
  obtain ⟨a', c', e⟩ := h.slice
  injection e
theorem qpo_fin {w w' : World} {p B : Nat} {q : Int} {n : Nat} {ja : Option Addr} {jn jc : Nat} {X : List Value} (s : ByteArray) (hs : Lib.strCells s = [.int .u8 q]) (h : P9 w' p B ja jn jc ((([] ++ Lib.strCells s) ++ X) ++ Lib.strCells s)) (hX : X.length ≤ 12 * n) (hb : Below B w w') : QPo w p B q n (.returned (.tuple #[])) w' := by
  obtain ⟨c9, f9, own, ne⟩ := h
  have hl := owng_len own
  rw [hs] at own hl
  have hl2 : ([] ++ [Value.int .u8 q] ++ X ++ [Value.int .u8 q]).length = X.length + 2 := by simp
  rw [hl2] at own hl
  subst hl
  exact ⟨rfl, ja, jc, X, c9, by simpa using own, hX, hb⟩
theorem sc34 : Lib.strCells ⟨#[34]⟩ = [.int .u8 34] := rfl
theorem sc39 : Lib.strCells ⟨#[39]⟩ = [.int .u8 39] := rfl
theorem sc96 : Lib.strCells ⟨#[96]⟩ = [.int .u8 96] := rfl
set_option maxRecDepth 1000000 in
set_option maxHeartbeats 20000000 in
theorem pq (B p : Nat) (a : Option Addr) (n c : Nat) (Z : Nat → Int) (fl uf : Int) (hv al ms : Bool) (ja : Option Addr) (jn jc : Nat) (w : World) (hps : PS w p B uf ms ja jn jc []) (hn : n ≤ 524288) (hB : B ≤ w.heap.size) (hsl : Fsl w a n (fun i => .int .u16 (Z i))) (hZ : ∀ i, i < n → 0 ≤ Z i ∧ Z i ≤ 65535) (hab : ∀ x, a = some x → x.block < B) (hpB : B ≤ p)
  (hT : (bits .and .u64 uf 72057594037927936 != 0) = hv) (hS : (bits .and .u64 uf 68719476736 != 0) = false) (hal : (bits .and .u8 (if hv then bits .and .u8 fl 254 else fl) 1 != 0) = al) :
    Calls Tryf.prog 34 #[.pointer (some ⟨p, 0, none⟩), .slice a n c, .int .u8 fl] w (QPo w p B (qch (cntu Z 39 n) (cntu Z 34 n) (bkc Z n ms n) al) n) := by
  have HH := Lib.hid (fun w => has uf 72057594037927936 hv w hT)
  have HH2 := Lib.hid (fun w => has uf 68719476736 false w hS)
  have HSL := Lib.hid hsl
  have HZ := Lib.hid hZ
  have HP := Lib.hid hps
  have c24 := hps.c24
  have c30 := hps.c30
  have HAB := Lib.hid hab
  have hpl : p < w.heap.size := World.block_lt_of_cell? w _ hps.c9
  clear hsl hZ hps hT hS hab
  cases hv
  · go_enter Tryf.func34, Tryf.ntmps34
    simp only [if_true, Bool.false_eq_true, if_false] at hal
    go_wp2_with (go_at_call 37; refine (HH.out _).mono ?_; rintro e w1 ⟨rfl, rfl⟩)
    have HAL := Lib.hid hal
    go_loopw [6, 7, 8, 22] (fun sg db bk i wr => ∃ k : Nat, k ≤ n ∧ i = .int .i64 k ∧ sg = .int .i64 (cntu Z 39 k : Nat) ∧ db = .int .i64 (cntu Z 34 k : Nat) ∧ bk = .int .i64 (bkc Z n ms k) ∧ wr = w1) (fun _ _ _ i _ => n - (intOf i).toNat)
    case atStart => exact ⟨0, Nat.zero_le _, rfl, rfl, rfl, rfl, rfl⟩
    case round =>
      obtain ⟨k, hk, rfl, rfl, rfl, rfl, rfl⟩ := hrel
      by_cases hlt : k < n
      · obtain ⟨b, off, e, hlb, hc⟩ := HSL.out.at k hlt
        subst e
        have hk2 : (k : Int) < (n : Int) := by omega
        have hc39 := cntu_le Z 39 k
        have hc34 := cntu_le Z 34 k
        have hcb := bkc_le Z n ms k
        generalize hz : Z k = z at hc
        have HZK := Lib.hid hz
        clear hz
        by_cases z10 : z = 10
        · subst z10
          cases ms
          · go_wp2_with fail
            go_roundw
            case rel => exact ⟨k + 1, by omega, by go_num, by simp [cntu, HZK.out], by simp [cntu, HZK.out], (by simp [bkc, bst, HZK.out]; try omega), by trivial⟩
            case measure => simp [intOf]; omega
          · go_wp2_with fail
            go_roundw
            case rel => exact ⟨k + 1, by omega, by go_num, by simp [cntu, HZK.out], by simp [cntu, HZK.out], (by simp [bkc, bst, HZK.out]; try omega), by trivial⟩
            case measure => simp [intOf]; omega
        by_cases z39 : z = 39
        · subst z39
          go_wp2_with fail
          go_roundw
          case rel => exact ⟨k + 1, by omega, by go_num, by simp [cntu, HZK.out], by simp [cntu, HZK.out], (by simp [bkc, bst, HZK.out]; try omega), by trivial⟩
          case measure => simp [intOf]; omega
        by_cases z34 : z = 34
        · subst z34
          go_wp2_with fail
          go_roundw
          case rel => exact ⟨k + 1, by omega, by go_num, by simp [cntu, HZK.out], by simp [cntu, HZK.out], (by simp [bkc, bst, HZK.out]; try omega), by trivial⟩
          case measure => simp [intOf]; omega
        by_cases z96 : z = 96
        · subst z96
          go_wp2_with fail
          go_roundw
          case rel => exact ⟨k + 1, by omega, by go_num, by simp [cntu, HZK.out], by simp [cntu, HZK.out], (by simp [bkc, bst, HZK.out]; try omega), by trivial⟩
          case measure => simp [intOf]; omega
        by_cases z36 : z = 36
        · subst z36
          by_cases hk3 : k + 1 < n
          · have hk4 : (k : Int) + 1 < (n : Int) := by omega
            have hcy := HSL.out.cell (k + 1) hk3
            generalize hy : Z (k + 1) = y at hcy
            have HYK := Lib.hid hy
            clear hy
            by_cases y123 : y = 123
            · subst y123
              go_wp2_with fail
              go_roundw
              case rel => exact ⟨k + 1, by omega, by go_num, by simp [cntu, HZK.out, HYK.out, hk3], by simp [cntu, HZK.out, HYK.out, hk3], (by simp [bkc, bst, HZK.out, HYK.out, hk3]; try omega), by trivial⟩
              case measure => simp [intOf]; omega
            · have y2 : (y == 123) = false := by simpa using y123
              go_wp2_with fail
              go_roundw
              case rel => exact ⟨k + 1, by omega, by go_num, by simp [cntu, HZK.out, HYK.out, hk3, y123], by simp [cntu, HZK.out, HYK.out, hk3, y123], (by simp [bkc, bst, HZK.out, HYK.out, hk3, y123]; try omega), by trivial⟩
              case measure => simp [intOf]; omega
          · have hk4 : ¬ (k : Int) + 1 < (n : Int) := by omega
            go_wp2_with fail
            go_roundw
            case rel => exact ⟨k + 1, by omega, by go_num, by simp [cntu, HZK.out, hk3], by simp [cntu, HZK.out, hk3], (by simp [bkc, bst, HZK.out, hk3]; try omega), by trivial⟩
            case measure => simp [intOf]; omega
        have y10 : (z == 10) = false := by simpa using z10
        have y39 : (z == 39) = false := by simpa using z39
        have y34 : (z == 34) = false := by simpa using z34
        have y96 : (z == 96) = false := by simpa using z96
        have y36 : (z == 36) = false := by simpa using z36
        go_wp2_with fail
        go_roundw
        case rel => exact ⟨k + 1, by omega, by go_num, by simp [cntu, HZK.out, z10, z39, z34, z96, z36], by simp [cntu, HZK.out, z10, z39, z34, z96, z36], (by simp [bkc, bst, HZK.out, z10, z39, z34, z96, z36]; try omega), by trivial⟩
        case measure => simp [intOf]; omega
      · obtain rfl : k = n := by omega
        have hk2 : ¬ (k : Int) < (k : Int) := by omega
        obtain ⟨sg, hsg⟩ : ∃ sg : Int, (cntu Z 39 k : Int) = sg := ⟨_, rfl⟩
        obtain ⟨db, hdb⟩ : ∃ db : Int, (cntu Z 34 k : Int) = db := ⟨_, rfl⟩
        obtain ⟨bk, hbk⟩ : ∃ bk : Int, bkc Z k ms k = bk := ⟨_, rfl⟩
        rw [hsg, hdb, hbk]
        have SG := Lib.hid hsg
        have DB := Lib.hid hdb
        have BK := Lib.hid hbk
        clear hsg hdb hbk
        by_cases h1 : sg < db
        · by_cases h2 : bk < sg
          · cases al
            · have e : qch (cntu Z 39 k) (cntu Z 34 k) (bkc Z k ms k) false = 39 := by rw [SG.out, DB.out, BK.out]; simp [qch, h1, h2]
              have E := Lib.hid e
              clear e
              have P1 := Lib.hid (prt9 ⟨#[39]⟩ (ps_p9 HP.out) hB hpB (by simp [ByteArray.size]))
              go_wp2_with (first | (have P0 := P1; clear P1; go_at_call 38; refine P0.out.mono ?_; clear P0; rintro e w2 ⟨rfl, ja2, jn2, jc2, h2, b2, k2⟩; have P2 := Lib.hid h2; have B2 := Lib.hid b2; have U1 := Lib.hid (fun q fl => uq9 (c := c) (Z := Z) q fl h2 (k2 _ _ (by omega) HP.out.c26) (k2 _ _ (by omega) HP.out.c24) (k2 _ _ (by omega) HP.out.c31) hn (Nat.le_trans hB b2.size) hpB (HSL.out.belowB HAB.out b2) HZ.out HAB.out (by simp [Lib.strCells]) HH2.out); clear h2 b2 k2) | (have U0 := U1; clear U1; go_at_call 35; refine (U0.out _ _).mono ?_; clear U0; rintro e w3 ⟨rfl, ja3, jn3, jc3, X, h3, l3, b3⟩; have P3 := Lib.hid (prt9 ⟨#[39]⟩ h3 (Nat.le_trans hB (Nat.le_trans B2.out.size b3.size)) hpB (by simp [Lib.strCells, ByteArray.size]; omega)); have B3 := Lib.hid b3; have L3 := Lib.hid l3; clear h3 b3 l3) | (go_at_call 38; refine P3.out.mono ?_; rintro e w4 ⟨rfl, ja4, jn4, jc4, h4, b4, k4⟩; have P4 := Lib.hid h4; have B4 := Lib.hid b4; clear h4 b4 k4))
              go_end0
              rw [E.out]
              exact qpo_fin ⟨#[39]⟩ sc39 P4.out L3.out ((B2.out.trans B3.out).trans B4.out)
            · have e : qch (cntu Z 39 k) (cntu Z 34 k) (bkc Z k ms k) true = 96 := by rw [SG.out, DB.out, BK.out]; simp [qch, h1, h2]
              have E := Lib.hid e
              clear e
              have P1 := Lib.hid (prt9 ⟨#[96]⟩ (ps_p9 HP.out) hB hpB (by simp [ByteArray.size]))
              go_wp2_with (first | (have P0 := P1; clear P1; go_at_call 38; refine P0.out.mono ?_; clear P0; rintro e w2 ⟨rfl, ja2, jn2, jc2, h2, b2, k2⟩; have P2 := Lib.hid h2; have B2 := Lib.hid b2; have U1 := Lib.hid (fun q fl => uq9 (c := c) (Z := Z) q fl h2 (k2 _ _ (by omega) HP.out.c26) (k2 _ _ (by omega) HP.out.c24) (k2 _ _ (by omega) HP.out.c31) hn (Nat.le_trans hB b2.size) hpB (HSL.out.belowB HAB.out b2) HZ.out HAB.out (by simp [Lib.strCells]) HH2.out); clear h2 b2 k2) | (have U0 := U1; clear U1; go_at_call 35; refine (U0.out _ _).mono ?_; clear U0; rintro e w3 ⟨rfl, ja3, jn3, jc3, X, h3, l3, b3⟩; have P3 := Lib.hid (prt9 ⟨#[96]⟩ h3 (Nat.le_trans hB (Nat.le_trans B2.out.size b3.size)) hpB (by simp [Lib.strCells, ByteArray.size]; omega)); have B3 := Lib.hid b3; have L3 := Lib.hid l3; clear h3 b3 l3) | (go_at_call 38; refine P3.out.mono ?_; rintro e w4 ⟨rfl, ja4, jn4, jc4, h4, b4, k4⟩; have P4 := Lib.hid h4; have B4 := Lib.hid b4; clear h4 b4 k4))
              go_end0
              rw [E.out]
              exact qpo_fin ⟨#[96]⟩ sc96 P4.out L3.out ((B2.out.trans B3.out).trans B4.out)
          · have e : qch (cntu Z 39 k) (cntu Z 34 k) (bkc Z k ms k) al = 39 := by rw [SG.out, DB.out, BK.out]; simp [qch, h1, h2]
            have E := Lib.hid e
            clear e
            have P1 := Lib.hid (prt9 ⟨#[39]⟩ (ps_p9 HP.out) hB hpB (by simp [ByteArray.size]))
            go_wp2_with (first | (have P0 := P1; clear P1; go_at_call 38; refine P0.out.mono ?_; clear P0; rintro e w2 ⟨rfl, ja2, jn2, jc2, h2, b2, k2⟩; have P2 := Lib.hid h2; have B2 := Lib.hid b2; have U1 := Lib.hid (fun q fl => uq9 (c := c) (Z := Z) q fl h2 (k2 _ _ (by omega) HP.out.c26) (k2 _ _ (by omega) HP.out.c24) (k2 _ _ (by omega) HP.out.c31) hn (Nat.le_trans hB b2.size) hpB (HSL.out.belowB HAB.out b2) HZ.out HAB.out (by simp [Lib.strCells]) HH2.out); clear h2 b2 k2) | (have U0 := U1; clear U1; go_at_call 35; refine (U0.out _ _).mono ?_; clear U0; rintro e w3 ⟨rfl, ja3, jn3, jc3, X, h3, l3, b3⟩; have P3 := Lib.hid (prt9 ⟨#[39]⟩ h3 (Nat.le_trans hB (Nat.le_trans B2.out.size b3.size)) hpB (by simp [Lib.strCells, ByteArray.size]; omega)); have B3 := Lib.hid b3; have L3 := Lib.hid l3; clear h3 b3 l3) | (go_at_call 38; refine P3.out.mono ?_; rintro e w4 ⟨rfl, ja4, jn4, jc4, h4, b4, k4⟩; have P4 := Lib.hid h4; have B4 := Lib.hid b4; clear h4 b4 k4))
            go_end0
            rw [E.out]
            exact qpo_fin ⟨#[39]⟩ sc39 P4.out L3.out ((B2.out.trans B3.out).trans B4.out)
        · by_cases h2 : bk < db
          · cases al
            · have e : qch (cntu Z 39 k) (cntu Z 34 k) (bkc Z k ms k) false = 34 := by rw [SG.out, DB.out, BK.out]; simp [qch, h1, h2]
              have E := Lib.hid e
              clear e
              have P1 := Lib.hid (prt9 ⟨#[34]⟩ (ps_p9 HP.out) hB hpB (by simp [ByteArray.size]))
              go_wp2_with (first | (have P0 := P1; clear P1; go_at_call 38; refine P0.out.mono ?_; clear P0; rintro e w2 ⟨rfl, ja2, jn2, jc2, h2, b2, k2⟩; have P2 := Lib.hid h2; have B2 := Lib.hid b2; have U1 := Lib.hid (fun q fl => uq9 (c := c) (Z := Z) q fl h2 (k2 _ _ (by omega) HP.out.c26) (k2 _ _ (by omega) HP.out.c24) (k2 _ _ (by omega) HP.out.c31) hn (Nat.le_trans hB b2.size) hpB (HSL.out.belowB HAB.out b2) HZ.out HAB.out (by simp [Lib.strCells]) HH2.out); clear h2 b2 k2) | (have U0 := U1; clear U1; go_at_call 35; refine (U0.out _ _).mono ?_; clear U0; rintro e w3 ⟨rfl, ja3, jn3, jc3, X, h3, l3, b3⟩; have P3 := Lib.hid (prt9 ⟨#[34]⟩ h3 (Nat.le_trans hB (Nat.le_trans B2.out.size b3.size)) hpB (by simp [Lib.strCells, ByteArray.size]; omega)); have B3 := Lib.hid b3; have L3 := Lib.hid l3; clear h3 b3 l3) | (go_at_call 38; refine P3.out.mono ?_; rintro e w4 ⟨rfl, ja4, jn4, jc4, h4, b4, k4⟩; have P4 := Lib.hid h4; have B4 := Lib.hid b4; clear h4 b4 k4))
              go_end0
              rw [E.out]
              exact qpo_fin ⟨#[34]⟩ sc34 P4.out L3.out ((B2.out.trans B3.out).trans B4.out)
            · have e : qch (cntu Z 39 k) (cntu Z 34 k) (bkc Z k ms k) true = 96 := by rw [SG.out, DB.out, BK.out]; simp [qch, h1, h2]
              have E := Lib.hid e
              clear e
              have P1 := Lib.hid (prt9 ⟨#[96]⟩ (ps_p9 HP.out) hB hpB (by simp [ByteArray.size]))
              go_wp2_with (first | (have P0 := P1; clear P1; go_at_call 38; refine P0.out.mono ?_; clear P0; rintro e w2 ⟨rfl, ja2, jn2, jc2, h2, b2, k2⟩; have P2 := Lib.hid h2; have B2 := Lib.hid b2; have U1 := Lib.hid (fun q fl => uq9 (c := c) (Z := Z) q fl h2 (k2 _ _ (by omega) HP.out.c26) (k2 _ _ (by omega) HP.out.c24) (k2 _ _ (by omega) HP.out.c31) hn (Nat.le_trans hB b2.size) hpB (HSL.out.belowB HAB.out b2) HZ.out HAB.out (by simp [Lib.strCells]) HH2.out); clear h2 b2 k2) | (have U0 := U1; clear U1; go_at_call 35; refine (U0.out _ _).mono ?_; clear U0; rintro e w3 ⟨rfl, ja3, jn3, jc3, X, h3, l3, b3⟩; have P3 := Lib.hid (prt9 ⟨#[96]⟩ h3 (Nat.le_trans hB (Nat.le_trans B2.out.size b3.size)) hpB (by simp [Lib.strCells, ByteArray.size]; omega)); have B3 := Lib.hid b3; have L3 := Lib.hid l3; clear h3 b3 l3) | (go_at_call 38; refine P3.out.mono ?_; rintro e w4 ⟨rfl, ja4, jn4, jc4, h4, b4, k4⟩; have P4 := Lib.hid h4; have B4 := Lib.hid b4; clear h4 b4 k4))
              go_end0
              rw [E.out]
              exact qpo_fin ⟨#[96]⟩ sc96 P4.out L3.out ((B2.out.trans B3.out).trans B4.out)
          · have e : qch (cntu Z 39 k) (cntu Z 34 k) (bkc Z k ms k) al = 34 := by rw [SG.out, DB.out, BK.out]; simp [qch, h1, h2]
            have E := Lib.hid e
            clear e
            have P1 := Lib.hid (prt9 ⟨#[34]⟩ (ps_p9 HP.out) hB hpB (by simp [ByteArray.size]))
            go_wp2_with (first | (have P0 := P1; clear P1; go_at_call 38; refine P0.out.mono ?_; clear P0; rintro e w2 ⟨rfl, ja2, jn2, jc2, h2, b2, k2⟩; have P2 := Lib.hid h2; have B2 := Lib.hid b2; have U1 := Lib.hid (fun q fl => uq9 (c := c) (Z := Z) q fl h2 (k2 _ _ (by omega) HP.out.c26) (k2 _ _ (by omega) HP.out.c24) (k2 _ _ (by omega) HP.out.c31) hn (Nat.le_trans hB b2.size) hpB (HSL.out.belowB HAB.out b2) HZ.out HAB.out (by simp [Lib.strCells]) HH2.out); clear h2 b2 k2) | (have U0 := U1; clear U1; go_at_call 35; refine (U0.out _ _).mono ?_; clear U0; rintro e w3 ⟨rfl, ja3, jn3, jc3, X, h3, l3, b3⟩; have P3 := Lib.hid (prt9 ⟨#[34]⟩ h3 (Nat.le_trans hB (Nat.le_trans B2.out.size b3.size)) hpB (by simp [Lib.strCells, ByteArray.size]; omega)); have B3 := Lib.hid b3; have L3 := Lib.hid l3; clear h3 b3 l3) | (go_at_call 38; refine P3.out.mono ?_; rintro e w4 ⟨rfl, ja4, jn4, jc4, h4, b4, k4⟩; have P4 := Lib.hid h4; have B4 := Lib.hid b4; clear h4 b4 k4))
            go_end0
            rw [E.out]
            exact qpo_fin ⟨#[34]⟩ sc34 P4.out L3.out ((B2.out.trans B3.out).trans B4.out)
  · go_enter Tryf.func34, Tryf.ntmps34
    simp only [if_true, Bool.false_eq_true, if_false] at hal
    go_wp2_with (go_at_call 37; refine (HH.out _).mono ?_; rintro e w1 ⟨rfl, rfl⟩)
    have HAL := Lib.hid hal
    go_loopw [6, 7, 8, 22] (fun sg db bk i wr => ∃ k : Nat, k ≤ n ∧ i = .int .i64 k ∧ sg = .int .i64 (cntu Z 39 k : Nat) ∧ db = .int .i64 (cntu Z 34 k : Nat) ∧ bk = .int .i64 (bkc Z n ms k) ∧ wr = w1) (fun _ _ _ i _ => n - (intOf i).toNat)
    case atStart => exact ⟨0, Nat.zero_le _, rfl, rfl, rfl, rfl, rfl⟩
    case round =>
      obtain ⟨k, hk, rfl, rfl, rfl, rfl, rfl⟩ := hrel
      by_cases hlt : k < n
      · obtain ⟨b, off, e, hlb, hc⟩ := HSL.out.at k hlt
        subst e
        have hk2 : (k : Int) < (n : Int) := by omega
        have hc39 := cntu_le Z 39 k
        have hc34 := cntu_le Z 34 k
        have hcb := bkc_le Z n ms k
        generalize hz : Z k = z at hc
        have HZK := Lib.hid hz
        clear hz
        by_cases z10 : z = 10
        · subst z10
          cases ms
          · go_wp2_with fail
            go_roundw
            case rel => exact ⟨k + 1, by omega, by go_num, by simp [cntu, HZK.out], by simp [cntu, HZK.out], (by simp [bkc, bst, HZK.out]; try omega), by trivial⟩
            case measure => simp [intOf]; omega
          · go_wp2_with fail
            go_roundw
            case rel => exact ⟨k + 1, by omega, by go_num, by simp [cntu, HZK.out], by simp [cntu, HZK.out], (by simp [bkc, bst, HZK.out]; try omega), by trivial⟩
            case measure => simp [intOf]; omega
        by_cases z39 : z = 39
        · subst z39
          go_wp2_with fail
          go_roundw
          case rel => exact ⟨k + 1, by omega, by go_num, by simp [cntu, HZK.out], by simp [cntu, HZK.out], (by simp [bkc, bst, HZK.out]; try omega), by trivial⟩
          case measure => simp [intOf]; omega
        by_cases z34 : z = 34
        · subst z34
          go_wp2_with fail
          go_roundw
          case rel => exact ⟨k + 1, by omega, by go_num, by simp [cntu, HZK.out], by simp [cntu, HZK.out], (by simp [bkc, bst, HZK.out]; try omega), by trivial⟩
          case measure => simp [intOf]; omega
        by_cases z96 : z = 96
        · subst z96
          go_wp2_with fail
          go_roundw
          case rel => exact ⟨k + 1, by omega, by go_num, by simp [cntu, HZK.out], by simp [cntu, HZK.out], (by simp [bkc, bst, HZK.out]; try omega), by trivial⟩
          case measure => simp [intOf]; omega
        by_cases z36 : z = 36
        · subst z36
          by_cases hk3 : k + 1 < n
          · have hk4 : (k : Int) + 1 < (n : Int) := by omega
            have hcy := HSL.out.cell (k + 1) hk3
            generalize hy : Z (k + 1) = y at hcy
            have HYK := Lib.hid hy
            clear hy
            by_cases y123 : y = 123
            · subst y123
              go_wp2_with fail
              go_roundw
              case rel => exact ⟨k + 1, by omega, by go_num, by simp [cntu, HZK.out, HYK.out, hk3], by simp [cntu, HZK.out, HYK.out, hk3], (by simp [bkc, bst, HZK.out, HYK.out, hk3]; try omega), by trivial⟩
              case measure => simp [intOf]; omega
            · have y2 : (y == 123) = false := by simpa using y123
              go_wp2_with fail
              go_roundw
              case rel => exact ⟨k + 1, by omega, by go_num, by simp [cntu, HZK.out, HYK.out, hk3, y123], by simp [cntu, HZK.out, HYK.out, hk3, y123], (by simp [bkc, bst, HZK.out, HYK.out, hk3, y123]; try omega), by trivial⟩
              case measure => simp [intOf]; omega
          · have hk4 : ¬ (k : Int) + 1 < (n : Int) := by omega
            go_wp2_with fail
            go_roundw
            case rel => exact ⟨k + 1, by omega, by go_num, by simp [cntu, HZK.out, hk3], by simp [cntu, HZK.out, hk3], (by simp [bkc, bst, HZK.out, hk3]; try omega), by trivial⟩
            case measure => simp [intOf]; omega
        have y10 : (z == 10) = false := by simpa using z10
        have y39 : (z == 39) = false := by simpa using z39
        have y34 : (z == 34) = false := by simpa using z34
        have y96 : (z == 96) = false := by simpa using z96
        have y36 : (z == 36) = false := by simpa using z36
        go_wp2_with fail
        go_roundw
        case rel => exact ⟨k + 1, by omega, by go_num, by simp [cntu, HZK.out, z10, z39, z34, z96, z36], by simp [cntu, HZK.out, z10, z39, z34, z96, z36], (by simp [bkc, bst, HZK.out, z10, z39, z34, z96, z36]; try omega), by trivial⟩
        case measure => simp [intOf]; omega
      · obtain rfl : k = n := by omega
        have hk2 : ¬ (k : Int) < (k : Int) := by omega
        obtain ⟨sg, hsg⟩ : ∃ sg : Int, (cntu Z 39 k : Int) = sg := ⟨_, rfl⟩
        obtain ⟨db, hdb⟩ : ∃ db : Int, (cntu Z 34 k : Int) = db := ⟨_, rfl⟩
        obtain ⟨bk, hbk⟩ : ∃ bk : Int, bkc Z k ms k = bk := ⟨_, rfl⟩
        rw [hsg, hdb, hbk]
        have SG := Lib.hid hsg
        have DB := Lib.hid hdb
        have BK := Lib.hid hbk
        clear hsg hdb hbk
        by_cases h1 : sg < db
        · by_cases h2 : bk < sg
          · cases al
            · have e : qch (cntu Z 39 k) (cntu Z 34 k) (bkc Z k ms k) false = 39 := by rw [SG.out, DB.out, BK.out]; simp [qch, h1, h2]
              have E := Lib.hid e
              clear e
              have P1 := Lib.hid (prt9 ⟨#[39]⟩ (ps_p9 HP.out) hB hpB (by simp [ByteArray.size]))
              go_wp2_with (first | (have P0 := P1; clear P1; go_at_call 38; refine P0.out.mono ?_; clear P0; rintro e w2 ⟨rfl, ja2, jn2, jc2, h2, b2, k2⟩; have P2 := Lib.hid h2; have B2 := Lib.hid b2; have U1 := Lib.hid (fun q fl => uq9 (c := c) (Z := Z) q fl h2 (k2 _ _ (by omega) HP.out.c26) (k2 _ _ (by omega) HP.out.c24) (k2 _ _ (by omega) HP.out.c31) hn (Nat.le_trans hB b2.size) hpB (HSL.out.belowB HAB.out b2) HZ.out HAB.out (by simp [Lib.strCells]) HH2.out); clear h2 b2 k2) | (have U0 := U1; clear U1; go_at_call 35; refine (U0.out _ _).mono ?_; clear U0; rintro e w3 ⟨rfl, ja3, jn3, jc3, X, h3, l3, b3⟩; have P3 := Lib.hid (prt9 ⟨#[39]⟩ h3 (Nat.le_trans hB (Nat.le_trans B2.out.size b3.size)) hpB (by simp [Lib.strCells, ByteArray.size]; omega)); have B3 := Lib.hid b3; have L3 := Lib.hid l3; clear h3 b3 l3) | (go_at_call 38; refine P3.out.mono ?_; rintro e w4 ⟨rfl, ja4, jn4, jc4, h4, b4, k4⟩; have P4 := Lib.hid h4; have B4 := Lib.hid b4; clear h4 b4 k4))
              go_end0
              rw [E.out]
              exact qpo_fin ⟨#[39]⟩ sc39 P4.out L3.out ((B2.out.trans B3.out).trans B4.out)
            · have e : qch (cntu Z 39 k) (cntu Z 34 k) (bkc Z k ms k) true = 96 := by rw [SG.out, DB.out, BK.out]; simp [qch, h1, h2]
              have E := Lib.hid e
              clear e
              have P1 := Lib.hid (prt9 ⟨#[96]⟩ (ps_p9 HP.out) hB hpB (by simp [ByteArray.size]))
              go_wp2_with (first | (have P0 := P1; clear P1; go_at_call 38; refine P0.out.mono ?_; clear P0; rintro e w2 ⟨rfl, ja2, jn2, jc2, h2, b2, k2⟩; have P2 := Lib.hid h2; have B2 := Lib.hid b2; have U1 := Lib.hid (fun q fl => uq9 (c := c) (Z := Z) q fl h2 (k2 _ _ (by omega) HP.out.c26) (k2 _ _ (by omega) HP.out.c24) (k2 _ _ (by omega) HP.out.c31) hn (Nat.le_trans hB b2.size) hpB (HSL.out.belowB HAB.out b2) HZ.out HAB.out (by simp [Lib.strCells]) HH2.out); clear h2 b2 k2) | (have U0 := U1; clear U1; go_at_call 35; refine (U0.out _ _).mono ?_; clear U0; rintro e w3 ⟨rfl, ja3, jn3, jc3, X, h3, l3, b3⟩; have P3 := Lib.hid (prt9 ⟨#[96]⟩ h3 (Nat.le_trans hB (Nat.le_trans B2.out.size b3.size)) hpB (by simp [Lib.strCells, ByteArray.size]; omega)); have B3 := Lib.hid b3; have L3 := Lib.hid l3; clear h3 b3 l3) | (go_at_call 38; refine P3.out.mono ?_; rintro e w4 ⟨rfl, ja4, jn4, jc4, h4, b4, k4⟩; have P4 := Lib.hid h4; have B4 := Lib.hid b4; clear h4 b4 k4))
              go_end0
              rw [E.out]
              exact qpo_fin ⟨#[96]⟩ sc96 P4.out L3.out ((B2.out.trans B3.out).trans B4.out)
          · have e : qch (cntu Z 39 k) (cntu Z 34 k) (bkc Z k ms k) al = 39 := by rw [SG.out, DB.out, BK.out]; simp [qch, h1, h2]
            have E := Lib.hid e
            clear e
            have P1 := Lib.hid (prt9 ⟨#[39]⟩ (ps_p9 HP.out) hB hpB (by simp [ByteArray.size]))
            go_wp2_with (first | (have P0 := P1; clear P1; go_at_call 38; refine P0.out.mono ?_; clear P0; rintro e w2 ⟨rfl, ja2, jn2, jc2, h2, b2, k2⟩; have P2 := Lib.hid h2; have B2 := Lib.hid b2; have U1 := Lib.hid (fun q fl => uq9 (c := c) (Z := Z) q fl h2 (k2 _ _ (by omega) HP.out.c26) (k2 _ _ (by omega) HP.out.c24) (k2 _ _ (by omega) HP.out.c31) hn (Nat.le_trans hB b2.size) hpB (HSL.out.belowB HAB.out b2) HZ.out HAB.out (by simp [Lib.strCells]) HH2.out); clear h2 b2 k2) | (have U0 := U1; clear U1; go_at_call 35; refine (U0.out _ _).mono ?_; clear U0; rintro e w3 ⟨rfl, ja3, jn3, jc3, X, h3, l3, b3⟩; have P3 := Lib.hid (prt9 ⟨#[39]⟩ h3 (Nat.le_trans hB (Nat.le_trans B2.out.size b3.size)) hpB (by simp [Lib.strCells, ByteArray.size]; omega)); have B3 := Lib.hid b3; have L3 := Lib.hid l3; clear h3 b3 l3) | (go_at_call 38; refine P3.out.mono ?_; rintro e w4 ⟨rfl, ja4, jn4, jc4, h4, b4, k4⟩; have P4 := Lib.hid h4; have B4 := Lib.hid b4; clear h4 b4 k4))
            go_end0
            rw [E.out]
            exact qpo_fin ⟨#[39]⟩ sc39 P4.out L3.out ((B2.out.trans B3.out).trans B4.out)
        · by_cases h2 : bk < db
          · cases al
            · have e : qch (cntu Z 39 k) (cntu Z 34 k) (bkc Z k ms k) false = 34 := by rw [SG.out, DB.out, BK.out]; simp [qch, h1, h2]
              have E := Lib.hid e
              clear e
              have P1 := Lib.hid (prt9 ⟨#[34]⟩ (ps_p9 HP.out) hB hpB (by simp [ByteArray.size]))
              go_wp2_with (first | (have P0 := P1; clear P1; go_at_call 38; refine P0.out.mono ?_; clear P0; rintro e w2 ⟨rfl, ja2, jn2, jc2, h2, b2, k2⟩; have P2 := Lib.hid h2; have B2 := Lib.hid b2; have U1 := Lib.hid (fun q fl => uq9 (c := c) (Z := Z) q fl h2 (k2 _ _ (by omega) HP.out.c26) (k2 _ _ (by omega) HP.out.c24) (k2 _ _ (by omega) HP.out.c31) hn (Nat.le_trans hB b2.size) hpB (HSL.out.belowB HAB.out b2) HZ.out HAB.out (by simp [Lib.strCells]) HH2.out); clear h2 b2 k2) | (have U0 := U1; clear U1; go_at_call 35; refine (U0.out _ _).mono ?_; clear U0; rintro e w3 ⟨rfl, ja3, jn3, jc3, X, h3, l3, b3⟩; have P3 := Lib.hid (prt9 ⟨#[34]⟩ h3 (Nat.le_trans hB (Nat.le_trans B2.out.size b3.size)) hpB (by simp [Lib.strCells, ByteArray.size]; omega)); have B3 := Lib.hid b3; have L3 := Lib.hid l3; clear h3 b3 l3) | (go_at_call 38; refine P3.out.mono ?_; rintro e w4 ⟨rfl, ja4, jn4, jc4, h4, b4, k4⟩; have P4 := Lib.hid h4; have B4 := Lib.hid b4; clear h4 b4 k4))
              go_end0
              rw [E.out]
              exact qpo_fin ⟨#[34]⟩ sc34 P4.out L3.out ((B2.out.trans B3.out).trans B4.out)
            · have e : qch (cntu Z 39 k) (cntu Z 34 k) (bkc Z k ms k) true = 96 := by rw [SG.out, DB.out, BK.out]; simp [qch, h1, h2]
              have E := Lib.hid e
              clear e
              have P1 := Lib.hid (prt9 ⟨#[96]⟩ (ps_p9 HP.out) hB hpB (by simp [ByteArray.size]))
              go_wp2_with (first | (have P0 := P1; clear P1; go_at_call 38; refine P0.out.mono ?_; clear P0; rintro e w2 ⟨rfl, ja2, jn2, jc2, h2, b2, k2⟩; have P2 := Lib.hid h2; have B2 := Lib.hid b2; have U1 := Lib.hid (fun q fl => uq9 (c := c) (Z := Z) q fl h2 (k2 _ _ (by omega) HP.out.c26) (k2 _ _ (by omega) HP.out.c24) (k2 _ _ (by omega) HP.out.c31) hn (Nat.le_trans hB b2.size) hpB (HSL.out.belowB HAB.out b2) HZ.out HAB.out (by simp [Lib.strCells]) HH2.out); clear h2 b2 k2) | (have U0 := U1; clear U1; go_at_call 35; refine (U0.out _ _).mono ?_; clear U0; rintro e w3 ⟨rfl, ja3, jn3, jc3, X, h3, l3, b3⟩; have P3 := Lib.hid (prt9 ⟨#[96]⟩ h3 (Nat.le_trans hB (Nat.le_trans B2.out.size b3.size)) hpB (by simp [Lib.strCells, ByteArray.size]; omega)); have B3 := Lib.hid b3; have L3 := Lib.hid l3; clear h3 b3 l3) | (go_at_call 38; refine P3.out.mono ?_; rintro e w4 ⟨rfl, ja4, jn4, jc4, h4, b4, k4⟩; have P4 := Lib.hid h4; have B4 := Lib.hid b4; clear h4 b4 k4))
              go_end0
              rw [E.out]
              exact qpo_fin ⟨#[96]⟩ sc96 P4.out L3.out ((B2.out.trans B3.out).trans B4.out)
          · have e : qch (cntu Z 39 k) (cntu Z 34 k) (bkc Z k ms k) al = 34 := by rw [SG.out, DB.out, BK.out]; simp [qch, h1, h2]
            have E := Lib.hid e
            clear e
            have P1 := Lib.hid (prt9 ⟨#[34]⟩ (ps_p9 HP.out) hB hpB (by simp [ByteArray.size]))
            go_wp2_with (first | (have P0 := P1; clear P1; go_at_call 38; refine P0.out.mono ?_; clear P0; rintro e w2 ⟨rfl, ja2, jn2, jc2, h2, b2, k2⟩; have P2 := Lib.hid h2; have B2 := Lib.hid b2; have U1 := Lib.hid (fun q fl => uq9 (c := c) (Z := Z) q fl h2 (k2 _ _ (by omega) HP.out.c26) (k2 _ _ (by omega) HP.out.c24) (k2 _ _ (by omega) HP.out.c31) hn (Nat.le_trans hB b2.size) hpB (HSL.out.belowB HAB.out b2) HZ.out HAB.out (by simp [Lib.strCells]) HH2.out); clear h2 b2 k2) | (have U0 := U1; clear U1; go_at_call 35; refine (U0.out _ _).mono ?_; clear U0; rintro e w3 ⟨rfl, ja3, jn3, jc3, X, h3, l3, b3⟩; have P3 := Lib.hid (prt9 ⟨#[34]⟩ h3 (Nat.le_trans hB (Nat.le_trans B2.out.size b3.size)) hpB (by simp [Lib.strCells, ByteArray.size]; omega)); have B3 := Lib.hid b3; have L3 := Lib.hid l3; clear h3 b3 l3) | (go_at_call 38; refine P3.out.mono ?_; rintro e w4 ⟨rfl, ja4, jn4, jc4, h4, b4, k4⟩; have P4 := Lib.hid h4; have B4 := Lib.hid b4; clear h4 b4 k4))
            go_end0
            rw [E.out]
            exact qpo_fin ⟨#[34]⟩ sc34 P4.out L3.out ((B2.out.trans B3.out).trans B4.out)
end Go.Proofs.YtfhafelkkophgaaFmt.Aux
