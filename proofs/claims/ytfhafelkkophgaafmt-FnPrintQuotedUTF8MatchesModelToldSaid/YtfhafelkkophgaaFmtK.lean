/- Contracts of functions that the law of this seat reaches, and plain facts; no condition. -/
import Derived.Test.YtfhafelkkophgaaFmtProg
import Derived.WalkKit
import Derived.ProofKit
import Derived.OpenShut
import Derived.ShutString
import Derived.Test.YtfhafelkkophgaaFmtAid
import Derived.Test.YtfhafelkkophgaaFmtCU
import Derived.Test.YtfhafelkkophgaaFmtV4
import Derived.ArgAppend
import Derived.WalkSmall
import Derived.Lib.OthersKept
import Derived.Laws.RangeAny
import Derived.Laws.OwnMore
import Derived.WalkSpells
import Derived.LoopTactic
import Derived.IntWalk
import Derived.Outline
import Derived.Deep.QuietTactic
import Derived.BigQuiet
import Derived.Deep.RegionHeld3
import Derived.Deep.RegionLaw
import Derived.StillTailTactics
import Derived.OwnWalk
import Derived.RegionTactic
import Derived.Laws.BitsAllLaws
import Derived.Laws.BitsLemmas
import Derived.Lib.ConvBytes
namespace Go.Proofs.YtfhafelkkophgaaFmt.Aux
open Go.ChangeShapes Go.WideShapes Go.ChangeAt Go.RowKit
open Go.ChangeMaps (open_string shut_string)
set_option linter.unusedVariables false
set_option linter.unusedSimpArgs false
open Fl Str Pb Qd PlainAid Aux
set_option maxRecDepth 1000000 in
set_option maxHeartbeats 4000000 in
theorem prt (p B : Nat) (v : Value) (xs : List Value) (s : ByteArray) (w : World) (hc : w.cell? ⟨p, 9, none⟩ = some v) (hf : w.frozen? ⟨p, 9, none⟩ = false) (hne : v.ownBlock ≠ some p)
    (ho : OwnG w B v xs.length xs) (hB : B ≤ w.heap.size) (hs : xs.length + s.size ≤ 134217728) :
    Calls Tryf.prog 38 #[.pointer (some ⟨p, 0, none⟩), .string s] w fun e w' => e = .returned (.tuple #[]) ∧ ∃ ja jn jc, w'.cell? ⟨p, 9, none⟩ = some (.slice ja jn jc) ∧ w'.frozen? ⟨p, 9, none⟩ = false ∧ OwnG w' B (.slice ja jn jc) (xs ++ Lib.strCells s).length (xs ++ Lib.strCells s) ∧ Chg (fun k => k = p ∨ v.ownBlock = some k) w w' ∧ Same w v (.slice ja jn jc) ∧ ∀ j u, j ≠ 9 → w.cell? ⟨p, j, none⟩ = some u → w'.cell? ⟨p, j, none⟩ = some u := by
  have HR := Lib.hid (strG w ho s 25 hs hB)
  have HC := Lib.hid hc
  have HF := Lib.hid hf
  have HN := Lib.hid hne
  have hpb : p < w.heap.size := World.block_lt_of_cell? w _ hc
  clear ho hne
  go_enter Tryf.func38, Tryf.ntmps38
  go_wp2_with (at_builtin; refine wpList_app rfl _ _ #[25, 9] rfl rfl rfl HR.out ?_; rintro v' w1 ⟨ho', hg, hsm⟩; obtain ⟨q1, q2, rfl⟩ := ho'.slice; have c1 := hg.cell HC.out (fun e => HN.out e.symm); have f1 : w1.frozen? ⟨p, 9, none⟩ = false := (World.frozen?_of_block (hg.block p hpb fun e => HN.out e.symm)).trans HF.out; have HO := Lib.hid ho'; have HG := Lib.hid hg; have HS := Lib.hid hsm; clear ho' hg hsm)
  go_end0
  refine ⟨rfl, q1, _, q2, World.cell?_setCell_same _ _ _ c1, by simpa using f1, ?_, ?_, HS.out, fun j u hj hu => ?_⟩
  · have hc2 : Chg (fun k => k = p) w1 (w1.setCell ⟨p, 9, none⟩ (.slice q1 (xs.length + s.size) q2)) := Chg.setCell (S := fun k => k = p) (Chg.refl _ _) (.inl rfl) _
    rw [List.length_append, Lib.strCells_length]
    refine HO.out.chg hc2 fun k hk => ?_
    rcases HS.out with hs | hs
    · rw [hs] at hk
      exact fun e => HN.out (by rw [hk, e])
    · have := hs k hk
      omega
  · exact ((Chg.of_grown HG.out).mono fun i _ e => .inr e).setCell (.inl (.inl rfl)) _
  · rw [World.cell?_setCell_other _ _ _ _ (by intro e; injection e with e1 e2; exact hj e2.symm)]
    exact HG.out.cell hu (fun e => HN.out e.symm)
theorem has (x y : Int) (v : Bool) (w : World) (hv : (bits .and .u64 x y != 0) = v) : Calls Tryf.prog 37 #[.int .u64 x, .int .u64 y] w fun e w' => e = .returned (.bool v) ∧ w' = w := by
  have H := Lib.hid hv
  clear hv
  go_enter Tryf.func37, Tryf.ntmps37
  go_wp2_with fail
  go_ret
  exact ⟨by rw [← H.out]; rfl, rfl⟩
/-- The printer's state. -/
structure PS (w : World) (p B : Nat) (uf : Int) (ms : Bool) (ja : Option Addr) (jn jc : Nat) (xs : List Value) : Prop where
  c9 : w.cell? ⟨p, 9, none⟩ = some (.slice ja jn jc)
  f9 : w.frozen? ⟨p, 9, none⟩ = false
  c24 : w.cell? ⟨p, 24, none⟩ = some (.int .u64 uf)
  c26 : w.cell? ⟨p, 26, none⟩ = some (.int .i64 0)
  c30 : w.cell? ⟨p, 30, none⟩ = some (.bool ms)
  c31 : w.cell? ⟨p, 31, none⟩ = some (.bool false)
  own : OwnG w B (.slice ja jn jc) xs.length xs
  ne : (Value.slice ja jn jc).ownBlock ≠ some p
/-- The cell of the printer's bytes. -/
structure P9 (w : World) (p B : Nat) (ja : Option Addr) (jn jc : Nat) (xs : List Value) : Prop where
  c9 : w.cell? ⟨p, 9, none⟩ = some (.slice ja jn jc)
  f9 : w.frozen? ⟨p, 9, none⟩ = false
  own : OwnG w B (.slice ja jn jc) xs.length xs
  ne : (Value.slice ja jn jc).ownBlock ≠ some p
theorem ps_p9 {w : World} {p B : Nat} {uf : Int} {ms : Bool} {ja : Option Addr} {jn jc : Nat} {xs : List Value} (h : PS w p B uf ms ja jn jc xs) : P9 w p B ja jn jc xs := ⟨h.c9, h.f9, h.own, h.ne⟩
theorem same_ne {w : World} {v v' : Value} {p : Nat} (h : Same w v v') (hn : v.ownBlock ≠ some p) (hp : p < w.heap.size) : v'.ownBlock ≠ some p := by
  rcases h with h | h
  · rw [h]; exact hn
  · intro e
    have := h p e
    omega
/-- The units lie apart from the printer and from its bytes. -/
def AB (w : World) (p : Nat) (v : Value) (a : Option Addr) : Prop := ∀ x, a = some x → x.block ≠ p ∧ v.ownBlock ≠ some x.block ∧ x.block < w.heap.size
def Ch9 (w : World) (p : Nat) (v : Value) (w' : World) (v' : Value) : Prop := Chg (fun k => k = p ∨ v.ownBlock = some k) w w' ∧ Same w v v'
section
variable {w w' w2 : World} {p : Nat} {v v' v2 : Value} {a : Option Addr}
theorem AB.step (h : AB w p v a) (hc : Ch9 w p v w' v') : AB w' p v' a := fun x e => by
  obtain ⟨h1, h2, h3⟩ := h x e
  exact ⟨h1, same_ne hc.2 h2 h3, Nat.lt_of_lt_of_le h3 hc.1.size⟩
theorem AB.fsl {n : Nat} {f : Nat → Value} (h : AB w p v a) (hc : Ch9 w p v w' v') (hf : Fsl w a n f) : Fsl w' a n f := ⟨hf.1, fun i hi => by
  obtain ⟨b, off, e, hb, hcl⟩ := hf.2 i hi
  obtain ⟨h1, h2, h3⟩ := h _ e
  refine ⟨b, off, e, Nat.lt_of_lt_of_le hb hc.1.size, hc.1.cell hcl ?_⟩
  rintro (h | h)
  · exact h1 h
  · exact h2 h⟩
theorem Ch9.trans (h : Ch9 w p v w' v') (k : Ch9 w' p v' w2 v2) : Ch9 w p v w2 v2 := by
  refine ⟨h.1.transN k.1 fun i hi hh => ?_, ?_⟩
  · rcases hh with hh | hh
    · exact .inl hh
    · rcases h.2 with e | e
      · exact .inr (e ▸ hh)
      · have := e i hh
        omega
  · rcases k.2 with e | e
    · rcases h.2 with e2 | e2
      · exact .inl (e.trans e2)
      · exact .inr fun j hj => e2 j (e ▸ hj)
    · exact .inr fun j hj => Nat.le_trans h.1.size (e j hj)
end
def Pr9 (w : World) (p B : Nat) (v : Value) (xs : List Value) (s : ByteArray) (e : Ending) (w' : World) : Prop := e = .returned (.tuple #[]) ∧ ∃ ja jn jc, P9 w' p B ja jn jc (xs ++ Lib.strCells s) ∧ Ch9 w p v w' (.slice ja jn jc) ∧ ∀ j u, j ≠ 9 → w.cell? ⟨p, j, none⟩ = some u → w'.cell? ⟨p, j, none⟩ = some u
theorem prt9 {p B : Nat} {ja : Option Addr} {jn jc : Nat} {xs : List Value} (s : ByteArray) {w : World} (h : P9 w p B ja jn jc xs) (hB : B ≤ w.heap.size) (hs : xs.length + s.size ≤ 134217728) :
    Calls Tryf.prog 38 #[.pointer (some ⟨p, 0, none⟩), .string s] w (Pr9 w p B (.slice ja jn jc) xs s) := by
  refine (prt p B (.slice ja jn jc) xs s w h.c9 h.f9 h.ne h.own hB hs).mono ?_
  rintro e w' ⟨rfl, ja', jn', jc', c9, f9, own, chg, same, keep⟩
  exact ⟨rfl, ja', jn', jc', ⟨c9, f9, own, same_ne same h.ne (World.block_lt_of_cell? w _ h.c9)⟩, ⟨chg, same⟩, keep⟩
def Uq9 (w : World) (p B : Nat) (v : Value) (xs0 : List Value) (n : Nat) (Z : Nat → Int) (q : Int) (e : Ending) (w' : World) : Prop := e = .returned (.tuple #[]) ∧ ∃ ja jn jc, ∃ P : List Int, P9 w' p B ja jn jc (xs0 ++ P.map (fun x => Value.int .u8 x)) ∧ P.length ≤ 12 * n ∧ Aux.Rest n Z q false false false 0 P ∧ Ch9 w p v w' (.slice ja jn jc)
theorem uq9 {p B : Nat} {a : Option Addr} {n c : Nat} {Z : Nat → Int} (q fl : Int) {ja : Option Addr} {jn jc : Nat} {xs0 : List Value} {w : World} (h : P9 w p B ja jn jc xs0)
  (h26 : w.cell? ⟨p, 26, none⟩ = some (.int .i64 0)) {uf : Int} (h24 : w.cell? ⟨p, 24, none⟩ = some (.int .u64 uf)) (h31 : w.cell? ⟨p, 31, none⟩ = some (.bool false)) (hn : n ≤ 1048576) (hB : B ≤ w.heap.size) (hsl : Fsl w a n (fun i => .int .u16 (Z i))) (hZ : ∀ i, i < n → 0 ≤ Z i ∧ Z i ≤ 65535) (hab : AB w p (.slice ja jn jc) a) (hx : xs0.length ≤ 1048577)
  (hH : ∀ w, Calls Tryf.prog 37 #[.int .u64 uf, .int .u64 68719476736] w fun e w' => e = .returned (.bool false) ∧ w' = w) :
    Calls Tryf.prog 35 #[.pointer (some ⟨p, 0, none⟩), .slice a n c, .int .i32 q, .int .u8 fl] w (Uq9 w p B (.slice ja jn jc) xs0 n Z q) := by
  refine (uq0 B p a n c Z q fl false false ja jn jc xs0 w h.c9 h.f9 0 h26 uf h24 h31 hn h.own hB hsl hZ (fun _ x e => (hab x e).2.1) (fun _ x e => (hab x e).1) h.ne hx hH (fun e => by cases e) (Int.le_refl _)).mono ?_
  unfold UPC
  rintro e w' ⟨rfl, ja', jn', jc', P, c9, f9, own, hr, hX, chg, same⟩
  exact ⟨rfl, ja', jn', jc', P, ⟨c9, f9, own, same_ne same h.ne (World.block_lt_of_cell? w _ h.c9)⟩, hX, hr, chg, same⟩
/-- What is printed: the quote, the text, the quote. -/
def QPc (w : World) (p B : Nat) (v : Value) (xs0 : List Value) (n : Nat) (Z : Nat → Int) (q : Int) (e : Ending) (w' : World) : Prop := e = .returned (.tuple #[]) ∧ ∃ ja jn jc, ∃ P : List Int, Hid (P9 w' p B ja jn jc (xs0 ++ (.int .u8 q :: (P.map (fun x => Value.int .u8 x) ++ [.int .u8 q])))) ∧ P.length ≤ 12 * n ∧ Hid (Aux.Rest n Z q false false false 0 P) ∧ Hid (Ch9 w p v w' (.slice ja jn jc))
theorem qpc_fin {w w' : World} {p B : Nat} {v : Value} {xs0 : List Value} {q : Int} {n : Nat} {Z : Nat → Int} {ja : Option Addr} {jn jc : Nat} {P : List Int} (s : ByteArray) (hs : Lib.strCells s = [.int .u8 q]) (h : P9 w' p B ja jn jc (((xs0 ++ Lib.strCells s) ++ P.map (fun x => Value.int .u8 x)) ++ Lib.strCells s)) (hX : P.length ≤ 12 * n) {q' : Int} (hr : Aux.Rest n Z q' false false false 0 P) (hq : q' = q) (hb : Ch9 w p v w' (.slice ja jn jc)) : QPc w p B v xs0 n Z q (.returned (.tuple #[])) w' := by
  rw [hq] at hr
  rw [hs] at h
  have e : xs0 ++ [Value.int .u8 q] ++ P.map (fun x => Value.int .u8 x) ++ [Value.int .u8 q] = xs0 ++ (.int .u8 q :: (P.map (fun x => Value.int .u8 x) ++ [.int .u8 q])) := by simp
  rw [e] at h
  exact ⟨rfl, ja, jn, jc, P, Lib.hid h, hX, Lib.hid hr, Lib.hid hb⟩
theorem sc34 : Lib.strCells ⟨#[34]⟩ = [.int .u8 34] := rfl
theorem sc39 : Lib.strCells ⟨#[39]⟩ = [.int .u8 39] := rfl
theorem sc96 : Lib.strCells ⟨#[96]⟩ = [.int .u8 96] := rfl
set_option maxRecDepth 1000000 in
set_option maxHeartbeats 40000000 in
theorem pqc (B p : Nat) (a : Option Addr) (n c : Nat) (Z : Nat → Int) (fl uf : Int) (al ms : Bool) (ja : Option Addr) (jn jc : Nat) (xs0 : List Value) (w : World) (hps : PS w p B uf ms ja jn jc xs0) (hn : n ≤ 1048576) (hx : xs0.length ≤ 1048576) (hB : B ≤ w.heap.size) (hsl : Fsl w a n (fun i => .int .u16 (Z i))) (hZ : ∀ i, i < n → 0 ≤ Z i ∧ Z i ≤ 65535) (hab : AB w p (.slice ja jn jc) a)
  (hT : (bits .and .u64 uf 72057594037927936 != 0) = false) (hS : (bits .and .u64 uf 68719476736 != 0) = false) (hal : (bits .and .u8 fl 1 != 0) = al) :
    Calls Tryf.prog 34 #[.pointer (some ⟨p, 0, none⟩), .slice a n c, .int .u8 fl] w (QPc w p B (.slice ja jn jc) xs0 n Z (qch (cntu Z 39 n) (cntu Z 34 n) (bkc Z n ms n) al)) := by
  have HH := Lib.hid (fun w => has uf 72057594037927936 false w hT)
  have HH2 := Lib.hid (fun w => has uf 68719476736 false w hS)
  have HSL := Lib.hid hsl
  have HZ := Lib.hid hZ
  have HP := Lib.hid hps
  have c24 := hps.c24
  have c30 := hps.c30
  have HAB := Lib.hid hab
  have hpl : p < w.heap.size := World.block_lt_of_cell? w _ hps.c9
  clear hsl hZ hps hT hS hab
  go_enter Tryf.func34, Tryf.ntmps34
  go_wp2_with (go_at_call 37; refine (HH.out _).mono ?_; rintro e w1 ⟨rfl, rfl⟩)
  have HAL := Lib.hid hal
  go_loopw [6, 7, 8, 22] (fun sg db bk i wr => ∃ k : Nat, k ≤ n ∧ i = .int .i64 k ∧ sg = .int .i64 (cntu Z 39 k : Nat) ∧ db = .int .i64 (cntu Z 34 k : Nat) ∧ bk = .int .i64 (bkc Z n ms k) ∧ wr = w1) (fun _ _ _ i _ => n - (intOf i).toNat)
  case atStart => exact ⟨0, Nat.zero_le _, rfl, rfl, rfl, rfl, rfl⟩
  case round =>
    obtain ⟨k, hk, rfl, rfl, rfl, rfl, rfl⟩ := hrel
    by_cases hlt : k < n
    · obtain ⟨b, off, e, hlb, hc⟩ := HSL.out.at k hlt
      subst e
      have hk2 : (k : Int) < (n : Int) := by omega
      have hc39 := cntu_le Z 39 k
      have hc34 := cntu_le Z 34 k
      have hcb := bkc_le Z n ms k
      generalize hz : Z k = z at hc
      have HZK := Lib.hid hz
      clear hz
      by_cases z10 : z = 10
      · subst z10
        cases ms
        · go_wp2_with fail
          go_roundw
          case rel => exact ⟨k + 1, by omega, by go_num, by simp [cntu, HZK.out], by simp [cntu, HZK.out], (by simp [bkc, bst, HZK.out]; try omega), by trivial⟩
          case measure => simp [intOf]; omega
        · go_wp2_with fail
          go_roundw
          case rel => exact ⟨k + 1, by omega, by go_num, by simp [cntu, HZK.out], by simp [cntu, HZK.out], (by simp [bkc, bst, HZK.out]; try omega), by trivial⟩
          case measure => simp [intOf]; omega
      by_cases z39 : z = 39
      · subst z39
        go_wp2_with fail
        go_roundw
        case rel => exact ⟨k + 1, by omega, by go_num, by simp [cntu, HZK.out], by simp [cntu, HZK.out], (by simp [bkc, bst, HZK.out]; try omega), by trivial⟩
        case measure => simp [intOf]; omega
      by_cases z34 : z = 34
      · subst z34
        go_wp2_with fail
        go_roundw
        case rel => exact ⟨k + 1, by omega, by go_num, by simp [cntu, HZK.out], by simp [cntu, HZK.out], (by simp [bkc, bst, HZK.out]; try omega), by trivial⟩
        case measure => simp [intOf]; omega
      by_cases z96 : z = 96
      · subst z96
        go_wp2_with fail
        go_roundw
        case rel => exact ⟨k + 1, by omega, by go_num, by simp [cntu, HZK.out], by simp [cntu, HZK.out], (by simp [bkc, bst, HZK.out]; try omega), by trivial⟩
        case measure => simp [intOf]; omega
      by_cases z36 : z = 36
      · subst z36
        by_cases hk3 : k + 1 < n
        · have hk4 : (k : Int) + 1 < (n : Int) := by omega
          have hcy := HSL.out.cell (k + 1) hk3
          generalize hy : Z (k + 1) = y at hcy
          have HYK := Lib.hid hy
          clear hy
          by_cases y123 : y = 123
          · subst y123
            go_wp2_with fail
            go_roundw
            case rel => exact ⟨k + 1, by omega, by go_num, by simp [cntu, HZK.out, HYK.out, hk3], by simp [cntu, HZK.out, HYK.out, hk3], (by simp [bkc, bst, HZK.out, HYK.out, hk3]; try omega), by trivial⟩
            case measure => simp [intOf]; omega
          · have y2 : (y == 123) = false := by simpa using y123
            go_wp2_with fail
            go_roundw
            case rel => exact ⟨k + 1, by omega, by go_num, by simp [cntu, HZK.out, HYK.out, hk3, y123], by simp [cntu, HZK.out, HYK.out, hk3, y123], (by simp [bkc, bst, HZK.out, HYK.out, hk3, y123]; try omega), by trivial⟩
            case measure => simp [intOf]; omega
        · have hk4 : ¬ (k : Int) + 1 < (n : Int) := by omega
          go_wp2_with fail
          go_roundw
          case rel => exact ⟨k + 1, by omega, by go_num, by simp [cntu, HZK.out, hk3], by simp [cntu, HZK.out, hk3], (by simp [bkc, bst, HZK.out, hk3]; try omega), by trivial⟩
          case measure => simp [intOf]; omega
      have y10 : (z == 10) = false := by simpa using z10
      have y39 : (z == 39) = false := by simpa using z39
      have y34 : (z == 34) = false := by simpa using z34
      have y96 : (z == 96) = false := by simpa using z96
      have y36 : (z == 36) = false := by simpa using z36
      go_wp2_with fail
      go_roundw
      case rel => exact ⟨k + 1, by omega, by go_num, by simp [cntu, HZK.out, z10, z39, z34, z96, z36], by simp [cntu, HZK.out, z10, z39, z34, z96, z36], (by simp [bkc, bst, HZK.out, z10, z39, z34, z96, z36]; try omega), by trivial⟩
      case measure => simp [intOf]; omega
    · obtain rfl : k = n := by omega
      have hk2 : ¬ (k : Int) < (k : Int) := by omega
      obtain ⟨sg, hsg⟩ : ∃ sg : Int, (cntu Z 39 k : Int) = sg := ⟨_, rfl⟩
      obtain ⟨db, hdb⟩ : ∃ db : Int, (cntu Z 34 k : Int) = db := ⟨_, rfl⟩
      obtain ⟨bk, hbk⟩ : ∃ bk : Int, bkc Z k ms k = bk := ⟨_, rfl⟩
      rw [hsg, hdb, hbk]
      have SG := Lib.hid hsg
      have DB := Lib.hid hdb
      have BK := Lib.hid hbk
      clear hsg hdb hbk
      by_cases h1 : sg < db
      · by_cases h2 : bk < sg
        · cases al
          · have e : qch (cntu Z 39 k) (cntu Z 34 k) (bkc Z k ms k) false = 39 := by rw [SG.out, DB.out, BK.out]; simp [qch, h1, h2]
            have E := Lib.hid e
            clear e
            have P1 := Lib.hid (prt9 ⟨#[39]⟩ (ps_p9 HP.out) hB (by simp [ByteArray.size]; omega))
            go_wp2_with (first | (have P0 := P1; clear P1; go_at_call 38; refine P0.out.mono ?_; clear P0; rintro e w2 ⟨rfl, ja2, jn2, jc2, h2, b2, k2⟩; have P2 := Lib.hid h2; have B2 := Lib.hid b2; have S2 := b2.1.size; have U1 := Lib.hid (fun q fl => uq9 (c := c) (Z := Z) q fl h2 (k2 _ _ (by omega) HP.out.c26) (k2 _ _ (by omega) HP.out.c24) (k2 _ _ (by omega) HP.out.c31) hn (Nat.le_trans hB S2) (HAB.out.fsl b2 HSL.out) HZ.out (HAB.out.step b2) (by simp [Lib.strCells]; omega) HH2.out); clear h2 b2 k2) | (have U0 := U1; clear U1; go_at_call 35; refine (U0.out _ _).mono ?_; clear U0; rintro e w3 ⟨rfl, ja3, jn3, jc3, X, h3, l3, r3, b3⟩; have S3 := b3.1.size; have P3 := Lib.hid (prt9 ⟨#[39]⟩ h3 (Nat.le_trans hB (Nat.le_trans S2 S3)) (by simp [Lib.strCells, ByteArray.size]; omega)); have B3 := Lib.hid (B2.out.trans b3); have L3 := Lib.hid l3; have R3 := Lib.hid r3; clear h3 b3 l3 r3) | (go_at_call 38; refine P3.out.mono ?_; rintro e w4 ⟨rfl, ja4, jn4, jc4, h4, b4, k4⟩; have P4 := Lib.hid h4; have B4 := Lib.hid (B3.out.trans b4); clear h4 b4 k4))
            go_end0
            rw [E.out]
            exact qpc_fin ⟨#[39]⟩ sc39 P4.out L3.out R3.out (by decide +kernel) B4.out
          · have e : qch (cntu Z 39 k) (cntu Z 34 k) (bkc Z k ms k) true = 96 := by rw [SG.out, DB.out, BK.out]; simp [qch, h1, h2]
            have E := Lib.hid e
            clear e
            have P1 := Lib.hid (prt9 ⟨#[96]⟩ (ps_p9 HP.out) hB (by simp [ByteArray.size]; omega))
            go_wp2_with (first | (have P0 := P1; clear P1; go_at_call 38; refine P0.out.mono ?_; clear P0; rintro e w2 ⟨rfl, ja2, jn2, jc2, h2, b2, k2⟩; have P2 := Lib.hid h2; have B2 := Lib.hid b2; have S2 := b2.1.size; have U1 := Lib.hid (fun q fl => uq9 (c := c) (Z := Z) q fl h2 (k2 _ _ (by omega) HP.out.c26) (k2 _ _ (by omega) HP.out.c24) (k2 _ _ (by omega) HP.out.c31) hn (Nat.le_trans hB S2) (HAB.out.fsl b2 HSL.out) HZ.out (HAB.out.step b2) (by simp [Lib.strCells]; omega) HH2.out); clear h2 b2 k2) | (have U0 := U1; clear U1; go_at_call 35; refine (U0.out _ _).mono ?_; clear U0; rintro e w3 ⟨rfl, ja3, jn3, jc3, X, h3, l3, r3, b3⟩; have S3 := b3.1.size; have P3 := Lib.hid (prt9 ⟨#[96]⟩ h3 (Nat.le_trans hB (Nat.le_trans S2 S3)) (by simp [Lib.strCells, ByteArray.size]; omega)); have B3 := Lib.hid (B2.out.trans b3); have L3 := Lib.hid l3; have R3 := Lib.hid r3; clear h3 b3 l3 r3) | (go_at_call 38; refine P3.out.mono ?_; rintro e w4 ⟨rfl, ja4, jn4, jc4, h4, b4, k4⟩; have P4 := Lib.hid h4; have B4 := Lib.hid (B3.out.trans b4); clear h4 b4 k4))
            go_end0
            rw [E.out]
            exact qpc_fin ⟨#[96]⟩ sc96 P4.out L3.out R3.out (by decide +kernel) B4.out
        · have e : qch (cntu Z 39 k) (cntu Z 34 k) (bkc Z k ms k) al = 39 := by rw [SG.out, DB.out, BK.out]; simp [qch, h1, h2]
          have E := Lib.hid e
          clear e
          have P1 := Lib.hid (prt9 ⟨#[39]⟩ (ps_p9 HP.out) hB (by simp [ByteArray.size]; omega))
          go_wp2_with (first | (have P0 := P1; clear P1; go_at_call 38; refine P0.out.mono ?_; clear P0; rintro e w2 ⟨rfl, ja2, jn2, jc2, h2, b2, k2⟩; have P2 := Lib.hid h2; have B2 := Lib.hid b2; have S2 := b2.1.size; have U1 := Lib.hid (fun q fl => uq9 (c := c) (Z := Z) q fl h2 (k2 _ _ (by omega) HP.out.c26) (k2 _ _ (by omega) HP.out.c24) (k2 _ _ (by omega) HP.out.c31) hn (Nat.le_trans hB S2) (HAB.out.fsl b2 HSL.out) HZ.out (HAB.out.step b2) (by simp [Lib.strCells]; omega) HH2.out); clear h2 b2 k2) | (have U0 := U1; clear U1; go_at_call 35; refine (U0.out _ _).mono ?_; clear U0; rintro e w3 ⟨rfl, ja3, jn3, jc3, X, h3, l3, r3, b3⟩; have S3 := b3.1.size; have P3 := Lib.hid (prt9 ⟨#[39]⟩ h3 (Nat.le_trans hB (Nat.le_trans S2 S3)) (by simp [Lib.strCells, ByteArray.size]; omega)); have B3 := Lib.hid (B2.out.trans b3); have L3 := Lib.hid l3; have R3 := Lib.hid r3; clear h3 b3 l3 r3) | (go_at_call 38; refine P3.out.mono ?_; rintro e w4 ⟨rfl, ja4, jn4, jc4, h4, b4, k4⟩; have P4 := Lib.hid h4; have B4 := Lib.hid (B3.out.trans b4); clear h4 b4 k4))
          go_end0
          rw [E.out]
          exact qpc_fin ⟨#[39]⟩ sc39 P4.out L3.out R3.out (by decide +kernel) B4.out
      · by_cases h2 : bk < db
        · cases al
          · have e : qch (cntu Z 39 k) (cntu Z 34 k) (bkc Z k ms k) false = 34 := by rw [SG.out, DB.out, BK.out]; simp [qch, h1, h2]
            have E := Lib.hid e
            clear e
            have P1 := Lib.hid (prt9 ⟨#[34]⟩ (ps_p9 HP.out) hB (by simp [ByteArray.size]; omega))
            go_wp2_with (first | (have P0 := P1; clear P1; go_at_call 38; refine P0.out.mono ?_; clear P0; rintro e w2 ⟨rfl, ja2, jn2, jc2, h2, b2, k2⟩; have P2 := Lib.hid h2; have B2 := Lib.hid b2; have S2 := b2.1.size; have U1 := Lib.hid (fun q fl => uq9 (c := c) (Z := Z) q fl h2 (k2 _ _ (by omega) HP.out.c26) (k2 _ _ (by omega) HP.out.c24) (k2 _ _ (by omega) HP.out.c31) hn (Nat.le_trans hB S2) (HAB.out.fsl b2 HSL.out) HZ.out (HAB.out.step b2) (by simp [Lib.strCells]; omega) HH2.out); clear h2 b2 k2) | (have U0 := U1; clear U1; go_at_call 35; refine (U0.out _ _).mono ?_; clear U0; rintro e w3 ⟨rfl, ja3, jn3, jc3, X, h3, l3, r3, b3⟩; have S3 := b3.1.size; have P3 := Lib.hid (prt9 ⟨#[34]⟩ h3 (Nat.le_trans hB (Nat.le_trans S2 S3)) (by simp [Lib.strCells, ByteArray.size]; omega)); have B3 := Lib.hid (B2.out.trans b3); have L3 := Lib.hid l3; have R3 := Lib.hid r3; clear h3 b3 l3 r3) | (go_at_call 38; refine P3.out.mono ?_; rintro e w4 ⟨rfl, ja4, jn4, jc4, h4, b4, k4⟩; have P4 := Lib.hid h4; have B4 := Lib.hid (B3.out.trans b4); clear h4 b4 k4))
            go_end0
            rw [E.out]
            exact qpc_fin ⟨#[34]⟩ sc34 P4.out L3.out R3.out (by decide +kernel) B4.out
          · have e : qch (cntu Z 39 k) (cntu Z 34 k) (bkc Z k ms k) true = 96 := by rw [SG.out, DB.out, BK.out]; simp [qch, h1, h2]
            have E := Lib.hid e
            clear e
            have P1 := Lib.hid (prt9 ⟨#[96]⟩ (ps_p9 HP.out) hB (by simp [ByteArray.size]; omega))
            go_wp2_with (first | (have P0 := P1; clear P1; go_at_call 38; refine P0.out.mono ?_; clear P0; rintro e w2 ⟨rfl, ja2, jn2, jc2, h2, b2, k2⟩; have P2 := Lib.hid h2; have B2 := Lib.hid b2; have S2 := b2.1.size; have U1 := Lib.hid (fun q fl => uq9 (c := c) (Z := Z) q fl h2 (k2 _ _ (by omega) HP.out.c26) (k2 _ _ (by omega) HP.out.c24) (k2 _ _ (by omega) HP.out.c31) hn (Nat.le_trans hB S2) (HAB.out.fsl b2 HSL.out) HZ.out (HAB.out.step b2) (by simp [Lib.strCells]; omega) HH2.out); clear h2 b2 k2) | (have U0 := U1; clear U1; go_at_call 35; refine (U0.out _ _).mono ?_; clear U0; rintro e w3 ⟨rfl, ja3, jn3, jc3, X, h3, l3, r3, b3⟩; have S3 := b3.1.size; have P3 := Lib.hid (prt9 ⟨#[96]⟩ h3 (Nat.le_trans hB (Nat.le_trans S2 S3)) (by simp [Lib.strCells, ByteArray.size]; omega)); have B3 := Lib.hid (B2.out.trans b3); have L3 := Lib.hid l3; have R3 := Lib.hid r3; clear h3 b3 l3 r3) | (go_at_call 38; refine P3.out.mono ?_; rintro e w4 ⟨rfl, ja4, jn4, jc4, h4, b4, k4⟩; have P4 := Lib.hid h4; have B4 := Lib.hid (B3.out.trans b4); clear h4 b4 k4))
            go_end0
            rw [E.out]
            exact qpc_fin ⟨#[96]⟩ sc96 P4.out L3.out R3.out (by decide +kernel) B4.out
        · have e : qch (cntu Z 39 k) (cntu Z 34 k) (bkc Z k ms k) al = 34 := by rw [SG.out, DB.out, BK.out]; simp [qch, h1, h2]
          have E := Lib.hid e
          clear e
          have P1 := Lib.hid (prt9 ⟨#[34]⟩ (ps_p9 HP.out) hB (by simp [ByteArray.size]; omega))
          go_wp2_with (first | (have P0 := P1; clear P1; go_at_call 38; refine P0.out.mono ?_; clear P0; rintro e w2 ⟨rfl, ja2, jn2, jc2, h2, b2, k2⟩; have P2 := Lib.hid h2; have B2 := Lib.hid b2; have S2 := b2.1.size; have U1 := Lib.hid (fun q fl => uq9 (c := c) (Z := Z) q fl h2 (k2 _ _ (by omega) HP.out.c26) (k2 _ _ (by omega) HP.out.c24) (k2 _ _ (by omega) HP.out.c31) hn (Nat.le_trans hB S2) (HAB.out.fsl b2 HSL.out) HZ.out (HAB.out.step b2) (by simp [Lib.strCells]; omega) HH2.out); clear h2 b2 k2) | (have U0 := U1; clear U1; go_at_call 35; refine (U0.out _ _).mono ?_; clear U0; rintro e w3 ⟨rfl, ja3, jn3, jc3, X, h3, l3, r3, b3⟩; have S3 := b3.1.size; have P3 := Lib.hid (prt9 ⟨#[34]⟩ h3 (Nat.le_trans hB (Nat.le_trans S2 S3)) (by simp [Lib.strCells, ByteArray.size]; omega)); have B3 := Lib.hid (B2.out.trans b3); have L3 := Lib.hid l3; have R3 := Lib.hid r3; clear h3 b3 l3 r3) | (go_at_call 38; refine P3.out.mono ?_; rintro e w4 ⟨rfl, ja4, jn4, jc4, h4, b4, k4⟩; have P4 := Lib.hid h4; have B4 := Lib.hid (B3.out.trans b4); clear h4 b4 k4))
          go_end0
          rw [E.out]
          exact qpc_fin ⟨#[34]⟩ sc34 P4.out L3.out R3.out (by decide +kernel) B4.out

theorem PS.below {w w' : World} {p B : Nat} {uf : Int} {ms : Bool} {ja : Option Addr} {jn jc : Nat} {xs : List Value} (h : PS w p B uf ms ja jn jc xs) (hb : Below w.heap.size w w') : PS w' p B uf ms ja jn jc xs := by
  have hp : p < w.heap.size := World.block_lt_of_cell? w _ h.c9
  have hc := fun j => World.cell?_of_block (a := ⟨p, j, none⟩) (hb.block p hp)
  have hf := World.frozen?_of_block (a := ⟨p, 9, none⟩) (hb.block p hp)
  exact ⟨(hc 9).trans h.c9, hf.trans h.f9, (hc 24).trans h.c24, (hc 26).trans h.c26, (hc 30).trans h.c30, (hc 31).trans h.c31, h.own.chg (Chg.of_below hb (fun i a b => by omega) : Chg (fun _ => False) w w') (fun _ _ h => h), h.ne⟩
theorem u16s_rng {s : ByteArray} : ∀ (R : List Int) (i : Nat), Chn s i R → ∀ x ∈ u16s R, 0 ≤ x ∧ x ≤ 65535 := by
  intro R
  induction R with
  | nil => intro i _ x hx; cases hx
  | cons r R ih =>
    intro i h x hx
    rcases chn_cases h with ⟨_, e⟩ | ⟨r', m, R', e, hd, hc, _⟩
    · cases e
    · injection e with e1 e2
      subst e1; subst e2
      have hr := dv_r hd
      simp only [u16s, List.mem_append] at hx
      rcases hx with hx | hx
      · unfold u16r at hx
        split at hx
        · simp at hx; omega
        · simp at hx; omega
      · exact ih _ hc x hx
def zr (R : List Int) : Nat → Int := fun i => (u16s R).getD i 0
theorem zr_rng {s : ByteArray} {R : List Int} (h : Chn s 0 R) : ∀ i, i < (u16s R).length → 0 ≤ zr R i ∧ zr R i ≤ 65535 := fun i hi => by
  have e : zr R i = (u16s R)[i] := by simp [zr, List.getD, hi]
  rw [e]
  exact u16s_rng R 0 h _ (List.getElem_mem hi)
theorem QPc.of {w w1 : World} {p B : Nat} {v : Value} {xs0 : List Value} {n : Nat} {Z : Nat → Int} {q : Int} {e : Ending} {w' : World} (hb : Below w.heap.size w w1) (h : QPc w1 p B v xs0 n Z q e w') : QPc w p B v xs0 n Z q e w' := by
  obtain ⟨e1, ja, jn, jc, P, h9, hl, hr, hc⟩ := h
  exact ⟨e1, ja, jn, jc, P, h9, hl, hr, Lib.hid (Ch9.trans (v' := v) ⟨Chg.of_below hb (fun i a b => by omega), .inl rfl⟩ hc.out)⟩
set_option maxHeartbeats 4000000 in
theorem pq33 (B p : Nat) (s : ByteArray) (hs : s.size ≤ 1048576) (R : List Int) (hR : Chn s 0 R) (fl : Int) (al ms : Bool) (ja : Option Addr) (jn jc : Nat) (xs0 : List Value) (w : World) (hps : PS w p B 0 ms ja jn jc xs0) (hx : xs0.length ≤ 1048576) (hB : B ≤ w.heap.size) (hal : (bits .and .u8 fl 1 != 0) = al) :
    Calls Tryf.prog 33 #[.pointer (some ⟨p, 0, none⟩), .string s, .int .u8 fl] w (QPc w p B (.slice ja jn jc) xs0 (u16s R).length (zr R) (qch (cntu (zr R) 39 (u16s R).length : Nat) (cntu (zr R) 34 (u16s R).length : Nat) (bkc (zr R) (u16s R).length ms (u16s R).length) al)) := by
  have hp : p < w.heap.size := World.block_lt_of_cell? w _ hps.c9
  have HU := Lib.hid (units36 s (by omega) R hR w)
  have HQ := Lib.hid (fun w1 (h : Below w.heap.size w w1) (hF : Fsl w1 (some ⟨w.heap.size, 0, none⟩) (u16s R).length (fun i => .int .u16 (zr R i))) (hlt : w.heap.size < w1.heap.size) (hl : (u16s R).length ≤ s.size) => (pqc B p (some ⟨w.heap.size, 0, none⟩) (u16s R).length s.size (zr R) fl 0 al ms ja jn jc xs0 w1 (hps.below h) (by omega) hx (by omega) hF (zr_rng hR) (fun x e => by
    injection e with e
    subst e
    refine ⟨by simp; omega, fun e2 => ?_, by simpa using hlt⟩
    have := (hps.own.lt _ e2).2
    simp at this) (by decide) (by decide) hal).mono fun _ _ hh => QPc.of h hh)
  clear hps hR hal hp
  go_enter Tryf.func33, Tryf.ntmps33
  go_wp2_with (first | (go_at_call 36; refine HU.out.mono ?_; rintro e w1 ⟨rfl, hF, hl, hb, hlt⟩; have HQ1 := Lib.hid (HQ.out w1 hb.out hF.out hlt hl); clear hF hl hb hlt) | (go_at_call 34; refine HQ1.out.mono ?_; rintro e w2 hh; obtain rfl := hh.1; have HH := Lib.hid hh; clear hh))
  go_end0
  exact HH.out
set_option maxHeartbeats 4000000 in
theorem pq21 (B p : Nat) (s : ByteArray) (hs : s.size ≤ 1048576) (R : List Int) (hR : Chn s 0 R) (fl : Int) (al ms : Bool) (ja : Option Addr) (jn jc : Nat) (xs0 : List Value) (w : World) (hps : PS w p B 0 ms ja jn jc xs0) (hx : xs0.length ≤ 1048576) (hB : B ≤ w.heap.size) (hal : (bits .and .u8 fl 1 != 0) = al) :
    Calls Tryf.prog 21 #[.pointer (some ⟨p, 0, none⟩), .string s, .int .u8 fl] w (QPc w p B (.slice ja jn jc) xs0 (u16s R).length (zr R) (qch (cntu (zr R) 39 (u16s R).length : Nat) (cntu (zr R) 34 (u16s R).length : Nat) (bkc (zr R) (u16s R).length ms (u16s R).length) al)) := by
  have HQ := Lib.hid (pq33 B p s hs R hR fl al ms ja jn jc xs0 w hps hx hB hal)
  clear hps hR hal
  go_enter Tryf.func21, Tryf.ntmps21
  go_wp2_with (go_at_call 33; refine HQ.out.mono ?_; rintro e w2 hh; obtain rfl := hh.1; have HH := Lib.hid hh; clear hh)
  go_end0
  exact HH.out
end Go.Proofs.YtfhafelkkophgaaFmt.Aux
