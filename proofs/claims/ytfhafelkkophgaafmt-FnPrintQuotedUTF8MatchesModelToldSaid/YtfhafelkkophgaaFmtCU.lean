/- Contracts of functions that the law of this seat reaches, and plain facts; no condition. -/
import Derived.Test.YtfhafelkkophgaaFmtProg
import Derived.WalkKit
import Derived.ProofKit
import Derived.OpenShut
import Derived.ShutString
import Derived.Test.YtfhafelkkophgaaFmtAid
import Derived.Test.YtfhafelkkophgaaFmtC
import Derived.Test.YtfhafelkkophgaaFmtCR
import Derived.ArgAppend
import Derived.WalkSpells
import Derived.LoopTactic
import Derived.IntWalk
import Derived.Outline
import Derived.Deep.QuietTactic
import Derived.BigQuiet
import Derived.Deep.RegionHeld3
import Derived.Deep.RegionLaw
import Derived.StillTailTactics
import Derived.OwnWalk
import Derived.RegionTactic
import Derived.Laws.BitsAllLaws
import Derived.Lib.ConvBytes
namespace Go.Proofs.YtfhafelkkophgaaFmt.Aux
open Go.ChangeShapes Go.WideShapes Go.ChangeAt Go.RowKit
open Go.ChangeMaps (open_string shut_string)
set_option linter.unusedVariables false
set_option linter.unusedSimpArgs false
open Fl Str Pb Qd PlainAid Aux
def UPC (w : World) (p B : Nat) (v0 : Value) (xs0 : List Value) (n : Nat) (Z : Nat → Int) (q : Int) (ns ao wl : Bool) (e : Ending) (w' : World) : Prop := e = .returned (.tuple #[]) ∧ ∃ ja jn jc P, w'.cell? ⟨p, 9, none⟩ = some (.slice ja jn jc) ∧ w'.frozen? ⟨p, 9, none⟩ = false ∧ OwnG w' B (.slice ja jn jc) (xs0 ++ P.map (fun x => Value.int .u8 x)).length (xs0 ++ P.map (fun x => Value.int .u8 x)) ∧ Aux.Rest n Z q ns ao wl 0 P ∧ P.length ≤ 12 * n ∧ Chg (fun k => k = p ∨ v0.ownBlock = some k) w w' ∧ Same w v0 (.slice ja jn jc)
theorem us0C (B p tb : Nat) (w w2 : World) (ja : Option Addr) (jn jc : Nat) (xs0 : List Value) (ho : OwnG w B (.slice ja jn jc) xs0.length xs0) (htb : w.heap.size = tb) (hc : Chg (fun b => b = p) (w.alloc (.cells (madeCells #[.int .u8 0] 4) 5)) w2) (hp : p < w.heap.size) (hpn : (Value.slice ja jn jc).ownBlock ≠ some p) :
    ∃ w0 : World, US w0 B tb (.slice ja jn jc) xs0 0 w2 (.slice ja jn jc) xs0 ∧ Chg (fun b => b = p) w w0 ∧ w0.heap.size = w.heap.size ∧ (∀ j, w0.cell? ⟨p, j, none⟩ = w2.cell? ⟨p, j, none⟩) ∧ ∀ j, w0.frozen? ⟨p, j, none⟩ = w2.frozen? ⟨p, j, none⟩ := by
  subst htb
  have hs1 := hc.size
  simp at hs1
  obtain ⟨o, ho2⟩ : ∃ o, w2.heap[p]? = some o := ⟨w2.heap[p]'(by omega), by simp⟩
  have hcw : Chg (fun b => b = p) w w2 := ((Chg.refl _ w).alloc _).trans hc
  have hh : ∀ k, ({ w with heap := w.heap.setIfInBounds p o } : World).heap[k]? = if k = p then w2.heap[p]? else w.heap[k]? := fun k => by
    show (w.heap.setIfInBounds p o)[k]? = _
    rw [Array.getElem?_setIfInBounds]
    by_cases hk : k = p
    · subst hk; simp [hp, ho2]
    · rw [if_neg hk, if_neg (fun e => hk e.symm)]
  have hsz : ({ w with heap := w.heap.setIfInBounds p o } : World).heap.size = w.heap.size := by simp
  have hc0 : Chg (fun b => b = p) w { w with heap := w.heap.setIfInBounds p o } := ⟨rfl, rfl, rfl, by rw [hsz]; exact Nat.le_refl _, fun k _ hk => by rw [hh, if_neg hk]⟩
  have hc2 : Chg (fun b => (Value.slice ja jn jc).ownBlock = some b) { w with heap := w.heap.setIfInBounds p o } w2 := ⟨hcw.os, hcw.tape, hcw.output, by rw [hsz]; exact hcw.size, fun k hk _ => by
    rw [hsz] at hk
    rw [hh]
    by_cases hkp : k = p
    · subst hkp; rw [if_pos rfl]
    · rw [if_neg hkp]; exact hcw.block k hk hkp⟩
  refine ⟨{ w with heap := w.heap.setIfInBounds p o }, ⟨?_, ⟨[], by simp, by simp⟩, hc2, .inl rfl, ⟨_, (hc.block _ (by simp) (by omega)).trans (heap_alloc_new _ _), by simp [size_madeCells], by intro u hu; rw [toList_madeCells_one] at hu; rw [List.eq_of_mem_replicate hu]; rfl⟩, fun e => by have := (ho.lt _ e).2; omega, by rw [hsz]; exact Nat.le_refl _⟩, hc0, hsz, fun j => ?_, fun j => ?_⟩
  · exact ho.chg hcw (fun k hk e => hpn (by rw [hk, e]))
  · exact World.cell?_of_block (by rw [hh, if_pos rfl])
  · exact World.frozen?_of_block (by rw [hh, if_pos rfl])
theorem US.finC {w w0 wr : World} {B tb m p n : Nat} {v0 : Value} {ja : Option Addr} {jn jc : Nat} {xs0 xs : List Value} {Z : Nat → Int} {q : Int} {ns ao wl : Bool} (h : US w0 B tb v0 xs0 m wr (.slice ja jn jc) xs) (hP : Pre n Z q ns ao wl xs0 n xs) (hm : m ≤ 12 * n) (hpn : v0.ownBlock ≠ some p) {u : Value} (hc : w0.cell? ⟨p, 9, none⟩ = some u) (hf : w0.frozen? ⟨p, 9, none⟩ = false) (hw : Chg (fun b => b = p) w w0) (hsz : w0.heap.size = w.heap.size) :
    UPC w p B v0 xs0 n Z q ns ao wl (.returned (.tuple #[])) (wr.setCell ⟨p, 9, none⟩ (.slice ja jn jc)) := by
  have hp0 : p < w0.heap.size := World.block_lt_of_cell? w0 _ hc
  have hc1 := h.cell hc hpn
  have hf1 : wr.frozen? ⟨p, 9, none⟩ = false := (h.chg.frozen (a := ⟨p, 9, none⟩) hp0 hpn).trans hf
  obtain ⟨X, e, hX⟩ := h.pre
  obtain ⟨P, e2, hR⟩ := hP.done
  subst e2
  have hl : P.length ≤ 12 * n := by
    have := congrArg List.length e
    simp at this
    omega
  refine ⟨rfl, ja, jn, jc, P, World.cell?_setCell_same _ _ _ hc1, by simpa using hf1, ?_, hR, hl, ?_, ?_⟩
  · refine h.own.chg (Chg.setCell (S := fun k => k = p) (p := ⟨p, 9, none⟩) (Chg.refl _ wr) (.inl rfl) _) fun k hk e => ?_
    subst e
    rcases h.same with hs | hs
    · rw [hs] at hk; exact hpn hk
    · have := hs k hk; omega
  · exact ((hw.mono fun i _ e => .inl e).trans (h.chg.mono fun i _ e => .inr e)).setCell (.inl (.inl rfl)) _
  · rcases h.same with hs | hs
    · exact .inl hs
    · exact .inr (by rw [← hsz]; exact hs)
/-- currentLineLength: some number; of the printer two cells turn. -/
def Cll (w : World) (p : Nat) (e : Ending) (w' : World) : Prop := ∃ r : Int, e = .returned (.int .i64 r) ∧ Chg (fun b => b = p) w w' ∧ ∀ j, j ≠ 69 → j ≠ 70 → w'.cell? ⟨p, j, none⟩ = w.cell? ⟨p, j, none⟩ ∧ w'.frozen? ⟨p, j, none⟩ = w.frozen? ⟨p, j, none⟩
theorem cll_fin1 {w : World} {p : Nat} {r v : Int} : Cll w p (.returned (.int .i64 r)) (w.setCell ⟨p, 70, none⟩ (.int .i64 v)) := by
  refine ⟨r, rfl, ((Chg.setCell (S := fun b => b = p) (p := ⟨p, 70, none⟩) (Chg.refl _ _) (.inl rfl) _)), fun j h1 h2 => ⟨?_, by simp⟩⟩
  rw [World.cell?_setCell_other _ _ _ _ (by intro e; injection e with e1 e2; exact h2 e2.symm)]
theorem cll_fin2 {w : World} {p : Nat} {r v u : Int} : Cll w p (.returned (.int .i64 r)) ((w.setCell ⟨p, 69, none⟩ (.int .i64 u)).setCell ⟨p, 70, none⟩ (.int .i64 v)) := by
  refine ⟨r, rfl, Chg.setCell (S := fun b => b = p) (p := ⟨p, 70, none⟩) (Chg.setCell (S := fun b => b = p) (p := ⟨p, 69, none⟩) (Chg.refl _ _) (.inl rfl) _) (.inl rfl) _, fun j h1 h2 => ⟨?_, by simp⟩⟩
  rw [World.cell?_setCell_other _ _ _ _ (by intro e; injection e with e1 e2; exact h2 e2.symm), World.cell?_setCell_other _ _ _ _ (by intro e; injection e with e1 e2; exact h1 e2.symm)]
set_option maxRecDepth 1000000 in
set_option maxHeartbeats 40000000 in
theorem cll (p : Nat) (ja : Option Addr) (jn jc : Nat) (Y : Nat → Int) (s : Int) (w : World) (h9 : w.cell? ⟨p, 9, none⟩ = some (.slice ja jn jc)) (h69 : w.cell? ⟨p, 69, none⟩ = some (.int .i64 s)) (h70 : w.cell? ⟨p, 70, none⟩ = some (.int .i64 0)) (hf : ∀ j, w.frozen? ⟨p, j, none⟩ = false) (hn : jn ≤ 1048576)
    (hY : Fsl w ja jn (fun i => .int .u8 (Y i))) :
    Calls Tryf.prog 39 #[.pointer (some ⟨p, 0, none⟩)] w (Cll w p) := by
  have HY := Lib.hid hY
  have hpl : p < w.heap.size := World.block_lt_of_cell? w _ h9
  have f69 := hf 69
  have f70 := hf 70
  clear hY hf
  go_enter Tryf.func39, Tryf.ntmps39
  go_wp2_with fail
  go_loopw [6] (fun i wr => ∃ k : Nat, k ≤ jn ∧ i = .int .i64 k ∧ wr = w) (fun i _ => (intOf i).toNat)
  case atStart => exact ⟨jn, Nat.le_refl _, rfl, rfl⟩
  case round =>
    obtain ⟨k, hk, rfl, rfl⟩ := hrel
    by_cases hlt : 0 < k
    · obtain ⟨b, off, e, hlb, hc⟩ := HY.out.at (k - 1) (by omega)
      subst e
      have hk2 : (0 : Int) < (k : Int) := by omega
      have ek : ((k : Int) - 1).toNat = k - 1 := by omega
      generalize Y (k - 1) = y at hc
      by_cases y13 : y = 13
      · subst y13
        go_wp2_with fail
        go_ret
        exact cll_fin2
      by_cases y10 : y = 10
      · subst y10
        go_wp2_with fail
        go_ret
        exact cll_fin2
      have e13 : (y == 13) = false := by simpa using y13
      have e10 : (y == 10) = false := by simpa using y10
      go_wp2_with fail
      go_roundw
      case rel => exact ⟨k - 1, by omega, by go_num, by trivial⟩
      case measure => simp [intOf]; omega
    · obtain rfl : k = 0 := by omega
      go_wp2_with fail
      go_ret
      exact cll_fin1
set_option maxRecDepth 1000000 in
set_option maxHeartbeats 40000000 in
theorem uq0 (B p : Nat) (a : Option Addr) (n c : Nat) (Z : Nat → Int) (q fl : Int) (ns ao : Bool) (ja : Option Addr) (jn jc : Nat) (xs0 : List Value) (w : World) (h9 : w.cell? ⟨p, 9, none⟩ = some (.slice ja jn jc)) (f9 : w.frozen? ⟨p, 9, none⟩ = false)
  (LL : Int) (h26 : w.cell? ⟨p, 26, none⟩ = some (.int .i64 LL)) (uf : Int) (h24 : w.cell? ⟨p, 24, none⟩ = some (.int .u64 uf)) (h31 : w.cell? ⟨p, 31, none⟩ = some (.bool ao)) (hn : n ≤ 1048576) (ho : OwnG w B (.slice ja jn jc) xs0.length xs0) (hB : B ≤ w.heap.size) (hsl : Fsl w a n (fun i => .int .u16 (Z i))) (hZ : ∀ i, i < n → 0 ≤ Z i ∧ Z i ≤ 65535) (hsn : 0 < n → ∀ x, a = some x → (Value.slice ja jn jc).ownBlock ≠ some x.block) (hap : 0 < n → ∀ x, a = some x → x.block ≠ p) (hpn : (Value.slice ja jn jc).ownBlock ≠ some p) (hx : xs0.length ≤ 1048577)
  (hH : ∀ w, Calls Tryf.prog 37 #[.int .u64 uf, .int .u64 68719476736] w fun e w' => e = .returned (.bool ns) ∧ w' = w) (hE : ao = true → ∀ w, Calls Tryf.prog 37 #[.int .u64 uf, .int .u64 576460752303423488] w fun e w' => e = .returned (.bool true) ∧ w' = w) (hL : LL ≤ 0) :
    Calls Tryf.prog 35 #[.pointer (some ⟨p, 0, none⟩), .slice a n c, .int .i32 q, .int .u8 fl] w (UPC w p B (.slice ja jn jc) xs0 n Z q ns ao false) := by
  have hmk : ∀ w : World, (Instr.makeSlice 25 (.int .i64 4) (.int .i64 4)).run Tryf.prog w = .ok (.slice (some ⟨w.heap.size, 0, none⟩) 4 4) (w.alloc (.cells (madeCells #[.int .u8 0] 4) 5)) := fun w => run_make_one (P := Tryf.prog) (T := 25) (E := 5) (z := .int .u8 0) (bytes := 1) Tryf.underlying25 (by kernel_rfl) rfl (by omega) 4 (by omega) w
  have hp : p < w.heap.size := World.block_lt_of_cell? w _ h9
  have HUS := Lib.hid (fun w2 hc => us0C B p w.heap.size w w2 ja jn jc xs0 ho rfl hc hp hpn)
  have HSL := Lib.hid hsl
  have HSN := Lib.hid hsn
  have HAP := Lib.hid hap
  have HZ := Lib.hid hZ
  have HH := Lib.hid hH
  have HE := Lib.hid hE
  have H24 := Lib.hid h24
  have H31 := Lib.hid h31
  have H26 := Lib.hid h26
  have H9 := Lib.hid h9
  have F9 := Lib.hid f9
  have HPN := Lib.hid hpn
  clear ho hsl hsn hap hZ hH hE h24 h31 f9 hpn
  go_enter Tryf.func35, Tryf.ntmps35
  go_wp2_with fail

  obtain ⟨w0, hus, hc0, hsz0, hcell, hfroz⟩ := HUS.out _ (Chg.refl _ _)
  have K9 := Lib.hid ((hcell 9).trans ((World.cell?_of_block (a := ⟨p, 9, none⟩) (Below.heap_alloc w _ p hp)).trans H9.out))
  have K24 := Lib.hid ((hcell 24).trans ((World.cell?_of_block (a := ⟨p, 24, none⟩) (Below.heap_alloc w _ p hp)).trans H24.out))
  have K26 := Lib.hid ((hcell 26).trans ((World.cell?_of_block (a := ⟨p, 26, none⟩) (Below.heap_alloc w _ p hp)).trans H26.out))
  have K31 := Lib.hid ((hcell 31).trans ((World.cell?_of_block (a := ⟨p, 31, none⟩) (Below.heap_alloc w _ p hp)).trans H31.out))
  have KF := Lib.hid ((hfroz 9).trans ((World.frozen?_of_block (a := ⟨p, 9, none⟩) (Below.heap_alloc w _ p hp)).trans F9.out))
  have HS2 := Lib.hid hsz0
  have HC0 := Lib.hid hc0
  have HU0 := Lib.hid hus
  have HSL0 : Hid (Fsl w0 a n (fun i => .int .u16 (Z i))) := Lib.hid ⟨HSL.out.1, fun i hi => by
    obtain ⟨b, off, e, hb, hcl⟩ := HSL.out.2 i hi
    exact ⟨b, off, e, by rw [hsz0]; exact hb, hc0.cell hcl (HAP.out (by omega) ⟨b, off, none⟩ e)⟩⟩
  clear hcell hfroz hus hc0 hsz0
  rename_i K1 hK1 hLx
  refine loopT w0 B p w.heap.size (.slice ja jn jc) xs0 a n c q fl Z ns ao false _ _ _ _ _ _ _ _ _ _ _ _ _ _ _ _ _ _ _ _ _ _ _ _ _ _ _ _ _ _ _ _ _ _ _ _ _ _ _ _ (by rw [HS2.out]; exact hB) hn hx HZ.out HSL0 HSN.out uf K24.out K31.out HPN.out HH HE _ _ LL K26.out ?_ _ _ _ _ _ _ _ _ _ _ _ _ _ _ _ _ _ _ _ _ _ _ _ _ _ _ _ _ _ _ _ _ _ _ _ _ _ _ _ _ _ _ _ _ _ _ _ _ _ _ _ _ _ _ _ _ _ _ _ _ _ _ _ _ _ _ _ _ _ _ _ _ _ _ _ _ _ _ _ _ _ _ _ _ _ _ _ _ _ _ _ _ _ _ _ _ _ _ _ _ _ _ _ _ _ _ _ _ _ _ _ _ _ _ _ _ _ _ _ _ _ _ _ _ _ _ _ _ _ _ _ _ _ _ _ _ _ _ _ _ _ _ _ _ _ _ _ _ _ _ _ _ _ _ _ _ _ _ _ _ _ _ _ _ _ _ _ _ _ _ _ _ _ _ _ _ _ _ _ _ _ _ _ _ _ _ _ _ _ _ _ _ _ _ _ _ _ _ _ _ _ _ _ _ _ _ _ _ _ _ _ _ _ _ _ _ _ _ _ _ _ _ _ _ _ _ _ _ _ _ _ _ _ _ _ _ _ _ _ _ _ _ _ _ _ _ _ _ _ _ _ _ _ _ _ _ _ _ _ _ _ _ _ _ _ _ _ _ _ _ _ _ _ _ _ _ _ _ _ _ _ _ _ _ _ _ _ _ _ _ _ _ _ _ _ _ _ _ _ _ _ _ _ _ _ _ _ _ _ _ _ _ _ _ _ _ _ _ _ _ _ _ _ _ _ _ _ _ _ _ _ _ _ _ _ _ _ _ _ _ _ _ _ _ _ _ _ _ _ _ _ _ _ _ _ _ _ _ _ _ _ _ _ _ _ _ _ _ _ _ _ _ _ _ _ _ _ _ _ _ _ _ _ _ _ _ _ _ _ _ _ _ _ _ _ _ _ _ _ _ _ ⟨0, Nat.zero_le _, rfl, ⟨_, rfl⟩, _, _, _, _, rfl, HU0, Lib.hid (Pre.start _)⟩
  intro a1 wr hI hmu
  refine hK1 _ _ ?_
  clear hK1
  unfold UJ at hI
  obtain ⟨u9, hI⟩ := hI
  obtain ⟨u10, hI⟩ := hI
  obtain ⟨u12, hI⟩ := hI
  obtain ⟨u14, hI⟩ := hI
  obtain ⟨u15, hI⟩ := hI
  obtain ⟨u16, hI⟩ := hI
  obtain ⟨u17, hI⟩ := hI
  obtain ⟨u18, hI⟩ := hI
  obtain ⟨u19, hI⟩ := hI
  obtain ⟨u20, hI⟩ := hI
  obtain ⟨u21, hI⟩ := hI
  obtain ⟨u22, hI⟩ := hI
  obtain ⟨u23, hI⟩ := hI
  obtain ⟨u56, hI⟩ := hI
  obtain ⟨u57, hI⟩ := hI
  obtain ⟨u58, hI⟩ := hI
  obtain ⟨u59, hI⟩ := hI
  obtain ⟨u60, hI⟩ := hI
  obtain ⟨u61, hI⟩ := hI
  obtain ⟨u62, hI⟩ := hI
  obtain ⟨u63, hI⟩ := hI
  obtain ⟨u64, hI⟩ := hI
  obtain ⟨u65, hI⟩ := hI
  obtain ⟨u66, hI⟩ := hI
  obtain ⟨u67, hI⟩ := hI
  obtain ⟨u68, hI⟩ := hI
  obtain ⟨u69, hI⟩ := hI
  obtain ⟨u70, hI⟩ := hI
  obtain ⟨u71, hI⟩ := hI
  obtain ⟨u72, hI⟩ := hI
  obtain ⟨u73, hI⟩ := hI
  obtain ⟨u74, hI⟩ := hI
  obtain ⟨u75, hI⟩ := hI
  obtain ⟨u76, hI⟩ := hI
  obtain ⟨u77, hI⟩ := hI
  obtain ⟨u78, hI⟩ := hI
  obtain ⟨u79, hI⟩ := hI
  obtain ⟨u80, hI⟩ := hI
  obtain ⟨u81, hI⟩ := hI
  obtain ⟨u82, hI⟩ := hI
  obtain ⟨u83, hI⟩ := hI
  obtain ⟨u84, hI⟩ := hI
  obtain ⟨u85, hI⟩ := hI
  obtain ⟨u86, hI⟩ := hI
  obtain ⟨u87, hI⟩ := hI
  obtain ⟨u88, hI⟩ := hI
  obtain ⟨u89, hI⟩ := hI
  obtain ⟨u90, hI⟩ := hI
  obtain ⟨u91, hI⟩ := hI
  obtain ⟨u92, hI⟩ := hI
  obtain ⟨u93, hI⟩ := hI
  obtain ⟨u94, hI⟩ := hI
  obtain ⟨u95, hI⟩ := hI
  obtain ⟨u96, hI⟩ := hI
  obtain ⟨u97, hI⟩ := hI
  obtain ⟨u98, hI⟩ := hI
  obtain ⟨u99, hI⟩ := hI
  obtain ⟨u100, hI⟩ := hI
  obtain ⟨u101, hI⟩ := hI
  obtain ⟨u102, hI⟩ := hI
  obtain ⟨u103, hI⟩ := hI
  obtain ⟨u104, hI⟩ := hI
  obtain ⟨u105, hI⟩ := hI
  obtain ⟨u106, hI⟩ := hI
  obtain ⟨u107, hI⟩ := hI
  obtain ⟨u108, hI⟩ := hI
  obtain ⟨u109, hI⟩ := hI
  obtain ⟨u110, hI⟩ := hI
  obtain ⟨u111, hI⟩ := hI
  obtain ⟨u112, hI⟩ := hI
  obtain ⟨u113, hI⟩ := hI
  obtain ⟨u114, hI⟩ := hI
  obtain ⟨u115, hI⟩ := hI
  obtain ⟨u116, hI⟩ := hI
  obtain ⟨u117, hI⟩ := hI
  obtain ⟨u118, hI⟩ := hI
  obtain ⟨u119, hI⟩ := hI
  obtain ⟨u120, hI⟩ := hI
  obtain ⟨u121, hI⟩ := hI
  obtain ⟨u122, hI⟩ := hI
  obtain ⟨u123, hI⟩ := hI
  obtain ⟨u124, hI⟩ := hI
  obtain ⟨u125, hI⟩ := hI
  obtain ⟨u126, hI⟩ := hI
  obtain ⟨u127, hI⟩ := hI
  obtain ⟨u128, hI⟩ := hI
  obtain ⟨u129, hI⟩ := hI
  obtain ⟨u130, hI⟩ := hI
  obtain ⟨u131, hI⟩ := hI
  obtain ⟨u132, hI⟩ := hI
  obtain ⟨u133, hI⟩ := hI
  obtain ⟨u134, hI⟩ := hI
  obtain ⟨u135, hI⟩ := hI
  obtain ⟨u136, hI⟩ := hI
  obtain ⟨u137, hI⟩ := hI
  obtain ⟨u138, hI⟩ := hI
  obtain ⟨u139, hI⟩ := hI
  obtain ⟨u140, hI⟩ := hI
  obtain ⟨u141, hI⟩ := hI
  obtain ⟨u142, hI⟩ := hI
  obtain ⟨u143, hI⟩ := hI
  obtain ⟨u144, hI⟩ := hI
  obtain ⟨u145, hI⟩ := hI
  obtain ⟨u146, hI⟩ := hI
  obtain ⟨u147, hI⟩ := hI
  obtain ⟨u148, hI⟩ := hI
  obtain ⟨u149, hI⟩ := hI
  obtain ⟨u150, hI⟩ := hI
  obtain ⟨u151, hI⟩ := hI
  obtain ⟨u152, hI⟩ := hI
  obtain ⟨u153, hI⟩ := hI
  obtain ⟨u154, hI⟩ := hI
  obtain ⟨u155, hI⟩ := hI
  obtain ⟨u156, hI⟩ := hI
  obtain ⟨u157, hI⟩ := hI
  obtain ⟨u158, hI⟩ := hI
  obtain ⟨u159, hI⟩ := hI
  obtain ⟨u160, hI⟩ := hI
  obtain ⟨u161, hI⟩ := hI
  obtain ⟨u162, hI⟩ := hI
  obtain ⟨u163, hI⟩ := hI
  obtain ⟨u164, hI⟩ := hI
  obtain ⟨u165, hI⟩ := hI
  obtain ⟨u166, hI⟩ := hI
  obtain ⟨u167, hI⟩ := hI
  obtain ⟨u168, hI⟩ := hI
  obtain ⟨u169, hI⟩ := hI
  obtain ⟨u170, hI⟩ := hI
  obtain ⟨u171, hI⟩ := hI
  obtain ⟨u172, hI⟩ := hI
  obtain ⟨u173, hI⟩ := hI
  obtain ⟨u174, hI⟩ := hI
  obtain ⟨u175, hI⟩ := hI
  obtain ⟨u176, hI⟩ := hI
  obtain ⟨u177, hI⟩ := hI
  obtain ⟨u178, hI⟩ := hI
  obtain ⟨u179, hI⟩ := hI
  obtain ⟨u180, hI⟩ := hI
  obtain ⟨u181, hI⟩ := hI
  obtain ⟨u182, hI⟩ := hI
  obtain ⟨u183, hI⟩ := hI
  obtain ⟨u184, hI⟩ := hI
  obtain ⟨u185, hI⟩ := hI
  obtain ⟨u186, hI⟩ := hI
  obtain ⟨u187, hI⟩ := hI
  obtain ⟨u188, hI⟩ := hI
  obtain ⟨u189, hI⟩ := hI
  obtain ⟨u190, hI⟩ := hI
  obtain ⟨u191, hI⟩ := hI
  obtain ⟨u192, hI⟩ := hI
  obtain ⟨u193, hI⟩ := hI
  obtain ⟨u194, hI⟩ := hI
  obtain ⟨u195, hI⟩ := hI
  obtain ⟨u196, hI⟩ := hI
  obtain ⟨u197, hI⟩ := hI
  obtain ⟨u198, hI⟩ := hI
  obtain ⟨u199, hI⟩ := hI
  obtain ⟨u200, hI⟩ := hI
  obtain ⟨u201, hI⟩ := hI
  obtain ⟨u202, hI⟩ := hI
  obtain ⟨u203, hI⟩ := hI
  obtain ⟨u204, hI⟩ := hI
  obtain ⟨u205, hI⟩ := hI
  obtain ⟨u206, hI⟩ := hI
  obtain ⟨u207, hI⟩ := hI
  obtain ⟨u208, hI⟩ := hI
  obtain ⟨u209, hI⟩ := hI
  obtain ⟨u210, hI⟩ := hI
  obtain ⟨u211, hI⟩ := hI
  obtain ⟨u212, hI⟩ := hI
  obtain ⟨u213, hI⟩ := hI
  obtain ⟨u214, hI⟩ := hI
  obtain ⟨u215, hI⟩ := hI
  obtain ⟨u216, hI⟩ := hI
  obtain ⟨u217, hI⟩ := hI
  obtain ⟨u218, hI⟩ := hI
  obtain ⟨u219, hI⟩ := hI
  obtain ⟨u220, hI⟩ := hI
  obtain ⟨u221, hI⟩ := hI
  obtain ⟨u222, hI⟩ := hI
  obtain ⟨u223, hI⟩ := hI
  obtain ⟨u224, hI⟩ := hI
  obtain ⟨u225, hI⟩ := hI
  obtain ⟨u226, hI⟩ := hI
  obtain ⟨u227, hI⟩ := hI
  obtain ⟨u228, hI⟩ := hI
  obtain ⟨u229, hI⟩ := hI
  obtain ⟨u230, hI⟩ := hI
  obtain ⟨u231, hI⟩ := hI
  obtain ⟨u232, hI⟩ := hI
  obtain ⟨u233, hI⟩ := hI
  obtain ⟨u234, hI⟩ := hI
  obtain ⟨u235, hI⟩ := hI
  obtain ⟨u236, hI⟩ := hI
  obtain ⟨u237, hI⟩ := hI
  obtain ⟨u238, hI⟩ := hI
  obtain ⟨u239, hI⟩ := hI
  obtain ⟨u240, hI⟩ := hI
  obtain ⟨u241, hI⟩ := hI
  obtain ⟨u242, hI⟩ := hI
  obtain ⟨u243, hI⟩ := hI
  obtain ⟨u244, hI⟩ := hI
  obtain ⟨u245, hI⟩ := hI
  obtain ⟨u246, hI⟩ := hI
  obtain ⟨u247, hI⟩ := hI
  obtain ⟨u248, hI⟩ := hI
  obtain ⟨u249, hI⟩ := hI
  obtain ⟨u250, hI⟩ := hI
  obtain ⟨u251, hI⟩ := hI
  obtain ⟨u252, hI⟩ := hI
  obtain ⟨u253, hI⟩ := hI
  obtain ⟨u254, hI⟩ := hI
  obtain ⟨u255, hI⟩ := hI
  obtain ⟨u256, hI⟩ := hI
  obtain ⟨u257, hI⟩ := hI
  obtain ⟨u258, hI⟩ := hI
  obtain ⟨u259, hI⟩ := hI
  obtain ⟨u260, hI⟩ := hI
  obtain ⟨u261, hI⟩ := hI
  obtain ⟨u262, hI⟩ := hI
  obtain ⟨u263, hI⟩ := hI
  obtain ⟨u264, hI⟩ := hI
  obtain ⟨u265, hI⟩ := hI
  obtain ⟨u266, hI⟩ := hI
  obtain ⟨u267, hI⟩ := hI
  obtain ⟨u268, hI⟩ := hI
  obtain ⟨u269, hI⟩ := hI
  obtain ⟨u270, hI⟩ := hI
  obtain ⟨u271, hI⟩ := hI
  obtain ⟨u272, hI⟩ := hI
  obtain ⟨u273, hI⟩ := hI
  obtain ⟨u274, hI⟩ := hI
  obtain ⟨u275, hI⟩ := hI
  obtain ⟨u276, hI⟩ := hI
  obtain ⟨u277, hI⟩ := hI
  obtain ⟨u278, hI⟩ := hI
  obtain ⟨u279, hI⟩ := hI
  obtain ⟨u280, hI⟩ := hI
  obtain ⟨u281, hI⟩ := hI
  obtain ⟨u282, hI⟩ := hI
  obtain ⟨u283, hI⟩ := hI
  obtain ⟨u284, hI⟩ := hI
  obtain ⟨u285, hI⟩ := hI
  obtain ⟨u286, hI⟩ := hI
  obtain ⟨u287, hI⟩ := hI
  obtain ⟨u288, hI⟩ := hI
  obtain ⟨u289, hI⟩ := hI
  obtain ⟨u290, hI⟩ := hI
  obtain ⟨u291, hI⟩ := hI
  obtain ⟨u292, hI⟩ := hI
  obtain ⟨u293, hI⟩ := hI
  obtain ⟨u294, hI⟩ := hI
  obtain ⟨u295, hI⟩ := hI
  obtain ⟨u296, hI⟩ := hI
  obtain ⟨u297, hI⟩ := hI
  obtain ⟨u298, hI⟩ := hI
  obtain ⟨u299, hI⟩ := hI
  obtain ⟨u300, hI⟩ := hI
  obtain ⟨u301, hI⟩ := hI
  obtain ⟨u302, hI⟩ := hI
  obtain ⟨u303, hI⟩ := hI
  obtain ⟨u304, hI⟩ := hI
  obtain ⟨u305, hI⟩ := hI
  obtain ⟨u306, hI⟩ := hI
  obtain ⟨u307, hI⟩ := hI
  obtain ⟨u308, hI⟩ := hI
  obtain ⟨u309, hI⟩ := hI
  obtain ⟨u310, hI⟩ := hI
  obtain ⟨u311, hI⟩ := hI
  obtain ⟨u312, hI⟩ := hI
  obtain ⟨u313, hI⟩ := hI
  obtain ⟨u314, hI⟩ := hI
  obtain ⟨u315, hI⟩ := hI
  obtain ⟨u316, hI⟩ := hI
  obtain ⟨u317, hI⟩ := hI
  obtain ⟨u318, hI⟩ := hI
  obtain ⟨u319, hI⟩ := hI
  obtain ⟨u320, hI⟩ := hI
  obtain ⟨u321, hI⟩ := hI
  obtain ⟨u322, hI⟩ := hI
  obtain ⟨u323, hI⟩ := hI
  obtain ⟨u324, hI⟩ := hI
  obtain ⟨u325, hI⟩ := hI
  obtain ⟨u326, hI⟩ := hI
  obtain ⟨u327, hI⟩ := hI
  obtain ⟨u328, hI⟩ := hI
  obtain ⟨u329, hI⟩ := hI
  obtain ⟨u330, hI⟩ := hI
  obtain ⟨u331, hI⟩ := hI
  obtain ⟨u332, hI⟩ := hI
  obtain ⟨u333, hI⟩ := hI
  obtain ⟨u334, hI⟩ := hI
  obtain ⟨u335, hI⟩ := hI
  obtain ⟨u336, hI⟩ := hI
  obtain ⟨u337, hI⟩ := hI
  obtain ⟨u338, hI⟩ := hI
  obtain ⟨u339, hI⟩ := hI
  obtain ⟨u340, hI⟩ := hI
  obtain ⟨u341, hI⟩ := hI
  obtain ⟨u342, hI⟩ := hI
  obtain ⟨u343, hI⟩ := hI
  obtain ⟨u344, hI⟩ := hI
  obtain ⟨u345, hI⟩ := hI
  obtain ⟨u346, hI⟩ := hI
  obtain ⟨u347, hI⟩ := hI
  obtain ⟨u348, hI⟩ := hI
  obtain ⟨u349, hI⟩ := hI
  obtain ⟨u350, hI⟩ := hI
  obtain ⟨u351, hI⟩ := hI
  obtain ⟨u352, hI⟩ := hI
  obtain ⟨u353, hI⟩ := hI
  obtain ⟨u354, hI⟩ := hI
  obtain ⟨u355, hI⟩ := hI
  obtain ⟨u356, hI⟩ := hI
  obtain ⟨u357, hI⟩ := hI
  obtain ⟨u358, hI⟩ := hI
  obtain ⟨u359, hI⟩ := hI
  obtain ⟨u360, hI⟩ := hI
  obtain ⟨u361, hI⟩ := hI
  obtain ⟨u362, hI⟩ := hI
  obtain ⟨u363, hI⟩ := hI
  obtain ⟨u364, hI⟩ := hI
  obtain ⟨u365, hI⟩ := hI
  obtain ⟨u366, hI⟩ := hI
  obtain ⟨u367, hI⟩ := hI
  obtain ⟨u368, hI⟩ := hI
  obtain ⟨u369, hI⟩ := hI
  obtain ⟨u370, hI⟩ := hI
  obtain ⟨u371, hI⟩ := hI
  obtain ⟨u372, hI⟩ := hI
  obtain ⟨u373, hI⟩ := hI
  obtain ⟨u374, hI⟩ := hI
  obtain ⟨u375, hI⟩ := hI
  obtain ⟨u376, hI⟩ := hI
  obtain ⟨u377, hI⟩ := hI
  obtain ⟨u378, hI⟩ := hI
  obtain ⟨u379, hI⟩ := hI
  obtain ⟨u380, hI⟩ := hI
  obtain ⟨u381, hI⟩ := hI
  obtain ⟨u382, hI⟩ := hI
  obtain ⟨u383, hI⟩ := hI
  obtain ⟨u384, hI⟩ := hI
  obtain ⟨u385, hI⟩ := hI
  obtain ⟨u386, hI⟩ := hI
  obtain ⟨u387, hI⟩ := hI
  obtain ⟨u388, hI⟩ := hI
  obtain ⟨u389, hI⟩ := hI
  obtain ⟨u390, hI⟩ := hI
  obtain ⟨u391, hI⟩ := hI
  obtain ⟨u392, hI⟩ := hI
  obtain ⟨u393, hI⟩ := hI
  obtain ⟨u394, hI⟩ := hI
  obtain ⟨u395, hI⟩ := hI
  obtain ⟨u396, hI⟩ := hI
  obtain ⟨u397, hI⟩ := hI
  obtain ⟨u398, hI⟩ := hI
  obtain ⟨u399, hI⟩ := hI
  obtain ⟨u400, hI⟩ := hI
  obtain ⟨u401, hI⟩ := hI
  obtain ⟨u402, hI⟩ := hI
  obtain ⟨u403, hI⟩ := hI
  obtain ⟨u404, hI⟩ := hI
  obtain ⟨u405, hI⟩ := hI
  obtain ⟨u406, hI⟩ := hI
  obtain ⟨u407, hI⟩ := hI
  obtain ⟨u408, hI⟩ := hI
  obtain ⟨u409, hI⟩ := hI
  obtain ⟨u410, hI⟩ := hI
  obtain ⟨u411, hI⟩ := hI
  obtain ⟨u412, hI⟩ := hI
  obtain ⟨u413, hI⟩ := hI
  obtain ⟨u414, hI⟩ := hI
  obtain ⟨u415, hI⟩ := hI
  obtain ⟨u416, hI⟩ := hI
  obtain ⟨u417, hI⟩ := hI
  obtain ⟨u418, hI⟩ := hI
  obtain ⟨u419, hI⟩ := hI
  obtain ⟨u420, hI⟩ := hI
  obtain ⟨u421, hI⟩ := hI
  obtain ⟨u422, hI⟩ := hI
  obtain ⟨u423, hI⟩ := hI
  obtain ⟨u424, hI⟩ := hI
  obtain ⟨u425, hI⟩ := hI
  obtain ⟨u426, hI⟩ := hI
  obtain ⟨u427, hI⟩ := hI
  obtain ⟨u428, hI⟩ := hI
  obtain ⟨u429, hI⟩ := hI
  obtain ⟨u430, hI⟩ := hI
  obtain ⟨u431, hI⟩ := hI
  obtain ⟨u432, hI⟩ := hI
  obtain ⟨u433, hI⟩ := hI
  obtain ⟨u434, hI⟩ := hI
  obtain ⟨u435, hI⟩ := hI
  obtain ⟨u436, hI⟩ := hI
  obtain ⟨u437, hI⟩ := hI
  obtain ⟨u438, hI⟩ := hI
  obtain ⟨u439, hI⟩ := hI
  obtain ⟨u440, hI⟩ := hI
  obtain ⟨u441, hI⟩ := hI
  obtain ⟨u442, hI⟩ := hI
  obtain ⟨hrel, hfr⟩ := hI
  subst hfr
  obtain ⟨k, hk, rfl, ⟨sl, rfl⟩, ja2, jn2, jc2, xs, rfl, HU, HP⟩ := hrel
  simp [Umu, intOf] at hmu
  obtain rfl : k = n := by omega
  have c9 := HU.out.cell K9.out HPN.out
  have z9 : wr.frozen? ⟨p, 9, none⟩ = false := (HU.out.chg.frozen (a := ⟨p, 9, none⟩) (by rw [HS2.out]; exact hp) HPN.out).trans KF.out
  go_wp2_with fail
  go_end0
  exact US.finC HU.out HP.out (by omega) HPN.out K9.out KF.out HC0.out HS2.out

set_option maxRecDepth 1000000 in
set_option maxHeartbeats 40000000 in
theorem uq2 (B p : Nat) (a : Option Addr) (n c : Nat) (Z : Nat → Int) (q fl : Int) (ns ao : Bool) (ja : Option Addr) (jn jc : Nat) (xs0 : List Value) (w : World) (h9 : w.cell? ⟨p, 9, none⟩ = some (.slice ja jn jc)) (f9 : w.frozen? ⟨p, 9, none⟩ = false)
  (LL : Int) (h26 : w.cell? ⟨p, 26, none⟩ = some (.int .i64 LL)) (uf : Int) (h24 : w.cell? ⟨p, 24, none⟩ = some (.int .u64 uf)) (h31 : w.cell? ⟨p, 31, none⟩ = some (.bool ao)) (hn : n ≤ 1048576) (ho : OwnG w B (.slice ja jn jc) xs0.length xs0) (hB : B ≤ w.heap.size) (hsl : Fsl w a n (fun i => .int .u16 (Z i))) (hZ : ∀ i, i < n → 0 ≤ Z i ∧ Z i ≤ 65535) (hsn : 0 < n → ∀ x, a = some x → (Value.slice ja jn jc).ownBlock ≠ some x.block) (hap : 0 < n → ∀ x, a = some x → x.block ≠ p) (hpn : (Value.slice ja jn jc).ownBlock ≠ some p) (hx : xs0.length ≤ 1048577)
  (hH : ∀ w, Calls Tryf.prog 37 #[.int .u64 uf, .int .u64 68719476736] w fun e w' => e = .returned (.bool ns) ∧ w' = w) (hE : ao = true → ∀ w, Calls Tryf.prog 37 #[.int .u64 uf, .int .u64 576460752303423488] w fun e w' => e = .returned (.bool true) ∧ w' = w) (hL : 0 < LL) (hfl : (bits .and .u8 fl 2 == 0) = false) :
    Calls Tryf.prog 35 #[.pointer (some ⟨p, 0, none⟩), .slice a n c, .int .i32 q, .int .u8 fl] w (UPC w p B (.slice ja jn jc) xs0 n Z q ns ao false) := by
  have hmk : ∀ w : World, (Instr.makeSlice 25 (.int .i64 4) (.int .i64 4)).run Tryf.prog w = .ok (.slice (some ⟨w.heap.size, 0, none⟩) 4 4) (w.alloc (.cells (madeCells #[.int .u8 0] 4) 5)) := fun w => run_make_one (P := Tryf.prog) (T := 25) (E := 5) (z := .int .u8 0) (bytes := 1) Tryf.underlying25 (by kernel_rfl) rfl (by omega) 4 (by omega) w
  have hp : p < w.heap.size := World.block_lt_of_cell? w _ h9
  have HUS := Lib.hid (fun w2 hc => us0C B p w.heap.size w w2 ja jn jc xs0 ho rfl hc hp hpn)
  have HSL := Lib.hid hsl
  have HSN := Lib.hid hsn
  have HAP := Lib.hid hap
  have HZ := Lib.hid hZ
  have HH := Lib.hid hH
  have HE := Lib.hid hE
  have H24 := Lib.hid h24
  have H31 := Lib.hid h31
  have H26 := Lib.hid h26
  have H9 := Lib.hid h9
  have F9 := Lib.hid f9
  have HPN := Lib.hid hpn
  clear ho hsl hsn hap hZ hH hE h24 h31 f9 hpn
  go_enter Tryf.func35, Tryf.ntmps35
  go_wp2_with fail

  obtain ⟨w0, hus, hc0, hsz0, hcell, hfroz⟩ := HUS.out _ (Chg.refl _ _)
  have K9 := Lib.hid ((hcell 9).trans ((World.cell?_of_block (a := ⟨p, 9, none⟩) (Below.heap_alloc w _ p hp)).trans H9.out))
  have K24 := Lib.hid ((hcell 24).trans ((World.cell?_of_block (a := ⟨p, 24, none⟩) (Below.heap_alloc w _ p hp)).trans H24.out))
  have K26 := Lib.hid ((hcell 26).trans ((World.cell?_of_block (a := ⟨p, 26, none⟩) (Below.heap_alloc w _ p hp)).trans H26.out))
  have K31 := Lib.hid ((hcell 31).trans ((World.cell?_of_block (a := ⟨p, 31, none⟩) (Below.heap_alloc w _ p hp)).trans H31.out))
  have KF := Lib.hid ((hfroz 9).trans ((World.frozen?_of_block (a := ⟨p, 9, none⟩) (Below.heap_alloc w _ p hp)).trans F9.out))
  have HS2 := Lib.hid hsz0
  have HC0 := Lib.hid hc0
  have HU0 := Lib.hid hus
  have HSL0 : Hid (Fsl w0 a n (fun i => .int .u16 (Z i))) := Lib.hid ⟨HSL.out.1, fun i hi => by
    obtain ⟨b, off, e, hb, hcl⟩ := HSL.out.2 i hi
    exact ⟨b, off, e, by rw [hsz0]; exact hb, hc0.cell hcl (HAP.out (by omega) ⟨b, off, none⟩ e)⟩⟩
  clear hcell hfroz hus hc0 hsz0
  rename_i K1 hK1
  refine loopT w0 B p w.heap.size (.slice ja jn jc) xs0 a n c q fl Z ns ao false _ _ _ _ _ _ _ _ _ _ _ _ _ _ _ _ _ _ _ _ _ _ _ _ _ _ _ _ _ _ _ _ _ _ _ _ _ _ _ _ (by rw [HS2.out]; exact hB) hn hx HZ.out HSL0 HSN.out uf K24.out K31.out HPN.out HH HE _ _ LL K26.out ?_ _ _ _ _ _ _ _ _ _ _ _ _ _ _ _ _ _ _ _ _ _ _ _ _ _ _ _ _ _ _ _ _ _ _ _ _ _ _ _ _ _ _ _ _ _ _ _ _ _ _ _ _ _ _ _ _ _ _ _ _ _ _ _ _ _ _ _ _ _ _ _ _ _ _ _ _ _ _ _ _ _ _ _ _ _ _ _ _ _ _ _ _ _ _ _ _ _ _ _ _ _ _ _ _ _ _ _ _ _ _ _ _ _ _ _ _ _ _ _ _ _ _ _ _ _ _ _ _ _ _ _ _ _ _ _ _ _ _ _ _ _ _ _ _ _ _ _ _ _ _ _ _ _ _ _ _ _ _ _ _ _ _ _ _ _ _ _ _ _ _ _ _ _ _ _ _ _ _ _ _ _ _ _ _ _ _ _ _ _ _ _ _ _ _ _ _ _ _ _ _ _ _ _ _ _ _ _ _ _ _ _ _ _ _ _ _ _ _ _ _ _ _ _ _ _ _ _ _ _ _ _ _ _ _ _ _ _ _ _ _ _ _ _ _ _ _ _ _ _ _ _ _ _ _ _ _ _ _ _ _ _ _ _ _ _ _ _ _ _ _ _ _ _ _ _ _ _ _ _ _ _ _ _ _ _ _ _ _ _ _ _ _ _ _ _ _ _ _ _ _ _ _ _ _ _ _ _ _ _ _ _ _ _ _ _ _ _ _ _ _ _ _ _ _ _ _ _ _ _ _ _ _ _ _ _ _ _ _ _ _ _ _ _ _ _ _ _ _ _ _ _ _ _ _ _ _ _ _ _ _ _ _ _ _ _ _ _ _ _ _ _ _ _ _ _ _ _ _ _ _ _ _ _ _ _ _ _ _ _ _ _ _ _ _ _ _ _ _ _ _ _ ⟨0, Nat.zero_le _, rfl, ⟨_, rfl⟩, _, _, _, _, rfl, HU0, Lib.hid (Pre.start _)⟩
  intro a1 wr hI hmu
  refine hK1 _ _ ?_
  clear hK1
  unfold UJ at hI
  obtain ⟨u9, hI⟩ := hI
  obtain ⟨u10, hI⟩ := hI
  obtain ⟨u12, hI⟩ := hI
  obtain ⟨u14, hI⟩ := hI
  obtain ⟨u15, hI⟩ := hI
  obtain ⟨u16, hI⟩ := hI
  obtain ⟨u17, hI⟩ := hI
  obtain ⟨u18, hI⟩ := hI
  obtain ⟨u19, hI⟩ := hI
  obtain ⟨u20, hI⟩ := hI
  obtain ⟨u21, hI⟩ := hI
  obtain ⟨u22, hI⟩ := hI
  obtain ⟨u23, hI⟩ := hI
  obtain ⟨u56, hI⟩ := hI
  obtain ⟨u57, hI⟩ := hI
  obtain ⟨u58, hI⟩ := hI
  obtain ⟨u59, hI⟩ := hI
  obtain ⟨u60, hI⟩ := hI
  obtain ⟨u61, hI⟩ := hI
  obtain ⟨u62, hI⟩ := hI
  obtain ⟨u63, hI⟩ := hI
  obtain ⟨u64, hI⟩ := hI
  obtain ⟨u65, hI⟩ := hI
  obtain ⟨u66, hI⟩ := hI
  obtain ⟨u67, hI⟩ := hI
  obtain ⟨u68, hI⟩ := hI
  obtain ⟨u69, hI⟩ := hI
  obtain ⟨u70, hI⟩ := hI
  obtain ⟨u71, hI⟩ := hI
  obtain ⟨u72, hI⟩ := hI
  obtain ⟨u73, hI⟩ := hI
  obtain ⟨u74, hI⟩ := hI
  obtain ⟨u75, hI⟩ := hI
  obtain ⟨u76, hI⟩ := hI
  obtain ⟨u77, hI⟩ := hI
  obtain ⟨u78, hI⟩ := hI
  obtain ⟨u79, hI⟩ := hI
  obtain ⟨u80, hI⟩ := hI
  obtain ⟨u81, hI⟩ := hI
  obtain ⟨u82, hI⟩ := hI
  obtain ⟨u83, hI⟩ := hI
  obtain ⟨u84, hI⟩ := hI
  obtain ⟨u85, hI⟩ := hI
  obtain ⟨u86, hI⟩ := hI
  obtain ⟨u87, hI⟩ := hI
  obtain ⟨u88, hI⟩ := hI
  obtain ⟨u89, hI⟩ := hI
  obtain ⟨u90, hI⟩ := hI
  obtain ⟨u91, hI⟩ := hI
  obtain ⟨u92, hI⟩ := hI
  obtain ⟨u93, hI⟩ := hI
  obtain ⟨u94, hI⟩ := hI
  obtain ⟨u95, hI⟩ := hI
  obtain ⟨u96, hI⟩ := hI
  obtain ⟨u97, hI⟩ := hI
  obtain ⟨u98, hI⟩ := hI
  obtain ⟨u99, hI⟩ := hI
  obtain ⟨u100, hI⟩ := hI
  obtain ⟨u101, hI⟩ := hI
  obtain ⟨u102, hI⟩ := hI
  obtain ⟨u103, hI⟩ := hI
  obtain ⟨u104, hI⟩ := hI
  obtain ⟨u105, hI⟩ := hI
  obtain ⟨u106, hI⟩ := hI
  obtain ⟨u107, hI⟩ := hI
  obtain ⟨u108, hI⟩ := hI
  obtain ⟨u109, hI⟩ := hI
  obtain ⟨u110, hI⟩ := hI
  obtain ⟨u111, hI⟩ := hI
  obtain ⟨u112, hI⟩ := hI
  obtain ⟨u113, hI⟩ := hI
  obtain ⟨u114, hI⟩ := hI
  obtain ⟨u115, hI⟩ := hI
  obtain ⟨u116, hI⟩ := hI
  obtain ⟨u117, hI⟩ := hI
  obtain ⟨u118, hI⟩ := hI
  obtain ⟨u119, hI⟩ := hI
  obtain ⟨u120, hI⟩ := hI
  obtain ⟨u121, hI⟩ := hI
  obtain ⟨u122, hI⟩ := hI
  obtain ⟨u123, hI⟩ := hI
  obtain ⟨u124, hI⟩ := hI
  obtain ⟨u125, hI⟩ := hI
  obtain ⟨u126, hI⟩ := hI
  obtain ⟨u127, hI⟩ := hI
  obtain ⟨u128, hI⟩ := hI
  obtain ⟨u129, hI⟩ := hI
  obtain ⟨u130, hI⟩ := hI
  obtain ⟨u131, hI⟩ := hI
  obtain ⟨u132, hI⟩ := hI
  obtain ⟨u133, hI⟩ := hI
  obtain ⟨u134, hI⟩ := hI
  obtain ⟨u135, hI⟩ := hI
  obtain ⟨u136, hI⟩ := hI
  obtain ⟨u137, hI⟩ := hI
  obtain ⟨u138, hI⟩ := hI
  obtain ⟨u139, hI⟩ := hI
  obtain ⟨u140, hI⟩ := hI
  obtain ⟨u141, hI⟩ := hI
  obtain ⟨u142, hI⟩ := hI
  obtain ⟨u143, hI⟩ := hI
  obtain ⟨u144, hI⟩ := hI
  obtain ⟨u145, hI⟩ := hI
  obtain ⟨u146, hI⟩ := hI
  obtain ⟨u147, hI⟩ := hI
  obtain ⟨u148, hI⟩ := hI
  obtain ⟨u149, hI⟩ := hI
  obtain ⟨u150, hI⟩ := hI
  obtain ⟨u151, hI⟩ := hI
  obtain ⟨u152, hI⟩ := hI
  obtain ⟨u153, hI⟩ := hI
  obtain ⟨u154, hI⟩ := hI
  obtain ⟨u155, hI⟩ := hI
  obtain ⟨u156, hI⟩ := hI
  obtain ⟨u157, hI⟩ := hI
  obtain ⟨u158, hI⟩ := hI
  obtain ⟨u159, hI⟩ := hI
  obtain ⟨u160, hI⟩ := hI
  obtain ⟨u161, hI⟩ := hI
  obtain ⟨u162, hI⟩ := hI
  obtain ⟨u163, hI⟩ := hI
  obtain ⟨u164, hI⟩ := hI
  obtain ⟨u165, hI⟩ := hI
  obtain ⟨u166, hI⟩ := hI
  obtain ⟨u167, hI⟩ := hI
  obtain ⟨u168, hI⟩ := hI
  obtain ⟨u169, hI⟩ := hI
  obtain ⟨u170, hI⟩ := hI
  obtain ⟨u171, hI⟩ := hI
  obtain ⟨u172, hI⟩ := hI
  obtain ⟨u173, hI⟩ := hI
  obtain ⟨u174, hI⟩ := hI
  obtain ⟨u175, hI⟩ := hI
  obtain ⟨u176, hI⟩ := hI
  obtain ⟨u177, hI⟩ := hI
  obtain ⟨u178, hI⟩ := hI
  obtain ⟨u179, hI⟩ := hI
  obtain ⟨u180, hI⟩ := hI
  obtain ⟨u181, hI⟩ := hI
  obtain ⟨u182, hI⟩ := hI
  obtain ⟨u183, hI⟩ := hI
  obtain ⟨u184, hI⟩ := hI
  obtain ⟨u185, hI⟩ := hI
  obtain ⟨u186, hI⟩ := hI
  obtain ⟨u187, hI⟩ := hI
  obtain ⟨u188, hI⟩ := hI
  obtain ⟨u189, hI⟩ := hI
  obtain ⟨u190, hI⟩ := hI
  obtain ⟨u191, hI⟩ := hI
  obtain ⟨u192, hI⟩ := hI
  obtain ⟨u193, hI⟩ := hI
  obtain ⟨u194, hI⟩ := hI
  obtain ⟨u195, hI⟩ := hI
  obtain ⟨u196, hI⟩ := hI
  obtain ⟨u197, hI⟩ := hI
  obtain ⟨u198, hI⟩ := hI
  obtain ⟨u199, hI⟩ := hI
  obtain ⟨u200, hI⟩ := hI
  obtain ⟨u201, hI⟩ := hI
  obtain ⟨u202, hI⟩ := hI
  obtain ⟨u203, hI⟩ := hI
  obtain ⟨u204, hI⟩ := hI
  obtain ⟨u205, hI⟩ := hI
  obtain ⟨u206, hI⟩ := hI
  obtain ⟨u207, hI⟩ := hI
  obtain ⟨u208, hI⟩ := hI
  obtain ⟨u209, hI⟩ := hI
  obtain ⟨u210, hI⟩ := hI
  obtain ⟨u211, hI⟩ := hI
  obtain ⟨u212, hI⟩ := hI
  obtain ⟨u213, hI⟩ := hI
  obtain ⟨u214, hI⟩ := hI
  obtain ⟨u215, hI⟩ := hI
  obtain ⟨u216, hI⟩ := hI
  obtain ⟨u217, hI⟩ := hI
  obtain ⟨u218, hI⟩ := hI
  obtain ⟨u219, hI⟩ := hI
  obtain ⟨u220, hI⟩ := hI
  obtain ⟨u221, hI⟩ := hI
  obtain ⟨u222, hI⟩ := hI
  obtain ⟨u223, hI⟩ := hI
  obtain ⟨u224, hI⟩ := hI
  obtain ⟨u225, hI⟩ := hI
  obtain ⟨u226, hI⟩ := hI
  obtain ⟨u227, hI⟩ := hI
  obtain ⟨u228, hI⟩ := hI
  obtain ⟨u229, hI⟩ := hI
  obtain ⟨u230, hI⟩ := hI
  obtain ⟨u231, hI⟩ := hI
  obtain ⟨u232, hI⟩ := hI
  obtain ⟨u233, hI⟩ := hI
  obtain ⟨u234, hI⟩ := hI
  obtain ⟨u235, hI⟩ := hI
  obtain ⟨u236, hI⟩ := hI
  obtain ⟨u237, hI⟩ := hI
  obtain ⟨u238, hI⟩ := hI
  obtain ⟨u239, hI⟩ := hI
  obtain ⟨u240, hI⟩ := hI
  obtain ⟨u241, hI⟩ := hI
  obtain ⟨u242, hI⟩ := hI
  obtain ⟨u243, hI⟩ := hI
  obtain ⟨u244, hI⟩ := hI
  obtain ⟨u245, hI⟩ := hI
  obtain ⟨u246, hI⟩ := hI
  obtain ⟨u247, hI⟩ := hI
  obtain ⟨u248, hI⟩ := hI
  obtain ⟨u249, hI⟩ := hI
  obtain ⟨u250, hI⟩ := hI
  obtain ⟨u251, hI⟩ := hI
  obtain ⟨u252, hI⟩ := hI
  obtain ⟨u253, hI⟩ := hI
  obtain ⟨u254, hI⟩ := hI
  obtain ⟨u255, hI⟩ := hI
  obtain ⟨u256, hI⟩ := hI
  obtain ⟨u257, hI⟩ := hI
  obtain ⟨u258, hI⟩ := hI
  obtain ⟨u259, hI⟩ := hI
  obtain ⟨u260, hI⟩ := hI
  obtain ⟨u261, hI⟩ := hI
  obtain ⟨u262, hI⟩ := hI
  obtain ⟨u263, hI⟩ := hI
  obtain ⟨u264, hI⟩ := hI
  obtain ⟨u265, hI⟩ := hI
  obtain ⟨u266, hI⟩ := hI
  obtain ⟨u267, hI⟩ := hI
  obtain ⟨u268, hI⟩ := hI
  obtain ⟨u269, hI⟩ := hI
  obtain ⟨u270, hI⟩ := hI
  obtain ⟨u271, hI⟩ := hI
  obtain ⟨u272, hI⟩ := hI
  obtain ⟨u273, hI⟩ := hI
  obtain ⟨u274, hI⟩ := hI
  obtain ⟨u275, hI⟩ := hI
  obtain ⟨u276, hI⟩ := hI
  obtain ⟨u277, hI⟩ := hI
  obtain ⟨u278, hI⟩ := hI
  obtain ⟨u279, hI⟩ := hI
  obtain ⟨u280, hI⟩ := hI
  obtain ⟨u281, hI⟩ := hI
  obtain ⟨u282, hI⟩ := hI
  obtain ⟨u283, hI⟩ := hI
  obtain ⟨u284, hI⟩ := hI
  obtain ⟨u285, hI⟩ := hI
  obtain ⟨u286, hI⟩ := hI
  obtain ⟨u287, hI⟩ := hI
  obtain ⟨u288, hI⟩ := hI
  obtain ⟨u289, hI⟩ := hI
  obtain ⟨u290, hI⟩ := hI
  obtain ⟨u291, hI⟩ := hI
  obtain ⟨u292, hI⟩ := hI
  obtain ⟨u293, hI⟩ := hI
  obtain ⟨u294, hI⟩ := hI
  obtain ⟨u295, hI⟩ := hI
  obtain ⟨u296, hI⟩ := hI
  obtain ⟨u297, hI⟩ := hI
  obtain ⟨u298, hI⟩ := hI
  obtain ⟨u299, hI⟩ := hI
  obtain ⟨u300, hI⟩ := hI
  obtain ⟨u301, hI⟩ := hI
  obtain ⟨u302, hI⟩ := hI
  obtain ⟨u303, hI⟩ := hI
  obtain ⟨u304, hI⟩ := hI
  obtain ⟨u305, hI⟩ := hI
  obtain ⟨u306, hI⟩ := hI
  obtain ⟨u307, hI⟩ := hI
  obtain ⟨u308, hI⟩ := hI
  obtain ⟨u309, hI⟩ := hI
  obtain ⟨u310, hI⟩ := hI
  obtain ⟨u311, hI⟩ := hI
  obtain ⟨u312, hI⟩ := hI
  obtain ⟨u313, hI⟩ := hI
  obtain ⟨u314, hI⟩ := hI
  obtain ⟨u315, hI⟩ := hI
  obtain ⟨u316, hI⟩ := hI
  obtain ⟨u317, hI⟩ := hI
  obtain ⟨u318, hI⟩ := hI
  obtain ⟨u319, hI⟩ := hI
  obtain ⟨u320, hI⟩ := hI
  obtain ⟨u321, hI⟩ := hI
  obtain ⟨u322, hI⟩ := hI
  obtain ⟨u323, hI⟩ := hI
  obtain ⟨u324, hI⟩ := hI
  obtain ⟨u325, hI⟩ := hI
  obtain ⟨u326, hI⟩ := hI
  obtain ⟨u327, hI⟩ := hI
  obtain ⟨u328, hI⟩ := hI
  obtain ⟨u329, hI⟩ := hI
  obtain ⟨u330, hI⟩ := hI
  obtain ⟨u331, hI⟩ := hI
  obtain ⟨u332, hI⟩ := hI
  obtain ⟨u333, hI⟩ := hI
  obtain ⟨u334, hI⟩ := hI
  obtain ⟨u335, hI⟩ := hI
  obtain ⟨u336, hI⟩ := hI
  obtain ⟨u337, hI⟩ := hI
  obtain ⟨u338, hI⟩ := hI
  obtain ⟨u339, hI⟩ := hI
  obtain ⟨u340, hI⟩ := hI
  obtain ⟨u341, hI⟩ := hI
  obtain ⟨u342, hI⟩ := hI
  obtain ⟨u343, hI⟩ := hI
  obtain ⟨u344, hI⟩ := hI
  obtain ⟨u345, hI⟩ := hI
  obtain ⟨u346, hI⟩ := hI
  obtain ⟨u347, hI⟩ := hI
  obtain ⟨u348, hI⟩ := hI
  obtain ⟨u349, hI⟩ := hI
  obtain ⟨u350, hI⟩ := hI
  obtain ⟨u351, hI⟩ := hI
  obtain ⟨u352, hI⟩ := hI
  obtain ⟨u353, hI⟩ := hI
  obtain ⟨u354, hI⟩ := hI
  obtain ⟨u355, hI⟩ := hI
  obtain ⟨u356, hI⟩ := hI
  obtain ⟨u357, hI⟩ := hI
  obtain ⟨u358, hI⟩ := hI
  obtain ⟨u359, hI⟩ := hI
  obtain ⟨u360, hI⟩ := hI
  obtain ⟨u361, hI⟩ := hI
  obtain ⟨u362, hI⟩ := hI
  obtain ⟨u363, hI⟩ := hI
  obtain ⟨u364, hI⟩ := hI
  obtain ⟨u365, hI⟩ := hI
  obtain ⟨u366, hI⟩ := hI
  obtain ⟨u367, hI⟩ := hI
  obtain ⟨u368, hI⟩ := hI
  obtain ⟨u369, hI⟩ := hI
  obtain ⟨u370, hI⟩ := hI
  obtain ⟨u371, hI⟩ := hI
  obtain ⟨u372, hI⟩ := hI
  obtain ⟨u373, hI⟩ := hI
  obtain ⟨u374, hI⟩ := hI
  obtain ⟨u375, hI⟩ := hI
  obtain ⟨u376, hI⟩ := hI
  obtain ⟨u377, hI⟩ := hI
  obtain ⟨u378, hI⟩ := hI
  obtain ⟨u379, hI⟩ := hI
  obtain ⟨u380, hI⟩ := hI
  obtain ⟨u381, hI⟩ := hI
  obtain ⟨u382, hI⟩ := hI
  obtain ⟨u383, hI⟩ := hI
  obtain ⟨u384, hI⟩ := hI
  obtain ⟨u385, hI⟩ := hI
  obtain ⟨u386, hI⟩ := hI
  obtain ⟨u387, hI⟩ := hI
  obtain ⟨u388, hI⟩ := hI
  obtain ⟨u389, hI⟩ := hI
  obtain ⟨u390, hI⟩ := hI
  obtain ⟨u391, hI⟩ := hI
  obtain ⟨u392, hI⟩ := hI
  obtain ⟨u393, hI⟩ := hI
  obtain ⟨u394, hI⟩ := hI
  obtain ⟨u395, hI⟩ := hI
  obtain ⟨u396, hI⟩ := hI
  obtain ⟨u397, hI⟩ := hI
  obtain ⟨u398, hI⟩ := hI
  obtain ⟨u399, hI⟩ := hI
  obtain ⟨u400, hI⟩ := hI
  obtain ⟨u401, hI⟩ := hI
  obtain ⟨u402, hI⟩ := hI
  obtain ⟨u403, hI⟩ := hI
  obtain ⟨u404, hI⟩ := hI
  obtain ⟨u405, hI⟩ := hI
  obtain ⟨u406, hI⟩ := hI
  obtain ⟨u407, hI⟩ := hI
  obtain ⟨u408, hI⟩ := hI
  obtain ⟨u409, hI⟩ := hI
  obtain ⟨u410, hI⟩ := hI
  obtain ⟨u411, hI⟩ := hI
  obtain ⟨u412, hI⟩ := hI
  obtain ⟨u413, hI⟩ := hI
  obtain ⟨u414, hI⟩ := hI
  obtain ⟨u415, hI⟩ := hI
  obtain ⟨u416, hI⟩ := hI
  obtain ⟨u417, hI⟩ := hI
  obtain ⟨u418, hI⟩ := hI
  obtain ⟨u419, hI⟩ := hI
  obtain ⟨u420, hI⟩ := hI
  obtain ⟨u421, hI⟩ := hI
  obtain ⟨u422, hI⟩ := hI
  obtain ⟨u423, hI⟩ := hI
  obtain ⟨u424, hI⟩ := hI
  obtain ⟨u425, hI⟩ := hI
  obtain ⟨u426, hI⟩ := hI
  obtain ⟨u427, hI⟩ := hI
  obtain ⟨u428, hI⟩ := hI
  obtain ⟨u429, hI⟩ := hI
  obtain ⟨u430, hI⟩ := hI
  obtain ⟨u431, hI⟩ := hI
  obtain ⟨u432, hI⟩ := hI
  obtain ⟨u433, hI⟩ := hI
  obtain ⟨u434, hI⟩ := hI
  obtain ⟨u435, hI⟩ := hI
  obtain ⟨u436, hI⟩ := hI
  obtain ⟨u437, hI⟩ := hI
  obtain ⟨u438, hI⟩ := hI
  obtain ⟨u439, hI⟩ := hI
  obtain ⟨u440, hI⟩ := hI
  obtain ⟨u441, hI⟩ := hI
  obtain ⟨u442, hI⟩ := hI
  obtain ⟨hrel, hfr⟩ := hI
  subst hfr
  obtain ⟨k, hk, rfl, ⟨sl, rfl⟩, ja2, jn2, jc2, xs, rfl, HU, HP⟩ := hrel
  simp [Umu, intOf] at hmu
  obtain rfl : k = n := by omega
  have c9 := HU.out.cell K9.out HPN.out
  have z9 : wr.frozen? ⟨p, 9, none⟩ = false := (HU.out.chg.frozen (a := ⟨p, 9, none⟩) (by rw [HS2.out]; exact hp) HPN.out).trans KF.out
  go_wp2_with fail
  go_end0
  exact US.finC HU.out HP.out (by omega) HPN.out K9.out KF.out HC0.out HS2.out

set_option maxRecDepth 1000000 in
set_option maxHeartbeats 40000000 in
theorem uq1 (B p : Nat) (a : Option Addr) (n c : Nat) (Z : Nat → Int) (q fl : Int) (ns ao : Bool) (ja : Option Addr) (jn jc : Nat) (xs0 : List Value) (w : World) (h9 : w.cell? ⟨p, 9, none⟩ = some (.slice ja jn jc)) (f9 : w.frozen? ⟨p, 9, none⟩ = false)
  (LL : Int) (h26 : w.cell? ⟨p, 26, none⟩ = some (.int .i64 LL)) (uf : Int) (h24 : w.cell? ⟨p, 24, none⟩ = some (.int .u64 uf)) (h31 : w.cell? ⟨p, 31, none⟩ = some (.bool ao)) (hn : n ≤ 1048576) (ho : OwnG w B (.slice ja jn jc) xs0.length xs0) (hB : B ≤ w.heap.size) (hsl : Fsl w a n (fun i => .int .u16 (Z i))) (hZ : ∀ i, i < n → 0 ≤ Z i ∧ Z i ≤ 65535) (hsn : 0 < n → ∀ x, a = some x → (Value.slice ja jn jc).ownBlock ≠ some x.block) (hap : 0 < n → ∀ x, a = some x → x.block ≠ p) (hpn : (Value.slice ja jn jc).ownBlock ≠ some p) (hx : xs0.length ≤ 1048577)
  (hH : ∀ w, Calls Tryf.prog 37 #[.int .u64 uf, .int .u64 68719476736] w fun e w' => e = .returned (.bool ns) ∧ w' = w) (hE : ao = true → ∀ w, Calls Tryf.prog 37 #[.int .u64 uf, .int .u64 576460752303423488] w fun e w' => e = .returned (.bool true) ∧ w' = w) (hL : 0 < LL) (hfl : (bits .and .u8 fl 2 == 0) = true) (s : Int) (h69 : w.cell? ⟨p, 69, none⟩ = some (.int .i64 s)) (h70 : w.cell? ⟨p, 70, none⟩ = some (.int .i64 0)) (hfz : ∀ j, w.frozen? ⟨p, j, none⟩ = false) (hjn : jn ≤ 1048576) (Y : Nat → Int) (hY : Fsl w ja jn (fun i => .int .u8 (Y i))) :
    Calls Tryf.prog 35 #[.pointer (some ⟨p, 0, none⟩), .slice a n c, .int .i32 q, .int .u8 fl] w (UPC w p B (.slice ja jn jc) xs0 n Z q ns ao true) := by
  have hmk : ∀ w : World, (Instr.makeSlice 25 (.int .i64 4) (.int .i64 4)).run Tryf.prog w = .ok (.slice (some ⟨w.heap.size, 0, none⟩) 4 4) (w.alloc (.cells (madeCells #[.int .u8 0] 4) 5)) := fun w => run_make_one (P := Tryf.prog) (T := 25) (E := 5) (z := .int .u8 0) (bytes := 1) Tryf.underlying25 (by kernel_rfl) rfl (by omega) 4 (by omega) w
  have hp : p < w.heap.size := World.block_lt_of_cell? w _ h9
  have HUS := Lib.hid (fun w2 hc => us0C B p w.heap.size w w2 ja jn jc xs0 ho rfl hc hp hpn)
  have HSL := Lib.hid hsl
  have HSN := Lib.hid hsn
  have HAP := Lib.hid hap
  have HZ := Lib.hid hZ
  have HH := Lib.hid hH
  have HE := Lib.hid hE
  have H24 := Lib.hid h24
  have H31 := Lib.hid h31
  have H26 := Lib.hid h26
  have H9 := Lib.hid h9
  have F9 := Lib.hid f9
  have HPN := Lib.hid hpn
  have bel : Below w.heap.size w (w.alloc (.cells (madeCells #[.int .u8 0] 4) 5)) := (Below.refl _ _).alloc (Nat.le_refl _) _
  have HBL := Lib.hid bel
  have HCL := Lib.hid (cll p ja jn jc Y s (w.alloc (.cells (madeCells #[.int .u8 0] 4) 5)) (by rw [bel.cell (p := ⟨p, 9, none⟩) hp]; exact h9) (by rw [bel.cell (p := ⟨p, 69, none⟩) hp]; exact h69) (by rw [bel.cell (p := ⟨p, 70, none⟩) hp]; exact h70) (fun j => by rw [bel.frozen (p := ⟨p, j, none⟩) hp]; exact hfz j) hjn (hY.below bel))
  clear h69 h70 hfz hY bel
  clear ho hsl hsn hap hZ hH hE h24 h31 f9 hpn
  go_enter Tryf.func35, Tryf.ntmps35
  go_wp2_with (go_at_call 39; refine HCL.out.mono ?_; rintro e w2 ⟨r, rfl, hc, hj⟩; have c26 := ((hj 26 (by decide) (by decide)).1.trans (World.cell?_of_block (a := ⟨p, 26, none⟩) (Below.heap_alloc w _ p hp))).trans H26.out; have hp2 : p < w2.heap.size := Nat.lt_of_lt_of_le hp (Nat.le_trans HBL.out.size hc.size); have HC := Lib.hid hc; have HJ := Lib.hid hj; clear hc hj)

  · obtain ⟨w0, hus, hc0, hsz0, hcell, hfroz⟩ := HUS.out _ HC.out
    have K9 := Lib.hid ((hcell 9).trans ((HJ.out 9 (by decide) (by decide)).1.trans ((World.cell?_of_block (a := ⟨p, 9, none⟩) (Below.heap_alloc w _ p hp)).trans H9.out)))
    have K24 := Lib.hid ((hcell 24).trans ((HJ.out 24 (by decide) (by decide)).1.trans ((World.cell?_of_block (a := ⟨p, 24, none⟩) (Below.heap_alloc w _ p hp)).trans H24.out)))
    have K26 := Lib.hid ((hcell 26).trans ((HJ.out 26 (by decide) (by decide)).1.trans ((World.cell?_of_block (a := ⟨p, 26, none⟩) (Below.heap_alloc w _ p hp)).trans H26.out)))
    have K31 := Lib.hid ((hcell 31).trans ((HJ.out 31 (by decide) (by decide)).1.trans ((World.cell?_of_block (a := ⟨p, 31, none⟩) (Below.heap_alloc w _ p hp)).trans H31.out)))
    have KF := Lib.hid ((hfroz 9).trans ((HJ.out 9 (by decide) (by decide)).2.trans ((World.frozen?_of_block (a := ⟨p, 9, none⟩) (Below.heap_alloc w _ p hp)).trans F9.out)))
    have HS2 := Lib.hid hsz0
    have HC0 := Lib.hid hc0
    have HU0 := Lib.hid hus
    have HSL0 : Hid (Fsl w0 a n (fun i => .int .u16 (Z i))) := Lib.hid ⟨HSL.out.1, fun i hi => by
      obtain ⟨b, off, e, hb, hcl⟩ := HSL.out.2 i hi
      exact ⟨b, off, e, by rw [hsz0]; exact hb, hc0.cell hcl (HAP.out (by omega) ⟨b, off, none⟩ e)⟩⟩
    clear hcell hfroz hus hc0 hsz0
    rename_i K1 hK1
    refine loopT w0 B p w.heap.size (.slice ja jn jc) xs0 a n c q fl Z ns ao true _ _ _ _ _ _ _ _ _ _ _ _ _ _ _ _ _ _ _ _ _ _ _ _ _ _ _ _ _ _ _ _ _ _ _ _ _ _ _ _ (by rw [HS2.out]; exact hB) hn hx HZ.out HSL0 HSN.out uf K24.out K31.out HPN.out HH HE _ _ LL K26.out ?_ _ _ _ _ _ _ _ _ _ _ _ _ _ _ _ _ _ _ _ _ _ _ _ _ _ _ _ _ _ _ _ _ _ _ _ _ _ _ _ _ _ _ _ _ _ _ _ _ _ _ _ _ _ _ _ _ _ _ _ _ _ _ _ _ _ _ _ _ _ _ _ _ _ _ _ _ _ _ _ _ _ _ _ _ _ _ _ _ _ _ _ _ _ _ _ _ _ _ _ _ _ _ _ _ _ _ _ _ _ _ _ _ _ _ _ _ _ _ _ _ _ _ _ _ _ _ _ _ _ _ _ _ _ _ _ _ _ _ _ _ _ _ _ _ _ _ _ _ _ _ _ _ _ _ _ _ _ _ _ _ _ _ _ _ _ _ _ _ _ _ _ _ _ _ _ _ _ _ _ _ _ _ _ _ _ _ _ _ _ _ _ _ _ _ _ _ _ _ _ _ _ _ _ _ _ _ _ _ _ _ _ _ _ _ _ _ _ _ _ _ _ _ _ _ _ _ _ _ _ _ _ _ _ _ _ _ _ _ _ _ _ _ _ _ _ _ _ _ _ _ _ _ _ _ _ _ _ _ _ _ _ _ _ _ _ _ _ _ _ _ _ _ _ _ _ _ _ _ _ _ _ _ _ _ _ _ _ _ _ _ _ _ _ _ _ _ _ _ _ _ _ _ _ _ _ _ _ _ _ _ _ _ _ _ _ _ _ _ _ _ _ _ _ _ _ _ _ _ _ _ _ _ _ _ _ _ _ _ _ _ _ _ _ _ _ _ _ _ _ _ _ _ _ _ _ _ _ _ _ _ _ _ _ _ _ _ _ _ _ _ _ _ _ _ _ _ _ _ _ _ _ _ _ _ _ _ _ _ _ _ _ _ _ _ _ _ _ _ _ _ _ ⟨0, Nat.zero_le _, rfl, ⟨_, rfl⟩, _, _, _, _, rfl, HU0, Lib.hid (Pre.start _)⟩
    intro a1 wr hI hmu
    refine hK1 _ _ ?_
    clear hK1
    unfold UJ at hI
    obtain ⟨u9, hI⟩ := hI
    obtain ⟨u10, hI⟩ := hI
    obtain ⟨u12, hI⟩ := hI
    obtain ⟨u14, hI⟩ := hI
    obtain ⟨u15, hI⟩ := hI
    obtain ⟨u16, hI⟩ := hI
    obtain ⟨u17, hI⟩ := hI
    obtain ⟨u18, hI⟩ := hI
    obtain ⟨u19, hI⟩ := hI
    obtain ⟨u20, hI⟩ := hI
    obtain ⟨u21, hI⟩ := hI
    obtain ⟨u22, hI⟩ := hI
    obtain ⟨u23, hI⟩ := hI
    obtain ⟨u56, hI⟩ := hI
    obtain ⟨u57, hI⟩ := hI
    obtain ⟨u58, hI⟩ := hI
    obtain ⟨u59, hI⟩ := hI
    obtain ⟨u60, hI⟩ := hI
    obtain ⟨u61, hI⟩ := hI
    obtain ⟨u62, hI⟩ := hI
    obtain ⟨u63, hI⟩ := hI
    obtain ⟨u64, hI⟩ := hI
    obtain ⟨u65, hI⟩ := hI
    obtain ⟨u66, hI⟩ := hI
    obtain ⟨u67, hI⟩ := hI
    obtain ⟨u68, hI⟩ := hI
    obtain ⟨u69, hI⟩ := hI
    obtain ⟨u70, hI⟩ := hI
    obtain ⟨u71, hI⟩ := hI
    obtain ⟨u72, hI⟩ := hI
    obtain ⟨u73, hI⟩ := hI
    obtain ⟨u74, hI⟩ := hI
    obtain ⟨u75, hI⟩ := hI
    obtain ⟨u76, hI⟩ := hI
    obtain ⟨u77, hI⟩ := hI
    obtain ⟨u78, hI⟩ := hI
    obtain ⟨u79, hI⟩ := hI
    obtain ⟨u80, hI⟩ := hI
    obtain ⟨u81, hI⟩ := hI
    obtain ⟨u82, hI⟩ := hI
    obtain ⟨u83, hI⟩ := hI
    obtain ⟨u84, hI⟩ := hI
    obtain ⟨u85, hI⟩ := hI
    obtain ⟨u86, hI⟩ := hI
    obtain ⟨u87, hI⟩ := hI
    obtain ⟨u88, hI⟩ := hI
    obtain ⟨u89, hI⟩ := hI
    obtain ⟨u90, hI⟩ := hI
    obtain ⟨u91, hI⟩ := hI
    obtain ⟨u92, hI⟩ := hI
    obtain ⟨u93, hI⟩ := hI
    obtain ⟨u94, hI⟩ := hI
    obtain ⟨u95, hI⟩ := hI
    obtain ⟨u96, hI⟩ := hI
    obtain ⟨u97, hI⟩ := hI
    obtain ⟨u98, hI⟩ := hI
    obtain ⟨u99, hI⟩ := hI
    obtain ⟨u100, hI⟩ := hI
    obtain ⟨u101, hI⟩ := hI
    obtain ⟨u102, hI⟩ := hI
    obtain ⟨u103, hI⟩ := hI
    obtain ⟨u104, hI⟩ := hI
    obtain ⟨u105, hI⟩ := hI
    obtain ⟨u106, hI⟩ := hI
    obtain ⟨u107, hI⟩ := hI
    obtain ⟨u108, hI⟩ := hI
    obtain ⟨u109, hI⟩ := hI
    obtain ⟨u110, hI⟩ := hI
    obtain ⟨u111, hI⟩ := hI
    obtain ⟨u112, hI⟩ := hI
    obtain ⟨u113, hI⟩ := hI
    obtain ⟨u114, hI⟩ := hI
    obtain ⟨u115, hI⟩ := hI
    obtain ⟨u116, hI⟩ := hI
    obtain ⟨u117, hI⟩ := hI
    obtain ⟨u118, hI⟩ := hI
    obtain ⟨u119, hI⟩ := hI
    obtain ⟨u120, hI⟩ := hI
    obtain ⟨u121, hI⟩ := hI
    obtain ⟨u122, hI⟩ := hI
    obtain ⟨u123, hI⟩ := hI
    obtain ⟨u124, hI⟩ := hI
    obtain ⟨u125, hI⟩ := hI
    obtain ⟨u126, hI⟩ := hI
    obtain ⟨u127, hI⟩ := hI
    obtain ⟨u128, hI⟩ := hI
    obtain ⟨u129, hI⟩ := hI
    obtain ⟨u130, hI⟩ := hI
    obtain ⟨u131, hI⟩ := hI
    obtain ⟨u132, hI⟩ := hI
    obtain ⟨u133, hI⟩ := hI
    obtain ⟨u134, hI⟩ := hI
    obtain ⟨u135, hI⟩ := hI
    obtain ⟨u136, hI⟩ := hI
    obtain ⟨u137, hI⟩ := hI
    obtain ⟨u138, hI⟩ := hI
    obtain ⟨u139, hI⟩ := hI
    obtain ⟨u140, hI⟩ := hI
    obtain ⟨u141, hI⟩ := hI
    obtain ⟨u142, hI⟩ := hI
    obtain ⟨u143, hI⟩ := hI
    obtain ⟨u144, hI⟩ := hI
    obtain ⟨u145, hI⟩ := hI
    obtain ⟨u146, hI⟩ := hI
    obtain ⟨u147, hI⟩ := hI
    obtain ⟨u148, hI⟩ := hI
    obtain ⟨u149, hI⟩ := hI
    obtain ⟨u150, hI⟩ := hI
    obtain ⟨u151, hI⟩ := hI
    obtain ⟨u152, hI⟩ := hI
    obtain ⟨u153, hI⟩ := hI
    obtain ⟨u154, hI⟩ := hI
    obtain ⟨u155, hI⟩ := hI
    obtain ⟨u156, hI⟩ := hI
    obtain ⟨u157, hI⟩ := hI
    obtain ⟨u158, hI⟩ := hI
    obtain ⟨u159, hI⟩ := hI
    obtain ⟨u160, hI⟩ := hI
    obtain ⟨u161, hI⟩ := hI
    obtain ⟨u162, hI⟩ := hI
    obtain ⟨u163, hI⟩ := hI
    obtain ⟨u164, hI⟩ := hI
    obtain ⟨u165, hI⟩ := hI
    obtain ⟨u166, hI⟩ := hI
    obtain ⟨u167, hI⟩ := hI
    obtain ⟨u168, hI⟩ := hI
    obtain ⟨u169, hI⟩ := hI
    obtain ⟨u170, hI⟩ := hI
    obtain ⟨u171, hI⟩ := hI
    obtain ⟨u172, hI⟩ := hI
    obtain ⟨u173, hI⟩ := hI
    obtain ⟨u174, hI⟩ := hI
    obtain ⟨u175, hI⟩ := hI
    obtain ⟨u176, hI⟩ := hI
    obtain ⟨u177, hI⟩ := hI
    obtain ⟨u178, hI⟩ := hI
    obtain ⟨u179, hI⟩ := hI
    obtain ⟨u180, hI⟩ := hI
    obtain ⟨u181, hI⟩ := hI
    obtain ⟨u182, hI⟩ := hI
    obtain ⟨u183, hI⟩ := hI
    obtain ⟨u184, hI⟩ := hI
    obtain ⟨u185, hI⟩ := hI
    obtain ⟨u186, hI⟩ := hI
    obtain ⟨u187, hI⟩ := hI
    obtain ⟨u188, hI⟩ := hI
    obtain ⟨u189, hI⟩ := hI
    obtain ⟨u190, hI⟩ := hI
    obtain ⟨u191, hI⟩ := hI
    obtain ⟨u192, hI⟩ := hI
    obtain ⟨u193, hI⟩ := hI
    obtain ⟨u194, hI⟩ := hI
    obtain ⟨u195, hI⟩ := hI
    obtain ⟨u196, hI⟩ := hI
    obtain ⟨u197, hI⟩ := hI
    obtain ⟨u198, hI⟩ := hI
    obtain ⟨u199, hI⟩ := hI
    obtain ⟨u200, hI⟩ := hI
    obtain ⟨u201, hI⟩ := hI
    obtain ⟨u202, hI⟩ := hI
    obtain ⟨u203, hI⟩ := hI
    obtain ⟨u204, hI⟩ := hI
    obtain ⟨u205, hI⟩ := hI
    obtain ⟨u206, hI⟩ := hI
    obtain ⟨u207, hI⟩ := hI
    obtain ⟨u208, hI⟩ := hI
    obtain ⟨u209, hI⟩ := hI
    obtain ⟨u210, hI⟩ := hI
    obtain ⟨u211, hI⟩ := hI
    obtain ⟨u212, hI⟩ := hI
    obtain ⟨u213, hI⟩ := hI
    obtain ⟨u214, hI⟩ := hI
    obtain ⟨u215, hI⟩ := hI
    obtain ⟨u216, hI⟩ := hI
    obtain ⟨u217, hI⟩ := hI
    obtain ⟨u218, hI⟩ := hI
    obtain ⟨u219, hI⟩ := hI
    obtain ⟨u220, hI⟩ := hI
    obtain ⟨u221, hI⟩ := hI
    obtain ⟨u222, hI⟩ := hI
    obtain ⟨u223, hI⟩ := hI
    obtain ⟨u224, hI⟩ := hI
    obtain ⟨u225, hI⟩ := hI
    obtain ⟨u226, hI⟩ := hI
    obtain ⟨u227, hI⟩ := hI
    obtain ⟨u228, hI⟩ := hI
    obtain ⟨u229, hI⟩ := hI
    obtain ⟨u230, hI⟩ := hI
    obtain ⟨u231, hI⟩ := hI
    obtain ⟨u232, hI⟩ := hI
    obtain ⟨u233, hI⟩ := hI
    obtain ⟨u234, hI⟩ := hI
    obtain ⟨u235, hI⟩ := hI
    obtain ⟨u236, hI⟩ := hI
    obtain ⟨u237, hI⟩ := hI
    obtain ⟨u238, hI⟩ := hI
    obtain ⟨u239, hI⟩ := hI
    obtain ⟨u240, hI⟩ := hI
    obtain ⟨u241, hI⟩ := hI
    obtain ⟨u242, hI⟩ := hI
    obtain ⟨u243, hI⟩ := hI
    obtain ⟨u244, hI⟩ := hI
    obtain ⟨u245, hI⟩ := hI
    obtain ⟨u246, hI⟩ := hI
    obtain ⟨u247, hI⟩ := hI
    obtain ⟨u248, hI⟩ := hI
    obtain ⟨u249, hI⟩ := hI
    obtain ⟨u250, hI⟩ := hI
    obtain ⟨u251, hI⟩ := hI
    obtain ⟨u252, hI⟩ := hI
    obtain ⟨u253, hI⟩ := hI
    obtain ⟨u254, hI⟩ := hI
    obtain ⟨u255, hI⟩ := hI
    obtain ⟨u256, hI⟩ := hI
    obtain ⟨u257, hI⟩ := hI
    obtain ⟨u258, hI⟩ := hI
    obtain ⟨u259, hI⟩ := hI
    obtain ⟨u260, hI⟩ := hI
    obtain ⟨u261, hI⟩ := hI
    obtain ⟨u262, hI⟩ := hI
    obtain ⟨u263, hI⟩ := hI
    obtain ⟨u264, hI⟩ := hI
    obtain ⟨u265, hI⟩ := hI
    obtain ⟨u266, hI⟩ := hI
    obtain ⟨u267, hI⟩ := hI
    obtain ⟨u268, hI⟩ := hI
    obtain ⟨u269, hI⟩ := hI
    obtain ⟨u270, hI⟩ := hI
    obtain ⟨u271, hI⟩ := hI
    obtain ⟨u272, hI⟩ := hI
    obtain ⟨u273, hI⟩ := hI
    obtain ⟨u274, hI⟩ := hI
    obtain ⟨u275, hI⟩ := hI
    obtain ⟨u276, hI⟩ := hI
    obtain ⟨u277, hI⟩ := hI
    obtain ⟨u278, hI⟩ := hI
    obtain ⟨u279, hI⟩ := hI
    obtain ⟨u280, hI⟩ := hI
    obtain ⟨u281, hI⟩ := hI
    obtain ⟨u282, hI⟩ := hI
    obtain ⟨u283, hI⟩ := hI
    obtain ⟨u284, hI⟩ := hI
    obtain ⟨u285, hI⟩ := hI
    obtain ⟨u286, hI⟩ := hI
    obtain ⟨u287, hI⟩ := hI
    obtain ⟨u288, hI⟩ := hI
    obtain ⟨u289, hI⟩ := hI
    obtain ⟨u290, hI⟩ := hI
    obtain ⟨u291, hI⟩ := hI
    obtain ⟨u292, hI⟩ := hI
    obtain ⟨u293, hI⟩ := hI
    obtain ⟨u294, hI⟩ := hI
    obtain ⟨u295, hI⟩ := hI
    obtain ⟨u296, hI⟩ := hI
    obtain ⟨u297, hI⟩ := hI
    obtain ⟨u298, hI⟩ := hI
    obtain ⟨u299, hI⟩ := hI
    obtain ⟨u300, hI⟩ := hI
    obtain ⟨u301, hI⟩ := hI
    obtain ⟨u302, hI⟩ := hI
    obtain ⟨u303, hI⟩ := hI
    obtain ⟨u304, hI⟩ := hI
    obtain ⟨u305, hI⟩ := hI
    obtain ⟨u306, hI⟩ := hI
    obtain ⟨u307, hI⟩ := hI
    obtain ⟨u308, hI⟩ := hI
    obtain ⟨u309, hI⟩ := hI
    obtain ⟨u310, hI⟩ := hI
    obtain ⟨u311, hI⟩ := hI
    obtain ⟨u312, hI⟩ := hI
    obtain ⟨u313, hI⟩ := hI
    obtain ⟨u314, hI⟩ := hI
    obtain ⟨u315, hI⟩ := hI
    obtain ⟨u316, hI⟩ := hI
    obtain ⟨u317, hI⟩ := hI
    obtain ⟨u318, hI⟩ := hI
    obtain ⟨u319, hI⟩ := hI
    obtain ⟨u320, hI⟩ := hI
    obtain ⟨u321, hI⟩ := hI
    obtain ⟨u322, hI⟩ := hI
    obtain ⟨u323, hI⟩ := hI
    obtain ⟨u324, hI⟩ := hI
    obtain ⟨u325, hI⟩ := hI
    obtain ⟨u326, hI⟩ := hI
    obtain ⟨u327, hI⟩ := hI
    obtain ⟨u328, hI⟩ := hI
    obtain ⟨u329, hI⟩ := hI
    obtain ⟨u330, hI⟩ := hI
    obtain ⟨u331, hI⟩ := hI
    obtain ⟨u332, hI⟩ := hI
    obtain ⟨u333, hI⟩ := hI
    obtain ⟨u334, hI⟩ := hI
    obtain ⟨u335, hI⟩ := hI
    obtain ⟨u336, hI⟩ := hI
    obtain ⟨u337, hI⟩ := hI
    obtain ⟨u338, hI⟩ := hI
    obtain ⟨u339, hI⟩ := hI
    obtain ⟨u340, hI⟩ := hI
    obtain ⟨u341, hI⟩ := hI
    obtain ⟨u342, hI⟩ := hI
    obtain ⟨u343, hI⟩ := hI
    obtain ⟨u344, hI⟩ := hI
    obtain ⟨u345, hI⟩ := hI
    obtain ⟨u346, hI⟩ := hI
    obtain ⟨u347, hI⟩ := hI
    obtain ⟨u348, hI⟩ := hI
    obtain ⟨u349, hI⟩ := hI
    obtain ⟨u350, hI⟩ := hI
    obtain ⟨u351, hI⟩ := hI
    obtain ⟨u352, hI⟩ := hI
    obtain ⟨u353, hI⟩ := hI
    obtain ⟨u354, hI⟩ := hI
    obtain ⟨u355, hI⟩ := hI
    obtain ⟨u356, hI⟩ := hI
    obtain ⟨u357, hI⟩ := hI
    obtain ⟨u358, hI⟩ := hI
    obtain ⟨u359, hI⟩ := hI
    obtain ⟨u360, hI⟩ := hI
    obtain ⟨u361, hI⟩ := hI
    obtain ⟨u362, hI⟩ := hI
    obtain ⟨u363, hI⟩ := hI
    obtain ⟨u364, hI⟩ := hI
    obtain ⟨u365, hI⟩ := hI
    obtain ⟨u366, hI⟩ := hI
    obtain ⟨u367, hI⟩ := hI
    obtain ⟨u368, hI⟩ := hI
    obtain ⟨u369, hI⟩ := hI
    obtain ⟨u370, hI⟩ := hI
    obtain ⟨u371, hI⟩ := hI
    obtain ⟨u372, hI⟩ := hI
    obtain ⟨u373, hI⟩ := hI
    obtain ⟨u374, hI⟩ := hI
    obtain ⟨u375, hI⟩ := hI
    obtain ⟨u376, hI⟩ := hI
    obtain ⟨u377, hI⟩ := hI
    obtain ⟨u378, hI⟩ := hI
    obtain ⟨u379, hI⟩ := hI
    obtain ⟨u380, hI⟩ := hI
    obtain ⟨u381, hI⟩ := hI
    obtain ⟨u382, hI⟩ := hI
    obtain ⟨u383, hI⟩ := hI
    obtain ⟨u384, hI⟩ := hI
    obtain ⟨u385, hI⟩ := hI
    obtain ⟨u386, hI⟩ := hI
    obtain ⟨u387, hI⟩ := hI
    obtain ⟨u388, hI⟩ := hI
    obtain ⟨u389, hI⟩ := hI
    obtain ⟨u390, hI⟩ := hI
    obtain ⟨u391, hI⟩ := hI
    obtain ⟨u392, hI⟩ := hI
    obtain ⟨u393, hI⟩ := hI
    obtain ⟨u394, hI⟩ := hI
    obtain ⟨u395, hI⟩ := hI
    obtain ⟨u396, hI⟩ := hI
    obtain ⟨u397, hI⟩ := hI
    obtain ⟨u398, hI⟩ := hI
    obtain ⟨u399, hI⟩ := hI
    obtain ⟨u400, hI⟩ := hI
    obtain ⟨u401, hI⟩ := hI
    obtain ⟨u402, hI⟩ := hI
    obtain ⟨u403, hI⟩ := hI
    obtain ⟨u404, hI⟩ := hI
    obtain ⟨u405, hI⟩ := hI
    obtain ⟨u406, hI⟩ := hI
    obtain ⟨u407, hI⟩ := hI
    obtain ⟨u408, hI⟩ := hI
    obtain ⟨u409, hI⟩ := hI
    obtain ⟨u410, hI⟩ := hI
    obtain ⟨u411, hI⟩ := hI
    obtain ⟨u412, hI⟩ := hI
    obtain ⟨u413, hI⟩ := hI
    obtain ⟨u414, hI⟩ := hI
    obtain ⟨u415, hI⟩ := hI
    obtain ⟨u416, hI⟩ := hI
    obtain ⟨u417, hI⟩ := hI
    obtain ⟨u418, hI⟩ := hI
    obtain ⟨u419, hI⟩ := hI
    obtain ⟨u420, hI⟩ := hI
    obtain ⟨u421, hI⟩ := hI
    obtain ⟨u422, hI⟩ := hI
    obtain ⟨u423, hI⟩ := hI
    obtain ⟨u424, hI⟩ := hI
    obtain ⟨u425, hI⟩ := hI
    obtain ⟨u426, hI⟩ := hI
    obtain ⟨u427, hI⟩ := hI
    obtain ⟨u428, hI⟩ := hI
    obtain ⟨u429, hI⟩ := hI
    obtain ⟨u430, hI⟩ := hI
    obtain ⟨u431, hI⟩ := hI
    obtain ⟨u432, hI⟩ := hI
    obtain ⟨u433, hI⟩ := hI
    obtain ⟨u434, hI⟩ := hI
    obtain ⟨u435, hI⟩ := hI
    obtain ⟨u436, hI⟩ := hI
    obtain ⟨u437, hI⟩ := hI
    obtain ⟨u438, hI⟩ := hI
    obtain ⟨u439, hI⟩ := hI
    obtain ⟨u440, hI⟩ := hI
    obtain ⟨u441, hI⟩ := hI
    obtain ⟨u442, hI⟩ := hI
    obtain ⟨hrel, hfr⟩ := hI
    subst hfr
    obtain ⟨k, hk, rfl, ⟨sl, rfl⟩, ja2, jn2, jc2, xs, rfl, HU, HP⟩ := hrel
    simp [Umu, intOf] at hmu
    obtain rfl : k = n := by omega
    have c9 := HU.out.cell K9.out HPN.out
    have z9 : wr.frozen? ⟨p, 9, none⟩ = false := (HU.out.chg.frozen (a := ⟨p, 9, none⟩) (by rw [HS2.out]; exact hp) HPN.out).trans KF.out
    go_wp2_with fail
    go_end0
    exact US.finC HU.out HP.out (by omega) HPN.out K9.out KF.out HC0.out HS2.out
  · obtain ⟨w0, hus, hc0, hsz0, hcell, hfroz⟩ := HUS.out _ HC.out
    have K9 := Lib.hid ((hcell 9).trans ((HJ.out 9 (by decide) (by decide)).1.trans ((World.cell?_of_block (a := ⟨p, 9, none⟩) (Below.heap_alloc w _ p hp)).trans H9.out)))
    have K24 := Lib.hid ((hcell 24).trans ((HJ.out 24 (by decide) (by decide)).1.trans ((World.cell?_of_block (a := ⟨p, 24, none⟩) (Below.heap_alloc w _ p hp)).trans H24.out)))
    have K26 := Lib.hid ((hcell 26).trans ((HJ.out 26 (by decide) (by decide)).1.trans ((World.cell?_of_block (a := ⟨p, 26, none⟩) (Below.heap_alloc w _ p hp)).trans H26.out)))
    have K31 := Lib.hid ((hcell 31).trans ((HJ.out 31 (by decide) (by decide)).1.trans ((World.cell?_of_block (a := ⟨p, 31, none⟩) (Below.heap_alloc w _ p hp)).trans H31.out)))
    have KF := Lib.hid ((hfroz 9).trans ((HJ.out 9 (by decide) (by decide)).2.trans ((World.frozen?_of_block (a := ⟨p, 9, none⟩) (Below.heap_alloc w _ p hp)).trans F9.out)))
    have HS2 := Lib.hid hsz0
    have HC0 := Lib.hid hc0
    have HU0 := Lib.hid hus
    have HSL0 : Hid (Fsl w0 a n (fun i => .int .u16 (Z i))) := Lib.hid ⟨HSL.out.1, fun i hi => by
      obtain ⟨b, off, e, hb, hcl⟩ := HSL.out.2 i hi
      exact ⟨b, off, e, by rw [hsz0]; exact hb, hc0.cell hcl (HAP.out (by omega) ⟨b, off, none⟩ e)⟩⟩
    clear hcell hfroz hus hc0 hsz0
    rename_i K1 hK1
    refine loopT w0 B p w.heap.size (.slice ja jn jc) xs0 a n c q fl Z ns ao true _ _ _ _ _ _ _ _ _ _ _ _ _ _ _ _ _ _ _ _ _ _ _ _ _ _ _ _ _ _ _ _ _ _ _ _ _ _ _ _ (by rw [HS2.out]; exact hB) hn hx HZ.out HSL0 HSN.out uf K24.out K31.out HPN.out HH HE _ _ LL K26.out ?_ _ _ _ _ _ _ _ _ _ _ _ _ _ _ _ _ _ _ _ _ _ _ _ _ _ _ _ _ _ _ _ _ _ _ _ _ _ _ _ _ _ _ _ _ _ _ _ _ _ _ _ _ _ _ _ _ _ _ _ _ _ _ _ _ _ _ _ _ _ _ _ _ _ _ _ _ _ _ _ _ _ _ _ _ _ _ _ _ _ _ _ _ _ _ _ _ _ _ _ _ _ _ _ _ _ _ _ _ _ _ _ _ _ _ _ _ _ _ _ _ _ _ _ _ _ _ _ _ _ _ _ _ _ _ _ _ _ _ _ _ _ _ _ _ _ _ _ _ _ _ _ _ _ _ _ _ _ _ _ _ _ _ _ _ _ _ _ _ _ _ _ _ _ _ _ _ _ _ _ _ _ _ _ _ _ _ _ _ _ _ _ _ _ _ _ _ _ _ _ _ _ _ _ _ _ _ _ _ _ _ _ _ _ _ _ _ _ _ _ _ _ _ _ _ _ _ _ _ _ _ _ _ _ _ _ _ _ _ _ _ _ _ _ _ _ _ _ _ _ _ _ _ _ _ _ _ _ _ _ _ _ _ _ _ _ _ _ _ _ _ _ _ _ _ _ _ _ _ _ _ _ _ _ _ _ _ _ _ _ _ _ _ _ _ _ _ _ _ _ _ _ _ _ _ _ _ _ _ _ _ _ _ _ _ _ _ _ _ _ _ _ _ _ _ _ _ _ _ _ _ _ _ _ _ _ _ _ _ _ _ _ _ _ _ _ _ _ _ _ _ _ _ _ _ _ _ _ _ _ _ _ _ _ _ _ _ _ _ _ _ _ _ _ _ _ _ _ _ _ _ _ _ _ _ _ _ _ _ _ _ _ _ _ _ _ _ _ _ _ _ _ ⟨0, Nat.zero_le _, rfl, ⟨_, rfl⟩, _, _, _, _, rfl, HU0, Lib.hid (Pre.start _)⟩
    intro a1 wr hI hmu
    refine hK1 _ _ ?_
    clear hK1
    unfold UJ at hI
    obtain ⟨u9, hI⟩ := hI
    obtain ⟨u10, hI⟩ := hI
    obtain ⟨u12, hI⟩ := hI
    obtain ⟨u14, hI⟩ := hI
    obtain ⟨u15, hI⟩ := hI
    obtain ⟨u16, hI⟩ := hI
    obtain ⟨u17, hI⟩ := hI
    obtain ⟨u18, hI⟩ := hI
    obtain ⟨u19, hI⟩ := hI
    obtain ⟨u20, hI⟩ := hI
    obtain ⟨u21, hI⟩ := hI
    obtain ⟨u22, hI⟩ := hI
    obtain ⟨u23, hI⟩ := hI
    obtain ⟨u56, hI⟩ := hI
    obtain ⟨u57, hI⟩ := hI
    obtain ⟨u58, hI⟩ := hI
    obtain ⟨u59, hI⟩ := hI
    obtain ⟨u60, hI⟩ := hI
    obtain ⟨u61, hI⟩ := hI
    obtain ⟨u62, hI⟩ := hI
    obtain ⟨u63, hI⟩ := hI
    obtain ⟨u64, hI⟩ := hI
    obtain ⟨u65, hI⟩ := hI
    obtain ⟨u66, hI⟩ := hI
    obtain ⟨u67, hI⟩ := hI
    obtain ⟨u68, hI⟩ := hI
    obtain ⟨u69, hI⟩ := hI
    obtain ⟨u70, hI⟩ := hI
    obtain ⟨u71, hI⟩ := hI
    obtain ⟨u72, hI⟩ := hI
    obtain ⟨u73, hI⟩ := hI
    obtain ⟨u74, hI⟩ := hI
    obtain ⟨u75, hI⟩ := hI
    obtain ⟨u76, hI⟩ := hI
    obtain ⟨u77, hI⟩ := hI
    obtain ⟨u78, hI⟩ := hI
    obtain ⟨u79, hI⟩ := hI
    obtain ⟨u80, hI⟩ := hI
    obtain ⟨u81, hI⟩ := hI
    obtain ⟨u82, hI⟩ := hI
    obtain ⟨u83, hI⟩ := hI
    obtain ⟨u84, hI⟩ := hI
    obtain ⟨u85, hI⟩ := hI
    obtain ⟨u86, hI⟩ := hI
    obtain ⟨u87, hI⟩ := hI
    obtain ⟨u88, hI⟩ := hI
    obtain ⟨u89, hI⟩ := hI
    obtain ⟨u90, hI⟩ := hI
    obtain ⟨u91, hI⟩ := hI
    obtain ⟨u92, hI⟩ := hI
    obtain ⟨u93, hI⟩ := hI
    obtain ⟨u94, hI⟩ := hI
    obtain ⟨u95, hI⟩ := hI
    obtain ⟨u96, hI⟩ := hI
    obtain ⟨u97, hI⟩ := hI
    obtain ⟨u98, hI⟩ := hI
    obtain ⟨u99, hI⟩ := hI
    obtain ⟨u100, hI⟩ := hI
    obtain ⟨u101, hI⟩ := hI
    obtain ⟨u102, hI⟩ := hI
    obtain ⟨u103, hI⟩ := hI
    obtain ⟨u104, hI⟩ := hI
    obtain ⟨u105, hI⟩ := hI
    obtain ⟨u106, hI⟩ := hI
    obtain ⟨u107, hI⟩ := hI
    obtain ⟨u108, hI⟩ := hI
    obtain ⟨u109, hI⟩ := hI
    obtain ⟨u110, hI⟩ := hI
    obtain ⟨u111, hI⟩ := hI
    obtain ⟨u112, hI⟩ := hI
    obtain ⟨u113, hI⟩ := hI
    obtain ⟨u114, hI⟩ := hI
    obtain ⟨u115, hI⟩ := hI
    obtain ⟨u116, hI⟩ := hI
    obtain ⟨u117, hI⟩ := hI
    obtain ⟨u118, hI⟩ := hI
    obtain ⟨u119, hI⟩ := hI
    obtain ⟨u120, hI⟩ := hI
    obtain ⟨u121, hI⟩ := hI
    obtain ⟨u122, hI⟩ := hI
    obtain ⟨u123, hI⟩ := hI
    obtain ⟨u124, hI⟩ := hI
    obtain ⟨u125, hI⟩ := hI
    obtain ⟨u126, hI⟩ := hI
    obtain ⟨u127, hI⟩ := hI
    obtain ⟨u128, hI⟩ := hI
    obtain ⟨u129, hI⟩ := hI
    obtain ⟨u130, hI⟩ := hI
    obtain ⟨u131, hI⟩ := hI
    obtain ⟨u132, hI⟩ := hI
    obtain ⟨u133, hI⟩ := hI
    obtain ⟨u134, hI⟩ := hI
    obtain ⟨u135, hI⟩ := hI
    obtain ⟨u136, hI⟩ := hI
    obtain ⟨u137, hI⟩ := hI
    obtain ⟨u138, hI⟩ := hI
    obtain ⟨u139, hI⟩ := hI
    obtain ⟨u140, hI⟩ := hI
    obtain ⟨u141, hI⟩ := hI
    obtain ⟨u142, hI⟩ := hI
    obtain ⟨u143, hI⟩ := hI
    obtain ⟨u144, hI⟩ := hI
    obtain ⟨u145, hI⟩ := hI
    obtain ⟨u146, hI⟩ := hI
    obtain ⟨u147, hI⟩ := hI
    obtain ⟨u148, hI⟩ := hI
    obtain ⟨u149, hI⟩ := hI
    obtain ⟨u150, hI⟩ := hI
    obtain ⟨u151, hI⟩ := hI
    obtain ⟨u152, hI⟩ := hI
    obtain ⟨u153, hI⟩ := hI
    obtain ⟨u154, hI⟩ := hI
    obtain ⟨u155, hI⟩ := hI
    obtain ⟨u156, hI⟩ := hI
    obtain ⟨u157, hI⟩ := hI
    obtain ⟨u158, hI⟩ := hI
    obtain ⟨u159, hI⟩ := hI
    obtain ⟨u160, hI⟩ := hI
    obtain ⟨u161, hI⟩ := hI
    obtain ⟨u162, hI⟩ := hI
    obtain ⟨u163, hI⟩ := hI
    obtain ⟨u164, hI⟩ := hI
    obtain ⟨u165, hI⟩ := hI
    obtain ⟨u166, hI⟩ := hI
    obtain ⟨u167, hI⟩ := hI
    obtain ⟨u168, hI⟩ := hI
    obtain ⟨u169, hI⟩ := hI
    obtain ⟨u170, hI⟩ := hI
    obtain ⟨u171, hI⟩ := hI
    obtain ⟨u172, hI⟩ := hI
    obtain ⟨u173, hI⟩ := hI
    obtain ⟨u174, hI⟩ := hI
    obtain ⟨u175, hI⟩ := hI
    obtain ⟨u176, hI⟩ := hI
    obtain ⟨u177, hI⟩ := hI
    obtain ⟨u178, hI⟩ := hI
    obtain ⟨u179, hI⟩ := hI
    obtain ⟨u180, hI⟩ := hI
    obtain ⟨u181, hI⟩ := hI
    obtain ⟨u182, hI⟩ := hI
    obtain ⟨u183, hI⟩ := hI
    obtain ⟨u184, hI⟩ := hI
    obtain ⟨u185, hI⟩ := hI
    obtain ⟨u186, hI⟩ := hI
    obtain ⟨u187, hI⟩ := hI
    obtain ⟨u188, hI⟩ := hI
    obtain ⟨u189, hI⟩ := hI
    obtain ⟨u190, hI⟩ := hI
    obtain ⟨u191, hI⟩ := hI
    obtain ⟨u192, hI⟩ := hI
    obtain ⟨u193, hI⟩ := hI
    obtain ⟨u194, hI⟩ := hI
    obtain ⟨u195, hI⟩ := hI
    obtain ⟨u196, hI⟩ := hI
    obtain ⟨u197, hI⟩ := hI
    obtain ⟨u198, hI⟩ := hI
    obtain ⟨u199, hI⟩ := hI
    obtain ⟨u200, hI⟩ := hI
    obtain ⟨u201, hI⟩ := hI
    obtain ⟨u202, hI⟩ := hI
    obtain ⟨u203, hI⟩ := hI
    obtain ⟨u204, hI⟩ := hI
    obtain ⟨u205, hI⟩ := hI
    obtain ⟨u206, hI⟩ := hI
    obtain ⟨u207, hI⟩ := hI
    obtain ⟨u208, hI⟩ := hI
    obtain ⟨u209, hI⟩ := hI
    obtain ⟨u210, hI⟩ := hI
    obtain ⟨u211, hI⟩ := hI
    obtain ⟨u212, hI⟩ := hI
    obtain ⟨u213, hI⟩ := hI
    obtain ⟨u214, hI⟩ := hI
    obtain ⟨u215, hI⟩ := hI
    obtain ⟨u216, hI⟩ := hI
    obtain ⟨u217, hI⟩ := hI
    obtain ⟨u218, hI⟩ := hI
    obtain ⟨u219, hI⟩ := hI
    obtain ⟨u220, hI⟩ := hI
    obtain ⟨u221, hI⟩ := hI
    obtain ⟨u222, hI⟩ := hI
    obtain ⟨u223, hI⟩ := hI
    obtain ⟨u224, hI⟩ := hI
    obtain ⟨u225, hI⟩ := hI
    obtain ⟨u226, hI⟩ := hI
    obtain ⟨u227, hI⟩ := hI
    obtain ⟨u228, hI⟩ := hI
    obtain ⟨u229, hI⟩ := hI
    obtain ⟨u230, hI⟩ := hI
    obtain ⟨u231, hI⟩ := hI
    obtain ⟨u232, hI⟩ := hI
    obtain ⟨u233, hI⟩ := hI
    obtain ⟨u234, hI⟩ := hI
    obtain ⟨u235, hI⟩ := hI
    obtain ⟨u236, hI⟩ := hI
    obtain ⟨u237, hI⟩ := hI
    obtain ⟨u238, hI⟩ := hI
    obtain ⟨u239, hI⟩ := hI
    obtain ⟨u240, hI⟩ := hI
    obtain ⟨u241, hI⟩ := hI
    obtain ⟨u242, hI⟩ := hI
    obtain ⟨u243, hI⟩ := hI
    obtain ⟨u244, hI⟩ := hI
    obtain ⟨u245, hI⟩ := hI
    obtain ⟨u246, hI⟩ := hI
    obtain ⟨u247, hI⟩ := hI
    obtain ⟨u248, hI⟩ := hI
    obtain ⟨u249, hI⟩ := hI
    obtain ⟨u250, hI⟩ := hI
    obtain ⟨u251, hI⟩ := hI
    obtain ⟨u252, hI⟩ := hI
    obtain ⟨u253, hI⟩ := hI
    obtain ⟨u254, hI⟩ := hI
    obtain ⟨u255, hI⟩ := hI
    obtain ⟨u256, hI⟩ := hI
    obtain ⟨u257, hI⟩ := hI
    obtain ⟨u258, hI⟩ := hI
    obtain ⟨u259, hI⟩ := hI
    obtain ⟨u260, hI⟩ := hI
    obtain ⟨u261, hI⟩ := hI
    obtain ⟨u262, hI⟩ := hI
    obtain ⟨u263, hI⟩ := hI
    obtain ⟨u264, hI⟩ := hI
    obtain ⟨u265, hI⟩ := hI
    obtain ⟨u266, hI⟩ := hI
    obtain ⟨u267, hI⟩ := hI
    obtain ⟨u268, hI⟩ := hI
    obtain ⟨u269, hI⟩ := hI
    obtain ⟨u270, hI⟩ := hI
    obtain ⟨u271, hI⟩ := hI
    obtain ⟨u272, hI⟩ := hI
    obtain ⟨u273, hI⟩ := hI
    obtain ⟨u274, hI⟩ := hI
    obtain ⟨u275, hI⟩ := hI
    obtain ⟨u276, hI⟩ := hI
    obtain ⟨u277, hI⟩ := hI
    obtain ⟨u278, hI⟩ := hI
    obtain ⟨u279, hI⟩ := hI
    obtain ⟨u280, hI⟩ := hI
    obtain ⟨u281, hI⟩ := hI
    obtain ⟨u282, hI⟩ := hI
    obtain ⟨u283, hI⟩ := hI
    obtain ⟨u284, hI⟩ := hI
    obtain ⟨u285, hI⟩ := hI
    obtain ⟨u286, hI⟩ := hI
    obtain ⟨u287, hI⟩ := hI
    obtain ⟨u288, hI⟩ := hI
    obtain ⟨u289, hI⟩ := hI
    obtain ⟨u290, hI⟩ := hI
    obtain ⟨u291, hI⟩ := hI
    obtain ⟨u292, hI⟩ := hI
    obtain ⟨u293, hI⟩ := hI
    obtain ⟨u294, hI⟩ := hI
    obtain ⟨u295, hI⟩ := hI
    obtain ⟨u296, hI⟩ := hI
    obtain ⟨u297, hI⟩ := hI
    obtain ⟨u298, hI⟩ := hI
    obtain ⟨u299, hI⟩ := hI
    obtain ⟨u300, hI⟩ := hI
    obtain ⟨u301, hI⟩ := hI
    obtain ⟨u302, hI⟩ := hI
    obtain ⟨u303, hI⟩ := hI
    obtain ⟨u304, hI⟩ := hI
    obtain ⟨u305, hI⟩ := hI
    obtain ⟨u306, hI⟩ := hI
    obtain ⟨u307, hI⟩ := hI
    obtain ⟨u308, hI⟩ := hI
    obtain ⟨u309, hI⟩ := hI
    obtain ⟨u310, hI⟩ := hI
    obtain ⟨u311, hI⟩ := hI
    obtain ⟨u312, hI⟩ := hI
    obtain ⟨u313, hI⟩ := hI
    obtain ⟨u314, hI⟩ := hI
    obtain ⟨u315, hI⟩ := hI
    obtain ⟨u316, hI⟩ := hI
    obtain ⟨u317, hI⟩ := hI
    obtain ⟨u318, hI⟩ := hI
    obtain ⟨u319, hI⟩ := hI
    obtain ⟨u320, hI⟩ := hI
    obtain ⟨u321, hI⟩ := hI
    obtain ⟨u322, hI⟩ := hI
    obtain ⟨u323, hI⟩ := hI
    obtain ⟨u324, hI⟩ := hI
    obtain ⟨u325, hI⟩ := hI
    obtain ⟨u326, hI⟩ := hI
    obtain ⟨u327, hI⟩ := hI
    obtain ⟨u328, hI⟩ := hI
    obtain ⟨u329, hI⟩ := hI
    obtain ⟨u330, hI⟩ := hI
    obtain ⟨u331, hI⟩ := hI
    obtain ⟨u332, hI⟩ := hI
    obtain ⟨u333, hI⟩ := hI
    obtain ⟨u334, hI⟩ := hI
    obtain ⟨u335, hI⟩ := hI
    obtain ⟨u336, hI⟩ := hI
    obtain ⟨u337, hI⟩ := hI
    obtain ⟨u338, hI⟩ := hI
    obtain ⟨u339, hI⟩ := hI
    obtain ⟨u340, hI⟩ := hI
    obtain ⟨u341, hI⟩ := hI
    obtain ⟨u342, hI⟩ := hI
    obtain ⟨u343, hI⟩ := hI
    obtain ⟨u344, hI⟩ := hI
    obtain ⟨u345, hI⟩ := hI
    obtain ⟨u346, hI⟩ := hI
    obtain ⟨u347, hI⟩ := hI
    obtain ⟨u348, hI⟩ := hI
    obtain ⟨u349, hI⟩ := hI
    obtain ⟨u350, hI⟩ := hI
    obtain ⟨u351, hI⟩ := hI
    obtain ⟨u352, hI⟩ := hI
    obtain ⟨u353, hI⟩ := hI
    obtain ⟨u354, hI⟩ := hI
    obtain ⟨u355, hI⟩ := hI
    obtain ⟨u356, hI⟩ := hI
    obtain ⟨u357, hI⟩ := hI
    obtain ⟨u358, hI⟩ := hI
    obtain ⟨u359, hI⟩ := hI
    obtain ⟨u360, hI⟩ := hI
    obtain ⟨u361, hI⟩ := hI
    obtain ⟨u362, hI⟩ := hI
    obtain ⟨u363, hI⟩ := hI
    obtain ⟨u364, hI⟩ := hI
    obtain ⟨u365, hI⟩ := hI
    obtain ⟨u366, hI⟩ := hI
    obtain ⟨u367, hI⟩ := hI
    obtain ⟨u368, hI⟩ := hI
    obtain ⟨u369, hI⟩ := hI
    obtain ⟨u370, hI⟩ := hI
    obtain ⟨u371, hI⟩ := hI
    obtain ⟨u372, hI⟩ := hI
    obtain ⟨u373, hI⟩ := hI
    obtain ⟨u374, hI⟩ := hI
    obtain ⟨u375, hI⟩ := hI
    obtain ⟨u376, hI⟩ := hI
    obtain ⟨u377, hI⟩ := hI
    obtain ⟨u378, hI⟩ := hI
    obtain ⟨u379, hI⟩ := hI
    obtain ⟨u380, hI⟩ := hI
    obtain ⟨u381, hI⟩ := hI
    obtain ⟨u382, hI⟩ := hI
    obtain ⟨u383, hI⟩ := hI
    obtain ⟨u384, hI⟩ := hI
    obtain ⟨u385, hI⟩ := hI
    obtain ⟨u386, hI⟩ := hI
    obtain ⟨u387, hI⟩ := hI
    obtain ⟨u388, hI⟩ := hI
    obtain ⟨u389, hI⟩ := hI
    obtain ⟨u390, hI⟩ := hI
    obtain ⟨u391, hI⟩ := hI
    obtain ⟨u392, hI⟩ := hI
    obtain ⟨u393, hI⟩ := hI
    obtain ⟨u394, hI⟩ := hI
    obtain ⟨u395, hI⟩ := hI
    obtain ⟨u396, hI⟩ := hI
    obtain ⟨u397, hI⟩ := hI
    obtain ⟨u398, hI⟩ := hI
    obtain ⟨u399, hI⟩ := hI
    obtain ⟨u400, hI⟩ := hI
    obtain ⟨u401, hI⟩ := hI
    obtain ⟨u402, hI⟩ := hI
    obtain ⟨u403, hI⟩ := hI
    obtain ⟨u404, hI⟩ := hI
    obtain ⟨u405, hI⟩ := hI
    obtain ⟨u406, hI⟩ := hI
    obtain ⟨u407, hI⟩ := hI
    obtain ⟨u408, hI⟩ := hI
    obtain ⟨u409, hI⟩ := hI
    obtain ⟨u410, hI⟩ := hI
    obtain ⟨u411, hI⟩ := hI
    obtain ⟨u412, hI⟩ := hI
    obtain ⟨u413, hI⟩ := hI
    obtain ⟨u414, hI⟩ := hI
    obtain ⟨u415, hI⟩ := hI
    obtain ⟨u416, hI⟩ := hI
    obtain ⟨u417, hI⟩ := hI
    obtain ⟨u418, hI⟩ := hI
    obtain ⟨u419, hI⟩ := hI
    obtain ⟨u420, hI⟩ := hI
    obtain ⟨u421, hI⟩ := hI
    obtain ⟨u422, hI⟩ := hI
    obtain ⟨u423, hI⟩ := hI
    obtain ⟨u424, hI⟩ := hI
    obtain ⟨u425, hI⟩ := hI
    obtain ⟨u426, hI⟩ := hI
    obtain ⟨u427, hI⟩ := hI
    obtain ⟨u428, hI⟩ := hI
    obtain ⟨u429, hI⟩ := hI
    obtain ⟨u430, hI⟩ := hI
    obtain ⟨u431, hI⟩ := hI
    obtain ⟨u432, hI⟩ := hI
    obtain ⟨u433, hI⟩ := hI
    obtain ⟨u434, hI⟩ := hI
    obtain ⟨u435, hI⟩ := hI
    obtain ⟨u436, hI⟩ := hI
    obtain ⟨u437, hI⟩ := hI
    obtain ⟨u438, hI⟩ := hI
    obtain ⟨u439, hI⟩ := hI
    obtain ⟨u440, hI⟩ := hI
    obtain ⟨u441, hI⟩ := hI
    obtain ⟨u442, hI⟩ := hI
    obtain ⟨hrel, hfr⟩ := hI
    subst hfr
    obtain ⟨k, hk, rfl, ⟨sl, rfl⟩, ja2, jn2, jc2, xs, rfl, HU, HP⟩ := hrel
    simp [Umu, intOf] at hmu
    obtain rfl : k = n := by omega
    have c9 := HU.out.cell K9.out HPN.out
    have z9 : wr.frozen? ⟨p, 9, none⟩ = false := (HU.out.chg.frozen (a := ⟨p, 9, none⟩) (by rw [HS2.out]; exact hp) HPN.out).trans KF.out
    go_wp2_with fail
    go_end0
    exact US.finC HU.out HP.out (by omega) HPN.out K9.out KF.out HC0.out HS2.out
end Go.Proofs.YtfhafelkkophgaaFmt.Aux
