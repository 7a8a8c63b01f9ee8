/- Contracts of functions that the law of this seat reaches, and plain facts; no condition. -/
import Derived.Test.YtfjjokophgkifaaProg
import Derived.WalkKit
import Derived.ProofKit
import Derived.OpenShut
import Derived.ShutString
import Derived.Test.YtfjjokophgkifaaAid
import Derived.Test.YtfjjokophgkifaaFl
import Derived.Test.YtfjjokophgkifaaStr
import Derived.Test.YtfjjokophgkifaaPb
import Derived.Test.YtfjjokophgkifaaQd
import Derived.Test.YtfjjokophgkifaaAm
import Derived.Test.YtfjjokophgkifaaMp
import Derived.Test.YtfjjokophgkifaaB
import Derived.Test.YtfjjokophgkifaaAid
import Derived.Maps.RangeRun
import Derived.Carry
import Derived.Laws.IdiomRangeMap
import Derived.ArgAppend
import Derived.Maps.Own
import Derived.WalkSmall
import Derived.WalkSpells
import Derived.Laws.Externs
import Derived.WalkLawsBesides
import Derived.LoopTactic
import Derived.Deep.CutBlock
import Derived.Deep.DeepCutAuto
import Derived.IntWalk
import Derived.Outline
import Derived.Deep.QuietTactic
import Derived.BigQuiet
import Derived.RegionTactic
import Derived.Deep.RegionHeld3
import Derived.Deep.MidRow
import Derived.StillTailTactics
import Derived.BigRegion
import Derived.Laws.OwnMore
import Derived.Laws.Rows
namespace Go.Proofs.Ytfjjokophgkifaa.Aux
open Go.ChangeShapes Go.WideShapes Go.ChangeAt Go.RowKit
open Go.ChangeMaps (open_string shut_string)
set_option linter.unusedVariables false
set_option linter.unusedSimpArgs false
open Fl Str Pb Qd Am Mp PlainAid Aux
open Go.ChangeMaps
theorem infoF : (Try.prog.info? 95).map (fun i => (i.zero, i.size, i.bytes)) = some (some (.agg #[.slice none 0 0, .bool false, .int .u32 0]), 3, 32) := by kernel_rfl
theorem infoP : (Try.prog.info? 96).map (fun i => (i.zero, i.size, i.bytes)) = some (some (.slice none 0 0), 1, 24) := by kernel_rfl
theorem infoI : (Try.prog.info? 98).map (fun i => (i.zero, i.size, i.bytes)) = some (some (.agg #[.bool false, .int .u32 0]), 2, 8) := by kernel_rfl
theorem made_at (w : World) (t : TypeId) (cs : Array Value) (n o : Nat) (ho : o < n) : (w.alloc (.cells (madeCells cs n) t)).cell? ⟨w.heap.size, o, none⟩ = some (cs[o % cs.size]!) := by
  rw [cell_of_row _ _ o _ _ _ (heap_alloc_new _ _)]
  simp [madeCells, ho]
theorem cell_below {w w' : World} {B b o : Nat} {v : Value} (h : w.cell? ⟨b, o, none⟩ = some v) (hb : Below B w w') (hB : b < B) : w'.cell? ⟨b, o, none⟩ = some v := (hb.cell (p := ⟨b, o, none⟩) hB).trans h
/-- Imports in a row of their own. -/
def ImpsC (w : World) (a : Option Addr) (n : Nat) (im : Nat → Imp) : Prop := (a = none ∧ n = 0) ∨ ∃ b, a = some ⟨b, 0, none⟩ ∧ Blk w b 98 (n * 2) ∧ ∀ k, k < n → At w b (k * 2) [.bool (im k).v, .int .u32 (im k).t]
/-- Parts in a row of their own. -/
def PartsC (w : World) (a : Option Addr) (n : Nat) (nk : Nat → Nat) (im : Nat → Nat → Imp) : Prop :=
  (a = none ∧ n = 0) ∨ ∃ b, a = some ⟨b, 0, none⟩ ∧ Blk w b 96 n ∧ ∀ j, j < n → ∃ ia ic, w.cell? ⟨b, j, none⟩ = some (.slice ia (nk j) ic) ∧ ImpsC w ia (nk j) (im j)
theorem ImpsC.in_ {w : World} {a : Option Addr} {n : Nat} {im : Nat → Imp} (h : ImpsC w a n im) : ImpsIn w a n im := by
  rcases h with ⟨rfl, rfl⟩ | ⟨b, rfl, _, h2⟩
  · exact ⟨fun _ => rfl, fun k hk => absurd hk (Nat.not_lt_zero _)⟩
  · exact ⟨(fun e => by cases e), fun k hk => ⟨b, 0, rfl, by rw [Nat.zero_add]; exact h2 k hk⟩⟩
theorem PartsC.in_ {w : World} {a : Option Addr} {n : Nat} {nk : Nat → Nat} {im : Nat → Nat → Imp} (h : PartsC w a n nk im) : PartsIn w a n nk im := by
  rcases h with ⟨rfl, rfl⟩ | ⟨b, rfl, _, h2⟩
  · exact ⟨fun _ => rfl, fun k hk => absurd hk (Nat.not_lt_zero _)⟩
  · refine ⟨(fun e => by cases e), fun j hj => ?_⟩
    obtain ⟨ia, ic, h3, h4⟩ := h2 j hj
    exact ⟨b, 0, ia, ic, rfl, by rw [Nat.zero_add]; exact h3, h4.in_⟩
theorem ImpsC.chg {S : Nat → Prop} {w w' : World} {t : TypeId} {a : Option Addr} {n : Nat} {im : Nat → Imp} (h : ImpsC w a n im) (hc : Chg S w w') (hs : Sep S w t) (ht : 98 ≠ t) : ImpsC w' a n im := by
  rcases h with h | ⟨b, e, h1, h2⟩
  · exact .inl h
  · obtain ⟨q1, q2⟩ := blk_chg hc hs h1 ht
    exact .inr ⟨b, e, q1, fun k hk => at_heap (h2 k hk) q2⟩
theorem PartsC.chg {S : Nat → Prop} {w w' : World} {t : TypeId} {a : Option Addr} {n : Nat} {nk : Nat → Nat} {im : Nat → Nat → Imp} (h : PartsC w a n nk im) (hc : Chg S w w') (hs : Sep S w t) (ht : 98 ≠ t) (ht2 : 96 ≠ t) : PartsC w' a n nk im := by
  rcases h with h | ⟨b, e, h1, h2⟩
  · exact .inl h
  · obtain ⟨q1, q2⟩ := blk_chg hc hs h1 ht2
    refine .inr ⟨b, e, q1, fun j hj => ?_⟩
    obtain ⟨ia, ic, h3, h4⟩ := h2 j hj
    exact ⟨ia, ic, (World.cell?_of_block (a := ⟨b, j, none⟩) q2).trans h3, h4.chg hc hs ht⟩
theorem chg_set {w : World} {b o n : Nat} {t : TypeId} (v : Value) : Chg (fun k => k = b) w (w.setCell ⟨b, o, none⟩ v) := Chg.setCell (S := fun k => k = b) (p := ⟨b, o, none⟩) (Chg.refl _ _) (.inl rfl) _
theorem sep_blk {w : World} {b n : Nat} {t : TypeId} (h : Blk w b t n) : Sep (fun k => k = b) w t := fun k e => by
  subst e
  obtain ⟨cur, h1, _⟩ := h
  exact ⟨cur, h1⟩
/-- While a part's imports are cloned. -/
structure CI (w0 : World) (b n : Nat) (im : Nat → Imp) (k : Nat) (w : World) : Prop where
  bl : Below b w0 w
  bk : Blk w b 98 (n * 2)
  at_ : ∀ i, i < k → At w b (i * 2) [.bool (im i).v, .int .u32 (im i).t]
theorem CI.step {w0 w : World} {b n k : Nat} {im : Nat → Imp} (h : CI w0 b n im k w) (hk : k < n) : CI w0 b n im (k + 1) (putL w b (k * 2) [.bool (im k).v, .int .u32 (im k).t]) := by
  obtain ⟨h1, h2, h3⟩ := h
  have hp := put_at [.bool (im k).v, .int .u32 (im k).t] w (k * 2) h2 (by simp; omega)
  refine ⟨put_below _ _ _ h1 (Nat.le_refl _), hp.2, fun i hi => ?_⟩
  by_cases e : i = k
  · subst e; exact hp.1
  · exact at_put (h3 i (by omega)) (.inr (.inl (by simp; omega)))
theorem CI.fin {w0 w : World} {b n : Nat} {im : Nat → Imp} (h : CI w0 b n im n w) : ImpsC w (some ⟨b, 0, none⟩) n im := .inr ⟨b, rfl, h.bk, h.at_⟩
/-- While a file's parts are cloned. -/
structure CP (w0 : World) (b n : Nat) (nk : Nat → Nat) (im : Nat → Nat → Imp) (j : Nat) (w : World) : Prop where
  bl : Below b w0 w
  bk : Blk w b 96 n
  at_ : ∀ i, i < j → ∃ ia ic, w.cell? ⟨b, i, none⟩ = some (.slice ia (nk i) ic) ∧ ImpsC w ia (nk i) (im i)
  z : ∀ i, j ≤ i → i < n → w.cell? ⟨b, i, none⟩ = some (.slice none 0 0)
theorem CP.skip {w0 w : World} {b n j : Nat} {nk : Nat → Nat} {im : Nat → Nat → Imp} (h : CP w0 b n nk im j w) (hj : j < n) (h0 : nk j = 0) : CP w0 b n nk im (j + 1) w := by
  refine ⟨h.bl, h.bk, fun i hi => ?_, fun i h1 h2 => h.z i (by omega) h2⟩
  by_cases e : i = j
  · subst e
    exact ⟨none, 0, by rw [h0]; exact h.z i (Nat.le_refl _) hj, .inl ⟨rfl, h0⟩⟩
  · exact h.at_ i (by omega)
theorem CP.step {w0 w W : World} {b n j : Nat} {nk : Nat → Nat} {im : Nat → Nat → Imp} (h : CP w0 b n nk im j w) (hj : j < n) (hb : Below w.heap.size w W) {ia : Option Addr} {ic : Nat} (hI : ImpsC W ia (nk j) (im j)) : CP w0 b n nk im (j + 1) (W.setCell ⟨b, j, none⟩ (.slice ia (nk j) ic)) := by
  have hlt := blk_lt h.bk
  have hbk := blk_below h.bk hb hlt
  have hc : Chg (fun k => k = b) W (W.setCell ⟨b, j, none⟩ (.slice ia (nk j) ic)) := chg_set (n := n) (t := 0) _
  refine ⟨(h.bl.trans (hb.mono (Nat.le_of_lt hlt))).setCell (Nat.le_refl _) _, hbk.set j _, fun i hi => ?_, fun i h1 h2 => ?_⟩
  · by_cases e : i = j
    · subst e
      exact ⟨ia, ic, hbk.cell_set hj _, hI.chg hc (sep_blk hbk) (by decide)⟩
    · obtain ⟨ia', ic', q1, q2⟩ := h.at_ i (by omega)
      refine ⟨ia', ic', ?_, (q2.chg (chg_none hb) (sep_none (t := 0)) (by decide)).chg hc (sep_blk hbk) (by decide)⟩
      rw [World.cell?_setCell_other W ⟨b, j, none⟩ _ _ (fun e' => by injection e' with _ e'; omega)]
      exact cell_below q1 hb hlt
  · rw [World.cell?_setCell_other W ⟨b, j, none⟩ _ _ (fun e' => by injection e' with _ e'; omega)]
    exact cell_below (h.z i (by omega) h2) hb hlt
theorem CP.fin {w0 w : World} {b n : Nat} {nk : Nat → Nat} {im : Nat → Nat → Imp} (h : CP w0 b n nk im n w) : PartsC w (some ⟨b, 0, none⟩) n nk im := .inr ⟨b, rfl, h.bk, h.at_⟩
/-- While the files are cloned. -/
structure CF (w : World) (n : Nat) (F : Nat → FD) (i : Nat) (wr : World) : Prop where
  bl : Below w.heap.size w wr
  bk : Blk wr w.heap.size 95 (n * 3)
  at_ : ∀ k, k < i → ∃ pa pc, At wr w.heap.size (k * 3) (fcell (F k) pa pc) ∧ PartsC wr pa (F k).np (F k).nk (F k).im
  z : ∀ k, i ≤ k → k < n → wr.cell? ⟨w.heap.size, k * 3, none⟩ = some (.slice none 0 0)
/-- Flag and number stored. -/
def stw (wr : World) (b i : Nat) (f : FD) : World := putL wr b (i * 3 + 1) [.bool f.has, .int .u32 f.css]
theorem CF.pre {w wr : World} {n i : Nat} {F : Nat → FD} (h : CF w n F i wr) (hi : i < n) : Below w.heap.size w (stw wr w.heap.size i (F i)) ∧ Blk (stw wr w.heap.size i (F i)) w.heap.size 95 (n * 3) ∧ At (stw wr w.heap.size i (F i)) w.heap.size (i * 3 + 1) [.bool (F i).has, .int .u32 (F i).css] ∧
    (∀ k, k < i → ∃ pa pc, At (stw wr w.heap.size i (F i)) w.heap.size (k * 3) (fcell (F k) pa pc) ∧ PartsC (stw wr w.heap.size i (F i)) pa (F k).np (F k).nk (F k).im) ∧
    ∀ k, i ≤ k → k < n → (stw wr w.heap.size i (F i)).cell? ⟨w.heap.size, k * 3, none⟩ = some (.slice none 0 0) := by
  have hp := put_at [.bool (F i).has, .int .u32 (F i).css] wr (i * 3 + 1) h.bk (by simp; omega)
  have hc : Chg (fun k => k = w.heap.size) wr (stw wr w.heap.size i (F i)) := Chg.setCell (S := fun k => k = w.heap.size) (p := ⟨w.heap.size, i * 3 + 1 + 1, none⟩) (Chg.setCell (S := fun k => k = w.heap.size) (p := ⟨w.heap.size, i * 3 + 1, none⟩) (Chg.refl _ _) (.inl rfl) _) (.inl rfl) _
  refine ⟨put_below _ _ _ h.bl (Nat.le_refl _), hp.2, hp.1, fun k hk => ?_, fun k h1 h2 => ?_⟩
  · obtain ⟨pa, pc, q1, q2⟩ := h.at_ k hk
    exact ⟨pa, pc, at_put q1 (.inr (.inl (by simp [fcell]; omega))), q2.chg hc (sep_blk h.bk) (by decide) (by decide)⟩
  · have := put_other (b := w.heap.size) (p := ⟨w.heap.size, k * 3, none⟩) [.bool (F i).has, .int .u32 (F i).css] wr (i * 3 + 1) (by simp; omega)
    exact this.trans (h.z k h1 h2)
theorem CF.skip {w wr : World} {n i : Nat} {F : Nat → FD} (h : CF w n F i wr) (hi : i < n) (h0 : (F i).np = 0) : CF w n F (i + 1) (stw wr w.heap.size i (F i)) := by
  obtain ⟨h1, h2, h3, h4, h5⟩ := h.pre hi
  refine ⟨h1, h2, fun k hk => ?_, fun k a b => h5 k (by omega) b⟩
  by_cases e : k = i
  · subst e
    refine ⟨none, 0, fun j v hj => ?_, .inl ⟨rfl, h0⟩⟩
    rcases j with _ | _ | _ | j
    · simp [fcell] at hj
      subst hj
      rw [h0]
      exact h5 k (Nat.le_refl _) hi
    · exact h3 0 v (by simpa [fcell] using hj)
    · exact h3 1 v (by simpa [fcell] using hj)
    · simp [fcell] at hj
  · exact h4 k (by omega)
theorem CF.step {w wr W : World} {n i : Nat} {F : Nat → FD} (h : CF w n F i wr) (hi : i < n) (hb : Below (stw wr w.heap.size i (F i)).heap.size (stw wr w.heap.size i (F i)) W) {pa : Option Addr} {pc : Nat} (hP : PartsC W pa (F i).np (F i).nk (F i).im) :
    CF w n F (i + 1) (W.setCell ⟨w.heap.size, i * 3, none⟩ (.slice pa (F i).np pc)) := by
  obtain ⟨h1, h2, h3, h4, h5⟩ := h.pre hi
  have hlt := blk_lt h2
  have hbk := blk_below h2 hb hlt
  have hc : Chg (fun k => k = w.heap.size) W (W.setCell ⟨w.heap.size, i * 3, none⟩ (.slice pa (F i).np pc)) := chg_set (n := n) (t := 0) _
  refine ⟨(h1.trans (hb.mono h1.size)).setCell (Nat.le_refl _) _, hbk.set _ _, fun k hk => ?_, fun k a b => ?_⟩
  · by_cases e : k = i
    · subst e
      refine ⟨pa, pc, fun j v hj => ?_, hP.chg hc (sep_blk hbk) (by decide) (by decide)⟩
      have other : ∀ v, (stw wr w.heap.size k (F k)).cell? ⟨w.heap.size, k * 3 + 1, none⟩ = some v ∨ True := fun _ => .inr trivial
      rcases j with _ | _ | _ | j
      · simp [fcell] at hj
        subst hj
        exact hbk.cell_set (by omega) _
      · have := at_put (b2 := w.heap.size) (o2 := k * 3) (vs := [.slice pa (F k).np pc]) (h3.below hlt hb) (.inr (.inr (by simp)))
        exact this 0 v (by simpa [fcell] using hj)
      · have := at_put (b2 := w.heap.size) (o2 := k * 3) (vs := [.slice pa (F k).np pc]) (h3.below hlt hb) (.inr (.inr (by simp)))
        exact this 1 v (by simpa [fcell] using hj)
      · simp [fcell] at hj
    · obtain ⟨pa', pc', q1, q2⟩ := h4 k (by omega)
      have := at_put (b2 := w.heap.size) (o2 := i * 3) (vs := [.slice pa (F i).np pc]) (q1.below hlt hb) (.inr (.inl (by simp [fcell]; omega)))
      exact ⟨pa', pc', this, (q2.chg (chg_none hb) (sep_none (t := 0)) (by decide) (by decide)).chg hc (sep_blk hbk) (by decide) (by decide)⟩
  · rw [World.cell?_setCell_other W ⟨w.heap.size, i * 3, none⟩ _ _ (fun e' => by injection e' with _ e'; omega)]
    exact cell_below (h5 k (by omega) b) hb hlt
theorem CF.fin {w wr : World} {n : Nat} {F : Nat → FD} (h : CF w n F n wr) : FilesIn wr (some ⟨w.heap.size, 0, none⟩) n F :=
  ⟨(fun e => by cases e), fun i hi => by
    obtain ⟨pa, pc, h1, h2⟩ := h.at_ i hi
    exact ⟨_, 0, pa, pc, rfl, by rw [Nat.zero_add]; exact h1, h2.in_⟩⟩
def Jc (n : Nat) (F : Nat → FD) (w : World) (e : Ending) (w' : World) : Prop := ∃ a', e = .returned (.slice a' n n) ∧ Hid (FilesIn w' a' n F) ∧ Hid (Below w.heap.size w w')
theorem clone_nil (cap : Nat) (F : Nat → FD) (w : World) : Calls Try.prog 7 #[.slice none 0 cap] w (Jc 0 F w) := by
  have hnil : ∀ w : World, (binOp .eql 22 (.slice none 0 cap) (.slice none 0 0)).run Try.prog w = .ok (.bool true) w := fun w => Lib.run_eql_slice_nil w 22 95 _ _ _ _ _ Try.underlying22
  go_enter Try.func7, Try.ntmps7
  go_wp2_with fail
  go_ret
  exact ⟨none, rfl, Lib.hid ⟨fun _ => rfl, fun i hi => absurd hi (Nat.not_lt_zero _)⟩, Lib.hid (Below.refl _ _)⟩
set_option maxRecDepth 100000 in
set_option maxHeartbeats 40000000 in
theorem clone_zero (x : Addr) (cap : Nat) (F : Nat → FD) (w : World) : Calls Try.prog 7 #[.slice (some x) 0 cap] w (Jc 0 F w) := by
  obtain ⟨cs, hcs⟩ : ∃ cs, (Value.agg #[.slice none 0 0, .bool false, .int .u32 0]).cells = cs := ⟨_, rfl⟩
  have hmk : ∀ w : World, (Instr.makeSlice 22 (.int .i64 0) (.int .i64 0)).run Try.prog w = .ok (.slice (some ⟨w.heap.size, 0, none⟩) 0 0) (w.alloc (.cells (madeCells cs (0 * 3)) 95)) := fun w => run_make_many (P := Try.prog) Try.underlying22 infoF hcs (by omega) 0 (by omega) w
  clear hcs
  have hnil : ∀ w : World, (binOp .eql 22 (.slice (some x) 0 cap) (.slice none 0 0)).run Try.prog w = .ok (.bool false) w := fun w => Lib.run_eql_slice_nil w 22 95 _ _ _ _ _ Try.underlying22
  go_enter Try.func7, Try.ntmps7
  go_wp2_with fail
  go_loopw [4] (fun s4 wr => s4 = .int .i64 0 ∧ Hid (Below w.heap.size w wr)) (fun _ _ => 0)
  case atStart => exact ⟨rfl, Lib.hid ((Below.refl _ _).alloc (Nat.le_refl _) _)⟩
  case round =>
    obtain ⟨rfl, HB⟩ := hrel
    go_wp2_with fail
    go_ret
    exact ⟨_, rfl, Lib.hid ⟨fun _ => rfl, fun i hi => absurd hi (Nat.not_lt_zero _)⟩, HB⟩
set_option maxRecDepth 100000 in
set_option maxHeartbeats 40000000 in
theorem clone7 (a : Option Addr) (n cap : Nat) (F : Nat → FD) (w : World) (h : FilesIn w a n F) (hfb : FB n F) : Calls Try.prog 7 #[.slice a n cap] w (Jc n F w) := by
  have hn20 : n ≤ 1048576 := hfb.1
  cases a with
  | none =>
    obtain rfl := h.1 rfl
    exact clone_nil cap F w
  | some x =>
    rcases Nat.eq_zero_or_pos n with h0 | hpos
    · subst h0
      exact clone_zero x cap F w
    · obtain ⟨b, o, e, hb, hA⟩ := h.block hpos
      injection e with e
      subst e
      have HA := Lib.hid hA
      have HFB := Lib.hid hfb.2
      clear hA h hfb
      obtain ⟨cs, hcs⟩ : ∃ cs, (Value.agg #[.slice none 0 0, .bool false, .int .u32 0]).cells = cs := ⟨_, rfl⟩
      have hmk := run_make_many (P := Try.prog) Try.underlying22 infoF hcs (by omega) n (by omega)
      have HZ : Hid (∀ w : World, ∀ k, k < n → (w.alloc (.cells (madeCells cs (n * 3)) 95)).cell? ⟨w.heap.size, k * 3, none⟩ = some (.slice none 0 0)) := Lib.hid fun w k hk => by
        rw [made_at _ _ _ _ _ (by omega)]
        rw [← hcs]
        show some (#[Value.slice none 0 0, .bool false, .int .u32 0][k * 3 % 3]!) = _
        rw [Nat.mul_mod_left]; rfl
      clear hcs
      have hnil : ∀ w : World, (binOp .eql 22 (.slice (some ⟨b, o, none⟩) n cap) (.slice none 0 0)).run Try.prog w = .ok (.bool false) w := fun w => Lib.run_eql_slice_nil w 22 95 _ _ _ _ _ Try.underlying22
      go_enter Try.func7, Try.ntmps7
      go_wp2_with fail
      go_loopw [4] (fun s4 wr => ∃ i : Nat, i ≤ n ∧ s4 = .int .i64 i ∧ Hid (CF w n F i wr)) (fun s4 _ => n - (intOf s4).toNat)
      case atStart => exact ⟨0, by omega, rfl, Lib.hid ⟨(Below.refl _ _).alloc (Nat.le_refl _) _, blk_made _ _ _ _, (fun k hk => absurd hk (Nat.not_lt_zero _)), fun k _ hk => HZ.out w k hk⟩⟩
      case round =>
        obtain ⟨i, hi, rfl, HC⟩ := hrel
        clear hmk HZ
        by_cases hlt : i < n
        · have hiz : (i : Int) < (n : Int) := by omega
          obtain ⟨pa, pc, hAt, hP⟩ := HA.out i hlt
          have hfb := HFB.out i hlt
          obtain ⟨wo, hwo⟩ : ∃ wo, wo = wr := ⟨_, rfl⟩
          rw [← hwo] at HC ⊢
          clear hwo
          obtain ⟨f, hf⟩ : ∃ f, F i = f := ⟨_, rfl⟩
          have hpre := HC.out.pre hlt
          rw [hf] at hAt hP hfb hpre
          obtain ⟨np, nk, im, has, css⟩ := f
          have hAo := hAt.below hb HC.out.bl
          have c0 := hAo 0 _ rfl
          rw [Nat.add_zero] at c0
          have c1 := hAo 1 _ rfl
          have c2 := hAo 2 _ rfl
          have HP := Lib.hid hP
          have HF := Lib.hid hf
          have hnp : np ≤ 1048576 := hfb.1
          have HPS : Hid (psum nk np ≤ 1048576) := Lib.hid hfb.2
          have hbk := HC.out.bk
          obtain ⟨u1, e1⟩ := blk_ex hbk (o := i * 3 + 1) (by omega)
          obtain ⟨u2, e2⟩ := blk_ex hbk (o := i * 3 + 2) (by omega)
          have f1 := blk_fz hbk (i * 3 + 1)
          have f2 := blk_fz hbk (i * 3 + 2)
          have hob := blk_lt hbk
          have hne : b ≠ w.heap.size := Nat.ne_of_lt hb
          have HPRE := Lib.hid hpre
          clear hAt hAo hP hf hfb hbk hpre
          cases pa with
          | none =>
            obtain rfl : np = 0 := HP.out.1 rfl
            have hn2 : ∀ w : World, (binOp .eql 93 (.slice none 0 pc) (.slice none 0 0)).run Try.prog w = .ok (.bool true) w := fun w => Lib.run_eql_slice_nil w 93 96 _ _ _ _ _ Try.underlying93
            go_wp2_with fail
            go_roundw
            case rel =>
              have hst := HC.out.skip hlt (by rw [HF.out])
              rw [HF.out] at hst
              exact ⟨i + 1, by omega, by go_num, Lib.hid hst⟩
            case measure => simp [intOf]; omega
          | some y =>
            have hn2 : ∀ w : World, (binOp .eql 93 (.slice (some y) np pc) (.slice none 0 0)).run Try.prog w = .ok (.bool false) w := fun w => Lib.run_eql_slice_nil w 93 96 _ _ _ _ _ Try.underlying93
            have hmk2 := run_make_one (P := Try.prog) Try.underlying93 infoP rfl (by omega) np (by omega)
            have hsz : ∀ (f : FD), (stw wo w.heap.size i f).heap.size = wo.heap.size := fun f => put_size _ _ _
            go_wp2_with fail
            obtain ⟨W0, hW0⟩ : ∃ W0, stw wo w.heap.size i ⟨np, nk, im, has, css⟩ = W0 := ⟨_, rfl⟩
            have hsz0 := hsz ⟨np, nk, im, has, css⟩
            change Code.wp _ _ _ _ ((stw wo w.heap.size i ⟨np, nk, im, has, css⟩).alloc (.cells (madeCells #[.slice none 0 0] np) 96))
            rw [hW0] at hsz0 HPRE ⊢
            obtain ⟨hp1, hp2, hp3, _, _⟩ := HPRE.out
            have HPB := Lib.hid hp1
            have hobl := blk_lt hp2
            have HF0 := Lib.hid hp2
            have HW0 := Lib.hid hW0
            clear hW0 hsz hmk2 hp1 hp2 hp3 HPRE
            rw [← hsz0]
            clear hsz0
            go_loopw [7] (fun s7 w2 => ∃ j : Nat, j ≤ np ∧ s7 = .int .i64 j ∧ Hid (CP W0 W0.heap.size np nk im j w2)) (fun s7 _ => np - (intOf s7).toNat)
            case atStart => exact ⟨0, by omega, rfl, Lib.hid ⟨(Below.refl _ _).alloc (Nat.le_refl _) _, blk_made _ _ _ _, (fun k hk => absurd hk (Nat.not_lt_zero _)), fun k _ hk => by
              rw [made_at _ _ _ _ _ hk]
              show some (#[Value.slice none 0 0][k % 1]!) = _
              rw [Nat.mod_one]; rfl⟩⟩
            case round =>
              obtain ⟨j, hj, rfl, HJ⟩ := hrel
              obtain ⟨w2, hw2⟩ : ∃ w2, w2 = wr := ⟨_, rfl⟩
              rw [← hw2] at HJ ⊢
              clear hw2
              have HB2 := Lib.hid (HPB.out.trans (HJ.out.bl.mono HPB.out.size))
              by_cases hjl : j < np
              · have hjz : (j : Int) < (np : Int) := by omega
                obtain ⟨b2, o2, hy, hb2, hI⟩ := HP.out.block (by omega)
                injection hy with hy
                subst hy
                obtain ⟨ia, ic, d00, hIm⟩ := hI j hjl
                have HIm := Lib.hid hIm
                have D0 := Lib.hid d00
                have d0 := cell_below d00 HB2.out hb2
                have hnk := Nat.le_trans (psum_le nk hjl) HPS.out
                obtain ⟨nkj, hnkj⟩ : ∃ m, nk j = m := ⟨_, rfl⟩
                rw [hnkj] at d0 hnk HIm D0
                have HNK := Lib.hid hnkj
                clear hI hIm d00 hnkj
                cases ia with
                | none =>
                  have h0 := HIm.out.1 rfl
                  subst h0
                  have hn3 : ∀ w : World, (binOp .eql 96 (.slice none 0 ic) (.slice none 0 0)).run Try.prog w = .ok (.bool true) w := fun w => Lib.run_eql_slice_nil w 96 98 _ _ _ _ _ Try.underlying96
                  go_wp2_with fail
                  go_roundw
                  case rel => exact ⟨j + 1, by omega, by go_num, Lib.hid (HJ.out.skip hjl HNK.out)⟩
                  case measure => simp [intOf]; omega
                | some z =>
                  have hn3 : ∀ w : World, (binOp .eql 96 (.slice (some z) nkj ic) (.slice none 0 0)).run Try.prog w = .ok (.bool false) w := fun w => Lib.run_eql_slice_nil w 96 98 _ _ _ _ _ Try.underlying96
                  obtain ⟨cs3, hcs3⟩ : ∃ cs, (Value.agg #[.bool false, .int .u32 0]).cells = cs := ⟨_, rfl⟩
                  have hmk3 := run_make_many (P := Try.prog) Try.underlying96 infoI hcs3 (by omega) nkj (by omega)
                  clear hcs3
                  go_wp2_with fail
                  go_loopw [9] (fun s9 w3 => ∃ k : Nat, k ≤ nkj ∧ s9 = .int .i64 k ∧ Hid (CI w2 w2.heap.size nkj (im j) k w3)) (fun s9 _ => nkj - (intOf s9).toNat)
                  case atStart => exact ⟨0, by omega, rfl, Lib.hid ⟨(Below.refl _ _).alloc (Nat.le_refl _) _, blk_made _ _ _ _, fun k hk => absurd hk (Nat.not_lt_zero _)⟩⟩
                  case round =>
                    obtain ⟨k, hk, rfl, HK⟩ := hrel
                    have HB3 := Lib.hid (HB2.out.trans (HK.out.bl.mono HB2.out.size))
                    clear d0
                    have d0 := cell_below D0.out HB3.out hb2
                    by_cases hkl : k < nkj
                    · have hkz : (k : Int) < (nkj : Int) := by omega
                      obtain ⟨b3, o3, hz, hb3, hA3⟩ := HIm.out.block (by omega)
                      injection hz with hz
                      subst hz
                      have hAk := (hA3 k hkl).below hb3 HB3.out
                      have e0 := hAk 0 _ rfl
                      rw [Nat.add_zero] at e0
                      have e1 := hAk 1 _ rfl
                      obtain ⟨u0, g0⟩ := blk_ex HK.out.bk (o := k * 2) (by omega)
                      obtain ⟨u1, g1⟩ := blk_ex HK.out.bk (o := k * 2 + 1) (by omega)
                      have z0 := blk_fz HK.out.bk (k * 2)
                      have z1 := blk_fz HK.out.bk (k * 2 + 1)
                      have hnb := blk_lt HK.out.bk
                      clear hA3 hAk
                      go_wp2_with fail
                      go_roundw
                      case rel => exact ⟨k + 1, by omega, by go_num, Lib.hid (HK.out.step hkl)⟩
                      case measure => simp [intOf]; omega
                    · have hkz : ¬ (k : Int) < (nkj : Int) := by omega
                      have hke : k = nkj := by omega
                      have HK2 : Hid (CI w2 w2.heap.size nkj (im j) nkj wr) := by rw [hke] at HK; exact HK
                      have hpl := blk_lt HJ.out.bk
                      have hbk := blk_below HJ.out.bk HK2.out.bl hpl
                      obtain ⟨u0, g0⟩ := blk_ex hbk (o := j) hjl
                      have z0 := blk_fz hbk j
                      have hpb := blk_lt hbk
                      clear hbk
                      go_wp2_with fail
                      go_roundw
                      case rel =>
                        have hst := HJ.out.step (ia := some ⟨w2.heap.size, 0, none⟩) (ic := nkj) hjl HK2.out.bl (by rw [HNK.out]; exact HK2.out.fin)
                        rw [HNK.out] at hst
                        exact ⟨j + 1, by omega, by go_num, Lib.hid hst⟩
                      case measure => simp [intOf]; omega
              · have hjz : ¬ (j : Int) < (np : Int) := by omega
                have hje : j = np := by omega
                have HJ2 : Hid (CP W0 W0.heap.size np nk im np w2) := by rw [hje] at HJ; exact HJ
                have hbk := blk_below HF0.out HJ2.out.bl hobl
                obtain ⟨u0, g0⟩ := blk_ex hbk (o := i * 3) (by omega)
                have z0 := blk_fz hbk (i * 3)
                have hpb := blk_lt hbk
                clear hbk
                go_wp2_with fail
                go_roundw
                case rel =>
                  have hst := HC.out.step (W := w2) (pa := some ⟨W0.heap.size, 0, none⟩) (pc := np) hlt (by rw [HF.out, HW0.out]; exact HJ2.out.bl) (by rw [HF.out]; exact HJ2.out.fin)
                  rw [HF.out] at hst
                  exact ⟨i + 1, by omega, by go_num, Lib.hid hst⟩
                case measure => simp [intOf]; omega
        · have hiz : ¬ (i : Int) < (n : Int) := by omega
          obtain rfl : i = n := by omega
          go_wp2_with fail
          go_ret
          exact ⟨_, rfl, Lib.hid HC.out.fin, Lib.hid HC.out.bl⟩
end Go.Proofs.Ytfjjokophgkifaa.Aux
