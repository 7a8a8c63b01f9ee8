/- Every symbol on an alias chain has one mangled property name, again and again. The variable InvalidRef holds what the program's text lays. -/
import Derived.Test.YtholgianfiolnaaDoorRows
import Derived.Test.YtholgianfiolnaaDoorCards
import Derived.Test.YtholgianfiolnaaDoorTie
import Derived.WalkKit
import Derived.ProofKit
import Derived.LaidMore
import Derived.Lay
import Derived.OpenShut
import Derived.ShutString
import Derived.Stop.Joined
import Derived.SevenTiedAt
import Derived.Lib.LaidU8
import Derived.Carry
import Derived.Lib.Hide
import Derived.Test.YtholgianfiolnaaDoorAid
import Derived.Test.YtholgianfiolnaaDoorFl
import Derived.Test.YtholgianfiolnaaDoorPb
import Derived.Test.YtholgianfiolnaaDoorQd
import Derived.Test.YtholgianfiolnaaDoorLk
import Derived.Test.YtholgianfiolnaaDoorMp
import Derived.DeepKeys4
import Derived.WalkSpells
import Derived.LoopTactic
import Derived.IntWalk
import Derived.Outline
import Derived.Deep.QuietTactic
import Derived.BigQuiet
import Derived.Deep.RegionHeld3
import Derived.StillTailTactics
import Derived.LaidEqlPtr
import Derived.Laws.StructEq
namespace Go.Proofs.YtholgianfiolnaaDoor.fnMangledPropNameStableAlongAliasChain
open Go.ChangeShapes Go.WideShapes Go.ChangeAt Go.RowKit
open Go.ChangeMaps (open_string shut_string)
set_option linter.unusedVariables false

theorem own : ownKnob Tryd.prog.godebug = none := by kernel_rfl
theorem laidOut : laidOutB Tryd.prog = true := by kernel_rfl
open Fl Pb Qd Lk Mp
theorem symInfo : ∃ z bytes, bytes ≤ 1024 ∧ ((∀ v ∈ z.cells.toList, v.oneCell' = true) ∧ 0 < z.cells.size) ∧ (Tryd.prog.info? 53).map (fun i => (i.zero, i.size, i.bytes)) = some (some z, 10, bytes) := ⟨.agg #[.pointer none, .string ⟨#[]⟩, .int .u32 0, .int .u32 0, .int .u32 0, .int .u32 0, .int .u32 0, .int .u16 0, .int .u8 0, .int .u8 0], 48, by omega, by decide, by kernel_rfl⟩
/-- The first N values fill one cell each. -/
def OneV (N : Nat) (V : Nat → Value) : Prop := ∀ q, q < N → (V q).oneCell' = true
/-- The map of symbols: the outer row ob, the lists blk i, what they hold. -/
def SM (C : Nat → Nat) (k ob : Nat) (blk : Nat → Nat) (wr : World) (V : Nat → Nat → Value) : Prop :=
  Fblk wr ob 44 k (fun i => .slice (some ⟨blk i, 0, none⟩) (C i) (C i)) ∧ (∀ i, i < k → Fblk wr (blk i) 53 (C i * 10) (V i)) ∧ (∀ i, i < k → blk i ≠ ob ∧ 0 < blk i) ∧ ∀ i j, i < j → j < k → blk i < blk j
theorem oneMade {cs : Array Value} (h : ∀ v ∈ cs.toList, v.oneCell' = true) (h0 : 0 < cs.size) (n : Nat) : OneV n (fun i => (madeCells cs n).getD i undef) := by
  intro q hq
  have hm : q % cs.size < cs.size := Nat.mod_lt _ h0
  have e : (madeCells cs n).getD q undef = cs[q % cs.size] := by
    simp [madeCells, Array.getD, hq, hm]
  show ((madeCells cs n).getD q undef).oneCell' = true
  rw [e]
  exact h _ (by simp)
theorem OneV.put {N : Nat} {V : Nat → Value} (h : OneV N V) (q : Nat) {v : Value} (hv : v.oneCell' = true) : OneV N (upd V q v) := fun i hi => by
  unfold upd
  by_cases e : i = q
  · simp [e, hv]
  · simp [e, h i hi]
set_option maxRecDepth 100000 in
theorem getC (C : Nat → Nat) (k ob : Nat) (blk : Nat → Nat) (V : Nat → Nat → Value) (s j : Nat) (w : World) (h : SM C k ob blk w V) (hs : s < k) (hj : j < C s) (hk : k ≤ 4097) (hc : C s ≤ 65536) :
    Calls Tryd.prog 19 #[.agg #[.slice (some ⟨ob, 0, none⟩) k k], .agg #[.int .u32 s, .int .u32 j]] w fun e w' => e = .returned (.pointer (some ⟨blk s, j * 10, none⟩)) ∧ Below w.heap.size w w' := by
  have co := h.1.cell s hs
  have hol := h.1.lt
  have hs2 : (s : Int) < (k : Int) := by omega
  have hj2 : (j : Int) < ((C s : Nat) : Int) := by omega
  clear h
  go_enter Tryd.func19, Tryd.ntmps19
  go_wp2_with fail
  go_quiet (fail)
  go_wp2_with fail
  go_ret
  exact ⟨rfl, Qd.below_drewN (by (repeat' (first | exact Below.refl _ _ | refine Below.drewR ?_ | (refine Below.alloc ?_ (by simp; omega) _) | (refine Below.alloc ?_ (by simp) _) | (refine Below.setCell ?_ (by simp; omega) _) | (refine Below.setCell ?_ (by simp) _)))) _⟩
theorem eql_ref (a b c d : Int) (w : World) : (binOp .eql 39 (.agg #[.int .u32 a, .int .u32 b]) (.agg #[.int .u32 c, .int .u32 d])).run Tryd.prog w = .ok (.bool (a == c && b == d)) w := by
  have u3 := Tryd.underlying25
  have a3 := Tryd.isAgg25
  have z3 := Tryd.sizeOf25
  have hS : Tryd.prog.underlying 39 = some (.struct (Tryd.prog.fieldsOf 39)) := by kernel_rfl
  have hp : Tryd.prog.stoodInHeld 39 = false := by kernel_rfl
  rw [run_eql_struct, show (10000 : Nat) = 9999 + 1 from rfl, run_equalIn_agg w 9999 39 _ _ hS hp]
  simp only [Program.fieldsOf, Tryd.underlying39]
  go_simp
  by_cases h1 : a = c <;> by_cases h2 : b = d <;> simp [h1, h2]
theorem neq_ref (a b c d : Int) (w : World) : (binOp .neq 39 (.agg #[.int .u32 a, .int .u32 b]) (.agg #[.int .u32 c, .int .u32 d])).run Tryd.prog w = .ok (.bool (!(a == c && b == d))) w := by
  have u3 := Tryd.underlying25
  have a3 := Tryd.isAgg25
  have z3 := Tryd.sizeOf25
  have hS : Tryd.prog.underlying 39 = some (.struct (Tryd.prog.fieldsOf 39)) := by kernel_rfl
  have hp : Tryd.prog.stoodInHeld 39 = false := by kernel_rfl
  rw [run_neq_struct, show (10000 : Nat) = 9999 + 1 from rfl, run_equalIn_agg w 9999 39 _ _ hS hp]
  simp only [Program.fieldsOf, Tryd.underlying39]
  go_simp
  by_cases h1 : a = c <;> by_cases h2 : b = d <;> simp [h1, h2]
/-- The links that the cells hold. -/
def Links (C : Nat → Nat) (k : Nat) (V : Nat → Nat → Value) (L : Nat × Nat → Option (Nat × Nat)) : Prop :=
  ∀ s j, s < k → j < C s → (L (s, j) = none ∧ V s (j * 10 + 2) = .int .u32 4294967295 ∧ V s (j * 10 + 3) = .int .u32 4294967295) ∨
    ∃ t, L (s, j) = some t ∧ t.1 < k ∧ t.2 < C t.1 ∧ V s (j * 10 + 2) = .int .u32 (t.1 : Nat) ∧ V s (j * 10 + 3) = .int .u32 (t.2 : Nat)
/-- Only link cells differ. -/
def SameBut (V V' : Nat → Nat → Value) : Prop := ∀ s q, q % 10 ≠ 2 → q % 10 ≠ 3 → V' s q = V s q
theorem SameBut.refl (V : Nat → Nat → Value) : SameBut V V := fun _ _ _ _ => rfl
theorem SameBut.trans {V V1 V2 : Nat → Nat → Value} (h : SameBut V V1) (h2 : SameBut V1 V2) : SameBut V V2 := fun s q a b => (h2 s q a b).trans (h s q a b)
/-- The cells with one link set. -/
def putV (V : Nat → Nat → Value) (s j : Nat) (t : Nat × Nat) : Nat → Nat → Value := fun i => if i = s then upd (upd (V s) (j * 10 + 2) (.int .u32 (t.1 : Nat))) (j * 10 + 3) (.int .u32 (t.2 : Nat)) else V i
theorem put_same (V : Nat → Nat → Value) (s j : Nat) (t : Nat × Nat) : SameBut V (putV V s j t) := fun i q h2 h3 => by
  unfold putV
  by_cases e : i = s
  · subst e
    rw [if_pos rfl, upd_other _ _ _ _ (by omega), upd_other _ _ _ _ (by omega)]
  · rw [if_neg e]
theorem Links.put {C : Nat → Nat} {k s j : Nat} {V : Nat → Nat → Value} {L : Nat × Nat → Option (Nat × Nat)} {t : Nat × Nat} (h : Links C k V L) (ht : t.1 < k) (ht2 : t.2 < C t.1) : Links C k (putV V s j t) (Lk.lset L (s, j) t) := by
  intro i q hi hq
  by_cases e : i = s
  · subst e
    by_cases e2 : q = j
    · subst e2
      refine .inr ⟨t, Lk.lset_same _ _ _, ht, ht2, ?_, ?_⟩
      · unfold putV
        rw [if_pos rfl, upd_other _ _ _ _ (by omega), upd_same]
      · unfold putV
        rw [if_pos rfl, upd_same]
    · rw [Lk.lset_other _ _ _ _ (by intro e3; injection e3 with _ e3; exact e2 e3)]
      have e4 : putV V i j t i (q * 10 + 2) = V i (q * 10 + 2) := by unfold putV; rw [if_pos rfl, upd_other _ _ _ _ (by omega), upd_other _ _ _ _ (by omega)]
      have e5 : putV V i j t i (q * 10 + 3) = V i (q * 10 + 3) := by unfold putV; rw [if_pos rfl, upd_other _ _ _ _ (by omega), upd_other _ _ _ _ (by omega)]
      rw [e4, e5]
      exact h i q hi hq
  · rw [Lk.lset_other _ _ _ _ (by intro e3; injection e3 with e3 _; exact e e3)]
    have e4 : ∀ x, putV V s j t i x = V i x := fun x => by unfold putV; rw [if_neg e]
    rw [e4, e4]
    exact h i q hi hq
theorem SM.write {C : Nat → Nat} {k ob : Nat} {blk : Nat → Nat} {w : World} {V : Nat → Nat → Value} (h : SM C k ob blk w V) {s : Nat} (hs : s < k) (q : Nat) (v : Value) :
    SM C k ob blk (w.setCell ⟨blk s, q, none⟩ v) (fun i => if i = s then upd (V s) q v else V i) := by
  obtain ⟨h1, h2, h3, h4⟩ := h
  have hne : ∀ i, i < k → i ≠ s → blk s ≠ blk i := fun i hi hn e => by
    rcases Nat.lt_or_gt_of_ne hn with hl | hl
    · have := h4 i s hl hs; omega
    · have := h4 s i hl hi; omega
  refine ⟨h1.other (by show blk s ≠ ob; have := h3 s hs; omega) _, fun i hi => ?_, h3, h4⟩
  by_cases e : i = s
  · subst e; simp only [if_true]; exact (h2 i hi).set q v
  · simp only [if_neg e]; exact (h2 i hi).other (by show blk s ≠ blk i; exact hne i hi e) _
theorem SM.put {C : Nat → Nat} {k ob : Nat} {blk : Nat → Nat} {w : World} {V : Nat → Nat → Value} (h : SM C k ob blk w V) {s : Nat} (hs : s < k) (j : Nat) (t : Nat × Nat) :
    SM C k ob blk ((w.setCell ⟨blk s, j * 10 + 2, none⟩ (.int .u32 (t.1 : Nat))).setCell ⟨blk s, j * 10 + 3, none⟩ (.int .u32 (t.2 : Nat))) (putV V s j t) := by
  have h2 := (h.write hs (j * 10 + 2) (.int .u32 (t.1 : Nat))).write hs (j * 10 + 3) (.int .u32 (t.2 : Nat))
  have e : (fun i => if i = s then upd ((fun i => if i = s then upd (V s) (j * 10 + 2) (.int .u32 (t.1 : Nat)) else V i) s) (j * 10 + 3) (.int .u32 (t.2 : Nat)) else (fun i => if i = s then upd (V s) (j * 10 + 2) (.int .u32 (t.1 : Nat)) else V i) i) = putV V s j t := by
    funext i
    unfold putV
    by_cases e : i = s
    · subst e; simp
    · simp [e]
  rw [← e]
  exact h2
theorem SM.keep {C : Nat → Nat} {k ob : Nat} {blk : Nat → Nat} {w w' : World} {V : Nat → Nat → Value} (h : SM C k ob blk w V) (hb : Below w.heap.size w w') : SM C k ob blk w' V :=
  ⟨h.1.below hb h.1.lt, fun i hi => (h.2.1 i hi).below hb (h.2.1 i hi).lt, h.2.2.1, h.2.2.2⟩
/-- The variable InvalidRef. -/
def Gl (w : World) : Prop := w.cell? ⟨0, 0, none⟩ = some (.int .u32 4294967295) ∧ w.cell? ⟨0, 1, none⟩ = some (.int .u32 4294967295)
def FP (C : Nat → Nat) (k ob : Nat) (blk : Nat → Nat) (V : Nat → Nat → Value) (L : Nat × Nat → Option (Nat × Nat)) (s j : Nat) (t : Nat × Nat) (m : Nat) (w : World) (e : Ending) (w' : World) : Prop :=
  e = .returned (.agg #[.int .u32 (t.1 : Nat), .int .u32 (t.2 : Nat)]) ∧ ∃ V' L', SM C k ob blk w' V' ∧ Links C k V' L' ∧ Lk.Comp L L' ∧ (L' (s, j) = none ∨ L' (s, j) = some t) ∧ (∀ p n, Lk.Path L p t n → m < n → L' p = L p) ∧ SameBut V V' ∧ Chg (fun b => ∃ i, i < k ∧ b = blk i) w w'
theorem three_blocks (w w1 : World) (c0 c1 c2 : Array Value) (t0 t1 t2 : TypeId) (hb : Below (((w.alloc (.cells c0 t0)).alloc (.cells c1 t1)).alloc (.cells c2 t2)).heap.size (((w.alloc (.cells c0 t0)).alloc (.cells c1 t1)).alloc (.cells c2 t2)) w1) :
    w1.heap[w.heap.size]? = some (.cells c0 t0 (0, 0)) ∧ w1.heap[w.heap.size + 1]? = some (.cells c1 t1 (0, 0)) ∧ w1.heap[w.heap.size + 1 + 1]? = some (.cells c2 t2 (0, 0)) ∧ w.heap.size + 3 ≤ w1.heap.size := by
  have hz := hb.size
  simp at hz
  refine ⟨?_, ?_, ?_, by omega⟩
  · rw [hb.block _ (by simp; omega), Below.heap_alloc _ _ _ (by simp; omega), Below.heap_alloc _ _ _ (by simp)]; exact heap_alloc_new _ _
  · rw [hb.block _ (by simp), Below.heap_alloc _ _ _ (by simp)]
    have := heap_alloc_new (w.alloc (.cells c0 t0)) (.cells c1 t1)
    simpa using this
  · rw [hb.block _ (by simp)]
    have := heap_alloc_new ((w.alloc (.cells c0 t0)).alloc (.cells c1 t1)) (.cells c2 t2)
    simpa using this
theorem cellsB {w : World} {b i : Nat} {t : TypeId} {cs : Array Value} {v : Value} (h : w.heap[b]? = some (.cells cs t (0, 0))) (hv : cs[i]? = some v) : w.cell? ⟨b, i, none⟩ = some v := by
  rw [cell_of_row w b i cs t _ h, hv]
theorem Gl.below {w w' : World} (h : Gl w) (hb : Below w.heap.size w w') : Gl w' := by
  have h0 := lt_of_cell h.1
  exact ⟨by rw [hb.cell (p := ⟨0, 0, none⟩) h0]; exact h.1, by rw [hb.cell (p := ⟨0, 1, none⟩) h0]; exact h.2⟩
theorem Gl.chg {k ob : Nat} {blk : Nat → Nat} {w w' : World} (h : Gl w) (hb : ∀ i, i < k → blk i ≠ ob ∧ 0 < blk i) (hc : Chg (fun b => ∃ i, i < k ∧ b = blk i) w w') : Gl w' :=
  ⟨hc.cell h.1 (by rintro ⟨i, hi, e⟩; have := hb i hi; simp at e; omega), hc.cell h.2 (by rintro ⟨i, hi, e⟩; have := hb i hi; simp at e; omega)⟩
theorem chg_of {S : Nat → Prop} {w w' : World} (h : Below w.heap.size w w') : Chg S w w' := Chg.of_below h fun i h1 h2 => by omega
set_option maxHeartbeats 2000000 in
set_option maxRecDepth 100000 in
theorem follow0 (C : Nat → Nat) (k ob : Nat) (blk : Nat → Nat) (hk : k ≤ 4097) (hC : ∀ s, s < k → C s ≤ 65536) (s j : Nat) (V : Nat → Nat → Value) (L : Nat × Nat → Option (Nat × Nat)) (w : World) (hs : s < k) (hj : j < C s)
    (hM : SM C k ob blk w V) (hL : Links C k V L) (hG : Gl w) (hn : L (s, j) = none) :
    Calls Tryd.prog 18 #[.agg #[.slice (some ⟨ob, 0, none⟩) k k], .agg #[.int .u32 s, .int .u32 j]] w (FP C k ob blk V L s j (s, j) 0 w) := by
  have hB0 : Below w.heap.size w (((w.alloc (.cells #[.slice (some ⟨ob, 0, none⟩) k k] 33)).alloc (.cells #[.int .u32 s, .int .u32 j] 39)).alloc (.cells #[.int .u32 0, .int .u32 0] 39)) := by (repeat' (first | exact Below.refl _ _ | refine Below.drewR ?_ | (refine Below.alloc ?_ (by simp; omega) _) | (refine Below.alloc ?_ (by simp) _) | (refine Below.setCell ?_ (by simp; omega) _) | (refine Below.setCell ?_ (by simp) _)))
  have HM := Lib.hid hM
  have HB0 := Lib.hid hB0
  have HG := Lib.hid (getC C k ob blk V s j _ (hM.keep hB0) hs hj hk (hC s hs))
  have HGL := Lib.hid hG
  have HL := Lib.hid hL
  have HN := Lib.hid hn
  have he : ∀ w, (binOp .eql 39 (.agg #[.int .u32 4294967295, .int .u32 4294967295]) (.agg #[.int .u32 4294967295, .int .u32 4294967295])).run Tryd.prog w = .ok (.bool true) w := fun w => by rw [eql_ref]; rfl
  clear hM hB0 hG hL hn hC
  go_enter Tryd.func18, Tryd.ntmps18
  go_wp2_with fail
  refine HG.out.mono ?_
  rintro e w4 ⟨rfl, hb4⟩
  obtain ⟨h0, h1, h2, hz⟩ := three_blocks _ _ _ _ _ _ _ _ hb4
  have HB4 := Lib.hid (HB0.out.trans (hb4.mono HB0.out.size))
  have hM4 := HM.out.keep HB4.out
  obtain ⟨g0, g1⟩ := HGL.out.below HB4.out
  have l2 := (hM4.2.1 s hs).cell (j * 10 + 2) (by omega)
  have l3 := (hM4.2.1 s hs).cell (j * 10 + 3) (by omega)
  have hbl := (hM4.2.1 s hs).lt
  rcases HL.out s j hs hj with ⟨_, v2, v3⟩ | ⟨x, hx, _⟩
  · rw [v2] at l2
    rw [v3] at l3
    have b0 := cellsB (i := 0) h1 rfl
    have b1 := cellsB (i := 1) h1 rfl
    have d0 := cellsB (i := 0) h2 rfl
    have d1 := cellsB (i := 1) h2 rfl
    have f0 := frozen_of_row w4 (w.heap.size + 1 + 1) 0 _ 39 h2
    have f1 := frozen_of_row w4 (w.heap.size + 1 + 1) 1 _ 39 h2
    have HM4 := Lib.hid hM4
    clear hM4 h0 h1 h2 v2 v3 hb4
    go_wp2_with fail
    go_quiet (fail)
    go_wp2_with fail
    refine bodyPost_ret (v := .agg #[.int .u32 s, .int .u32 j]) (by simp [results, Tryd.results18, go_sem, d0, d1]) rfl ?_
    exact ⟨rfl, V, L, HM.out.keep (by (repeat' (first | exact HB4.out | refine Qd.below_drewN ?_ _ | (refine Below.setCell ?_ (show w.heap.size ≤ w.heap.size + 1 + 1 by omega) _)))), HL.out, Lk.Comp.refl L, .inl HN.out, fun _ _ _ _ => rfl, SameBut.refl V, chg_of (by (repeat' (first | exact HB4.out | refine Qd.below_drewN ?_ _ | (refine Below.setCell ?_ (show w.heap.size ≤ w.heap.size + 1 + 1 by omega) _))))⟩
  · rw [HN.out] at hx; cases hx
theorem belD {B : Nat} {a w : World} (h : Below B a w) : Below B a w.drew := h.trans ⟨rfl, rfl, rfl, Nat.le_refl _, fun _ _ => rfl⟩
theorem SM.keepB {C : Nat → Nat} {k ob B : Nat} {blk : Nat → Nat} {w w' : World} {V : Nat → Nat → Value} (h : SM C k ob blk w V) (ho : ob < B) (hl : ∀ i, i < k → blk i < B) (hb : Below B w w') : SM C k ob blk w' V :=
  ⟨h.1.below hb ho, fun i hi => (h.2.1 i hi).below hb (hl i hi), h.2.2.1, h.2.2.2⟩
theorem chgB {S : Nat → Prop} {w w6 wf : World} (h : Chg S w w6) (hb : Below w.heap.size w6 wf) : Chg S w wf :=
  h.transN (Chg.of_below (S := fun i => w.heap.size ≤ i) hb fun i _ hi => hi) fun i h1 h2 => by omega
/-- The end, the link left as it is. -/
theorem endS {C : Nat → Nat} {k ob : Nat} {blk : Nat → Nat} {s j m : Nat} {t : Nat × Nat} {V V' : Nat → Nat → Value} {L L' : Nat × Nat → Option (Nat × Nat)} {w W Wc w6 wf : World} (hM : SM C k ob blk w V)
    (h6 : SM C k ob blk w6 V' ∧ Links C k V' L' ∧ Lk.Comp L L' ∧ (∀ p n, Lk.Path L p t n → m < n → L' p = L p) ∧ SameBut V V' ∧ Chg (fun b => ∃ i, i < k ∧ b = blk i) Wc w6)
    (hL' : L' (s, j) = some t) (hW : Below w.heap.size w W) (hWc : Below W.heap.size W Wc) (hb : Below w.heap.size w6 wf) :
    FP C k ob blk V L s j t (m + 1) w (.returned (.agg #[.int .u32 (t.1 : Nat), .int .u32 (t.2 : Nat)])) wf := by
  obtain ⟨h1, h2, h3, h4, h5, h7⟩ := h6
  refine ⟨rfl, V', L', h1.keepB hM.1.lt (fun i hi => (hM.2.1 i hi).lt) hb, h2, h3, .inr hL', fun p n hp hn => h4 p n hp (by omega), h5, ?_⟩
  exact chgB ((chg_of (hW.trans (hWc.mono hW.size))).trans h7) hb
/-- The end, the link set anew. -/
theorem endP {C : Nat → Nat} {k ob : Nat} {blk : Nat → Nat} {s j m : Nat} {t x : Nat × Nat} {V V' : Nat → Nat → Value} {L L' : Nat × Nat → Option (Nat × Nat)} {w W Wc w6 wa wf : World} (hM : SM C k ob blk w V)
    (h6 : SM C k ob blk w6 V' ∧ Links C k V' L' ∧ Lk.Comp L L' ∧ (∀ p n, Lk.Path L p t n → m < n → L' p = L p) ∧ SameBut V V' ∧ Chg (fun b => ∃ i, i < k ∧ b = blk i) Wc w6) (hs : s < k)
    (hx : L (s, j) = some x) (hP : Lk.Path L x t m) (ht1 : t.1 < k) (ht2 : t.2 < C t.1)
    (hL' : L' (s, j) = some x) (hW : Below w.heap.size w W) (hWc : Below W.heap.size W Wc) (ha : Below w.heap.size w6 wa)
    (hb : Below w.heap.size ((wa.setCell ⟨blk s, j * 10 + 2, none⟩ (.int .u32 (t.1 : Nat))).setCell ⟨blk s, j * 10 + 2 + 1, none⟩ (.int .u32 (t.2 : Nat))) wf) :
    FP C k ob blk V L s j t (m + 1) w (.returned (.agg #[.int .u32 (t.1 : Nat), .int .u32 (t.2 : Nat)])) wf := by
  obtain ⟨h1, h2, h3, h4, h5, h7⟩ := h6
  have hbl : ∀ i, i < k → blk i < w.heap.size := fun i hi => (hM.2.1 i hi).lt
  have hP1 : Lk.Path L (s, j) t (m + 1) := .step hx hP
  refine ⟨rfl, putV V' s j t, Lk.lset L' (s, j) t, ((h1.keepB hM.1.lt hbl ha).put hs j t).keepB hM.1.lt hbl hb, h2.put ht1 ht2, h3.trans (Lk.Comp.lset (h3.root ⟨_, hP1⟩) (by rw [hL']; simp)), .inr (Lk.lset_same _ _ _), fun p n hp hn => ?_, h5.trans (put_same _ _ _ _), ?_⟩
  · have hne : p ≠ (s, j) := fun e => by
      subst e
      have := (hp.det hP1).2
      omega
    rw [Lk.lset_other _ _ _ _ hne]
    exact h4 p n hp (by omega)
  · exact chgB (((chgB ((chg_of (hW.trans (hWc.mono hW.size))).trans h7) ha).setCell (p := ⟨blk s, j * 10 + 2, none⟩) (.inl ⟨s, hs, rfl⟩) _).setCell (p := ⟨blk s, j * 10 + 2 + 1, none⟩) (.inl ⟨s, hs, rfl⟩) _) hb
set_option maxHeartbeats 4000000 in
set_option maxRecDepth 100000 in
theorem followS (C : Nat → Nat) (k ob : Nat) (blk : Nat → Nat) (hk : k ≤ 4097) (hC : ∀ s, s < k → C s ≤ 65536) (m : Nat)
    (ih : ∀ (s j : Nat) (t : Nat × Nat) (V : Nat → Nat → Value) (L : Nat × Nat → Option (Nat × Nat)) (w : World), s < k → j < C s →
      SM C k ob blk w V → Links C k V L → Gl w → Lk.Path L (s, j) t m → t.1 < k → t.2 < C t.1 →
      Calls Tryd.prog 18 #[.agg #[.slice (some ⟨ob, 0, none⟩) k k], .agg #[.int .u32 s, .int .u32 j]] w (FP C k ob blk V L s j t m w))
    (s j : Nat) (t x : Nat × Nat) (V : Nat → Nat → Value) (L : Nat × Nat → Option (Nat × Nat)) (w : World) (hs : s < k) (hj : j < C s)
    (hM : SM C k ob blk w V) (hL : Links C k V L) (hG : Gl w) (hn : L (s, j) = some x) (hP' : Lk.Path L x t m) (ht1 : t.1 < k) (ht2 : t.2 < C t.1) :
    Calls Tryd.prog 18 #[.agg #[.slice (some ⟨ob, 0, none⟩) k k], .agg #[.int .u32 s, .int .u32 j]] w (FP C k ob blk V L s j t (m + 1) w) := by
  have hB0 : Below w.heap.size w (((w.alloc (.cells #[.slice (some ⟨ob, 0, none⟩) k k] 33)).alloc (.cells #[.int .u32 s, .int .u32 j] 39)).alloc (.cells #[.int .u32 0, .int .u32 0] 39)) := by (repeat' (first | exact Below.refl _ _ | refine Below.drewR ?_ | (refine Below.alloc ?_ (by simp; omega) _) | (refine Below.alloc ?_ (by simp) _) | (refine Below.setCell ?_ (by simp; omega) _) | (refine Below.setCell ?_ (by simp) _)))
  have HM := Lib.hid hM
  have HB0 := Lib.hid hB0
  have HG := Lib.hid (getC C k ob blk V s j _ (hM.keep hB0) hs hj hk (hC s hs))
  have HGL := Lib.hid hG
  have HL := Lib.hid hL
  have HN := Lib.hid hn
  have HP := Lib.hid hP'
  have hx : x.1 < k ∧ x.2 < C x.1 ∧ V s (j * 10 + 2) = .int .u32 (x.1 : Nat) ∧ V s (j * 10 + 3) = .int .u32 (x.2 : Nat) := by
    rcases hL s j hs hj with ⟨e, _⟩ | ⟨y, e, q⟩
    · rw [hn] at e; cases e
    · rw [hn] at e
      injection e with e
      subst e; exact q
  obtain ⟨hx1, hx2, v2, v3⟩ := hx
  have he : ∀ w, (binOp .eql 39 (.agg #[.int .u32 (x.1 : Nat), .int .u32 (x.2 : Nat)]) (.agg #[.int .u32 4294967295, .int .u32 4294967295])).run Tryd.prog w = .ok (.bool false) w := fun w => by
    rw [eql_ref]
    have : ((x.1 : Nat) : Int) ≠ 4294967295 := by omega
    simp [this]
  have HV2 := Lib.hid v2
  have HV3 := Lib.hid v3
  have HC := Lib.hid hC
  clear hM hB0 hG hL hn hC hP' v2 v3
  go_enter Tryd.func18, Tryd.ntmps18
  go_wp2_with fail
  refine HG.out.mono ?_
  rintro e w4 ⟨rfl, hb4⟩
  obtain ⟨h0, h1, h2, hz⟩ := three_blocks _ _ _ _ _ _ _ _ hb4
  have HB4 := Lib.hid (HB0.out.trans (hb4.mono HB0.out.size))
  have hM4 := HM.out.keep HB4.out
  have HG4 := Lib.hid (HGL.out.below HB4.out)
  obtain ⟨g0, g1⟩ := HGL.out.below HB4.out
  have l2 := (hM4.2.1 s hs).cell (j * 10 + 2) (by omega)
  have l3 := (hM4.2.1 s hs).cell (j * 10 + 3) (by omega)
  have hbl := (hM4.2.1 s hs).lt
  rw [HV2.out] at l2
  rw [HV3.out] at l3
  have c0 := cellsB (i := 0) h0 rfl
  have H0 := Lib.hid h0
  have H2 := Lib.hid h2
  have HM4 := Lib.hid hM4
  clear hM4 h0 h1 h2 hb4
  go_wp2_with fail
  go_quiet (fail)
  go_wp2_with fail
  have MW := Lib.hid (show SM C k ob blk (w4.drewN nq) V from HM4.out)
  have BW := Lib.hid (show Below w.heap.size w (w4.drewN nq) from Qd.below_drewN HB4.out nq)
  have GW := Lib.hid (show Gl (w4.drewN nq) from HG4.out)
  have W0 := Lib.hid (show (w4.drewN nq).heap[w.heap.size]? = some (.cells #[.slice (some ⟨ob, 0, none⟩) k k] 33 (0, 0)) from H0.out)
  have W2 := Lib.hid (show (w4.drewN nq).heap[w.heap.size + 1 + 1]? = some (.cells #[.int .u32 0, .int .u32 0] 39 (0, 0)) from H2.out)
  have wz : w.heap.size + 3 ≤ (w4.drewN nq).heap.size := hz
  clear HM4 HB4 HG4 H0 H2 hz g0 g1 l2 l3 hbl c0
  generalize w4.drewN nq = W at MW BW GW W0 W2 wz ⊢
  have c0 := cellsB (i := 0) W0.out rfl
  have l2 := (MW.out.2.1 s hs).cell (j * 10 + 2) (by have := HC.out s hs; omega)
  have l3 := (MW.out.2.1 s hs).cell (j * 10 + 3) (by have := HC.out s hs; omega)
  have hbl := (MW.out.2.1 s hs).lt
  rw [HV2.out] at l2
  rw [HV3.out] at l3
  have z0 : w.heap.size < W.heap.size := by omega
  have zz : ∀ i, i < k → blk i < w.heap.size := fun i hi => (HM.out.2.1 i hi).lt
  have HLOW := Lib.hid zz
  have hbw : blk s < w.heap.size := zz s hs
  have IH := Lib.hid ih
  clear zz ih
  have HR : Hid (∀ w6 V' L', SM C k ob blk w6 V' → Links C k V' L' → (∀ p n, Lk.Path L p t n → m < n → L' p = L p) →
      w6.cell? ⟨blk s, j * 10 + 2, none⟩ = some (.int .u32 (x.1 : Nat)) ∧ w6.cell? ⟨blk s, j * 10 + 3, none⟩ = some (.int .u32 (x.2 : Nat)) ∧ w6.frozen? ⟨blk s, j * 10 + 2, none⟩ = false ∧ w6.frozen? ⟨blk s, j * 10 + 3, none⟩ = false ∧ L' (s, j) = some x) := Lib.hid (by
    intro w6 V' L' h1 h2 h3
    have e : L' (s, j) = some x := by rw [h3 _ _ (.step HN.out HP.out) (by omega)]; exact HN.out
    rcases h2 s j hs hj with ⟨e2, _⟩ | ⟨y, hy, _, _, u2, u3⟩
    · rw [e] at e2; cases e2
    · rw [e] at hy
      injection hy with hy
      subst hy
      have l2 := (h1.2.1 s hs).cell (j * 10 + 2) (by omega)
      have l3 := (h1.2.1 s hs).cell (j * 10 + 3) (by omega)
      rw [u2] at l2
      rw [u3] at l3
      exact ⟨l2, l3, (h1.2.1 s hs).frozen _, (h1.2.1 s hs).frozen _, e⟩)
  have HT : Hid (∀ Wc w6 : World, Below W.heap.size W Wc → Chg (fun b => ∃ i, i < k ∧ b = blk i) Wc w6 → w6.heap[w.heap.size]? = some (.cells #[.slice (some ⟨ob, 0, none⟩) k k] 33 (0, 0)) ∧ w6.heap[w.heap.size + 1 + 1]? = some (.cells #[.int .u32 0, .int .u32 0] 39 (0, 0)) ∧ w.heap.size + 3 ≤ w6.heap.size) := Lib.hid (by
    intro Wc w6 h1 h2
    have hz := h1.size
    refine ⟨?_, ?_, Nat.le_trans wz (Nat.le_trans hz h2.size)⟩
    · exact (h2.block _ (by omega) (by rintro ⟨i, hi, e⟩; have := HLOW.out i hi; omega)).trans ((h1.block _ (by omega)).trans W0.out)
    · exact (h2.block _ (by omega) (by rintro ⟨i, hi, e⟩; have := HLOW.out i hi; omega)).trans ((h1.block _ (by omega)).trans W2.out))
  clear hbl z0
  have n1 : ¬ W.heap.size = w.heap.size := by omega
  have n2 : ¬ w.heap.size = W.heap.size := by omega
  have n3 : ¬ W.heap.size = w.heap.size + 1 + 1 := by omega
  have n4 : ¬ w.heap.size + 1 + 1 = W.heap.size := by omega
  have n5 : ¬ W.heap.size = blk s := by omega
  have n6 : ¬ blk s = W.heap.size := by omega
  by_cases hxt : x = t
  · subst hxt
    have he2 : ∀ w, (binOp .neq 39 (.agg #[.int .u32 (x.1 : Nat), .int .u32 (x.2 : Nat)]) (.agg #[.int .u32 (x.1 : Nat), .int .u32 (x.2 : Nat)])).run Tryd.prog w = .ok (.bool false) w := fun w => by rw [neq_ref]; simp
    go_region_held3 (fun w' => w'.cell? ⟨w.heap.size, 0, none⟩ = some (.slice (some ⟨ob, 0, none⟩) k k) ∧ w'.cell? ⟨blk s, j * 10 + 2, none⟩ = some (.int .u32 (x.1 : Nat)) ∧ w'.cell? ⟨blk s, j * 10 + 3, none⟩ = some (.int .u32 (x.2 : Nat)))
      (first | exact ⟨c0', l2', l3'⟩ | exact ⟨c0, l2, l3⟩ | go_keep)
      ((go_at_call 18; first
        | (
          refine (IH.out x.1 x.2 x V L _ hx1 hx2 (MW.out.keep (by first | exact belD (Below.refl _ _) | exact belD ((Below.refl _ _).alloc (Nat.le_refl _) _))) HL.out (GW.out.below (by first | exact belD (Below.refl _ _) | exact belD ((Below.refl _ _).alloc (Nat.le_refl _) _))) HP.out ht1 ht2).mono ?_
          rintro e w6 ⟨rfl, V', L', hM6, hL6, hC6, hr6, hU6, hS6, hch⟩
          have HA := hch.block W.heap.size (show W.heap.size < (W.alloc _).heap.size by simp) (by rintro ⟨i, hi, e⟩; have := HLOW.out i hi; omega)
          have HA := HA.trans (heap_alloc_new W _)
          have a0 := cellsB (i := 0) HA rfl
          have a1 := cellsB (i := 1) HA rfl
          have fa0 := frozen_of_row w6 W.heap.size 0 _ 39 HA
          have fa1 := frozen_of_row w6 W.heap.size 1 _ 39 HA
          have HA := Lib.hid HA
          obtain ⟨H0, H2, z6⟩ := HT.out _ _ (by first | exact belD (Below.refl _ _) | exact belD ((Below.refl _ _).alloc (Nat.le_refl _) _)) hch
          obtain ⟨l2', l3', y2, y3, hL'⟩ := HR.out _ _ _ hM6 hL6 hU6
          have c0' := cellsB (i := 0) H0 rfl
          have HF := Lib.hid (And.intro hM6 (And.intro hL6 (And.intro hC6 (And.intro hU6 (And.intro hS6 hch)))))
          clear hM6 hL6 hC6 hU6 hS6 hch hr6)
        | (
          refine (IH.out x.1 x.2 x V L _ hx1 hx2 (MW.out.keep (by first | exact belD (Below.refl _ _) | exact belD ((Below.refl _ _).alloc (Nat.le_refl _) _))) HL.out (GW.out.below (by first | exact belD (Below.refl _ _) | exact belD ((Below.refl _ _).alloc (Nat.le_refl _) _))) HP.out ht1 ht2).mono ?_
          rintro e w6 ⟨rfl, V', L', hM6, hL6, hC6, hr6, hU6, hS6, hch⟩
          skip
          obtain ⟨H0, H2, z6⟩ := HT.out _ _ (by first | exact belD (Below.refl _ _) | exact belD ((Below.refl _ _).alloc (Nat.le_refl _) _)) hch
          obtain ⟨l2', l3', y2, y3, hL'⟩ := HR.out _ _ _ hM6 hL6 hU6
          have c0' := cellsB (i := 0) H0 rfl
          have HF := Lib.hid (And.intro hM6 (And.intro hL6 (And.intro hC6 (And.intro hU6 (And.intro hS6 hch)))))
          clear hM6 hL6 hC6 hU6 hS6 hch hr6)))
    · have d0 := cellsB (i := 0) H2 rfl
      have d1 := cellsB (i := 1) H2 rfl
      have f0 := frozen_of_row w6 (w.heap.size + 1 + 1) 0 _ 39 H2
      have f1 := frozen_of_row w6 (w.heap.size + 1 + 1) 1 _ 39 H2
      have m1 : w.heap.size + 1 + 1 < w6.heap.size := by omega
      have m2 : ¬ w6.heap.size = w.heap.size := by omega
      have m3 : ¬ w6.heap.size = w.heap.size + 1 + 1 := by omega
      have m4 : ¬ w6.heap.size = blk s := by omega
      have m5 : ¬ blk s = w6.heap.size := by omega
      have m6 : ¬ w.heap.size + 1 + 1 = w6.heap.size := by omega
      have m7 : ¬ blk s = w.heap.size + 1 + 1 := by omega
      have m8 : blk s < w6.heap.size := by omega
      have H2 := Lib.hid H2
      have H0 := Lib.hid H0
      go_wp2_with fail
      go_quiet (fail)
      go_wp2_with fail
      refine bodyPost_ret (v := .agg #[.int .u32 (x.1 : Nat), .int .u32 (x.2 : Nat)]) (by rw [results, Tryd.results18]; go_simp) rfl ?_
      exact endS HM.out HF.out hL' BW.out (by first | exact belD (Below.refl _ _) | exact belD ((Below.refl _ _).alloc (Nat.le_refl _) _)) (by (repeat' (first | with_reducible exact Below.refl _ _ | with_reducible refine Qd.below_drewN ?_ _ | (with_reducible refine Below.setCell ?_ (show w.heap.size ≤ _ by (first | exact Nat.le_refl _ | (dsimp only; omega))) _) | (with_reducible refine Below.alloc ?_ (by omega) _))))
    · have d0 := cellsB (i := 0) H2 rfl
      have d1 := cellsB (i := 1) H2 rfl
      have f0 := frozen_of_row w6 (w.heap.size + 1 + 1) 0 _ 39 H2
      have f1 := frozen_of_row w6 (w.heap.size + 1 + 1) 1 _ 39 H2
      have m1 : w.heap.size + 1 + 1 < w6.heap.size := by omega
      have m2 : ¬ w6.heap.size = w.heap.size := by omega
      have m3 : ¬ w6.heap.size = w.heap.size + 1 + 1 := by omega
      have m4 : ¬ w6.heap.size = blk s := by omega
      have m5 : ¬ blk s = w6.heap.size := by omega
      have m6 : ¬ w.heap.size + 1 + 1 = w6.heap.size := by omega
      have m7 : ¬ blk s = w.heap.size + 1 + 1 := by omega
      have m8 : blk s < w6.heap.size := by omega
      have H2 := Lib.hid H2
      have H0 := Lib.hid H0
      go_wp2_with fail
      go_quiet (fail)
      go_wp2_with fail
      refine bodyPost_ret (v := .agg #[.int .u32 (x.1 : Nat), .int .u32 (x.2 : Nat)]) (by first | (simp [results, Tryd.results18, go_sem, d0, d1]; done) | (simp [results, Tryd.results18, go_sem, d0, d1, m1, m2, m3, m4, m5, m6, m7, m8, n1, n2, n3, n4, n5, n6]; done) | (rw [results, Tryd.results18]; go_simp)) rfl ?_
      exact endS HM.out HF.out hL' BW.out (by first | exact belD (Below.refl _ _) | exact belD ((Below.refl _ _).alloc (Nat.le_refl _) _)) (by (repeat' (first | with_reducible exact Below.refl _ _ | with_reducible refine Qd.below_drewN ?_ _ | (with_reducible refine Below.setCell ?_ (show w.heap.size ≤ _ by (first | exact Nat.le_refl _ | (dsimp only; omega))) _) | (with_reducible refine Below.alloc ?_ (by omega) _))))
  · have he2 : ∀ w, (binOp .neq 39 (.agg #[.int .u32 (x.1 : Nat), .int .u32 (x.2 : Nat)]) (.agg #[.int .u32 (t.1 : Nat), .int .u32 (t.2 : Nat)])).run Tryd.prog w = .ok (.bool true) w := fun w => by
      rw [neq_ref]
      have : ¬ (((x.1 : Nat) : Int) = ((t.1 : Nat) : Int) ∧ ((x.2 : Nat) : Int) = ((t.2 : Nat) : Int)) := fun ⟨a, b⟩ => hxt (Prod.ext (by omega) (by omega))
      congr 2
      rw [Bool.not_eq_true', Bool.eq_false_iff]
      simpa using this
    go_region_held3 (fun w' => w'.cell? ⟨w.heap.size, 0, none⟩ = some (.slice (some ⟨ob, 0, none⟩) k k) ∧ w'.cell? ⟨blk s, j * 10 + 2, none⟩ = some (.int .u32 (x.1 : Nat)) ∧ w'.cell? ⟨blk s, j * 10 + 3, none⟩ = some (.int .u32 (x.2 : Nat)))
      (first | exact ⟨c0', l2', l3'⟩ | exact ⟨c0, l2, l3⟩ | go_keep)
      ((go_at_call 18; first
        | (
          refine (IH.out x.1 x.2 t V L _ hx1 hx2 (MW.out.keep (by first | exact belD (Below.refl _ _) | exact belD ((Below.refl _ _).alloc (Nat.le_refl _) _))) HL.out (GW.out.below (by first | exact belD (Below.refl _ _) | exact belD ((Below.refl _ _).alloc (Nat.le_refl _) _))) HP.out ht1 ht2).mono ?_
          rintro e w6 ⟨rfl, V', L', hM6, hL6, hC6, hr6, hU6, hS6, hch⟩
          have HA := hch.block W.heap.size (show W.heap.size < (W.alloc _).heap.size by simp) (by rintro ⟨i, hi, e⟩; have := HLOW.out i hi; omega)
          have HA := HA.trans (heap_alloc_new W _)
          have a0 := cellsB (i := 0) HA rfl
          have a1 := cellsB (i := 1) HA rfl
          have fa0 := frozen_of_row w6 W.heap.size 0 _ 39 HA
          have fa1 := frozen_of_row w6 W.heap.size 1 _ 39 HA
          have HA := Lib.hid HA
          obtain ⟨H0, H2, z6⟩ := HT.out _ _ (by first | exact belD (Below.refl _ _) | exact belD ((Below.refl _ _).alloc (Nat.le_refl _) _)) hch
          obtain ⟨l2', l3', y2, y3, hL'⟩ := HR.out _ _ _ hM6 hL6 hU6
          have c0' := cellsB (i := 0) H0 rfl
          have HF := Lib.hid (And.intro hM6 (And.intro hL6 (And.intro hC6 (And.intro hU6 (And.intro hS6 hch)))))
          clear hM6 hL6 hC6 hU6 hS6 hch hr6)
        | (
          refine (IH.out x.1 x.2 t V L _ hx1 hx2 (MW.out.keep (by first | exact belD (Below.refl _ _) | exact belD ((Below.refl _ _).alloc (Nat.le_refl _) _))) HL.out (GW.out.below (by first | exact belD (Below.refl _ _) | exact belD ((Below.refl _ _).alloc (Nat.le_refl _) _))) HP.out ht1 ht2).mono ?_
          rintro e w6 ⟨rfl, V', L', hM6, hL6, hC6, hr6, hU6, hS6, hch⟩
          skip
          obtain ⟨H0, H2, z6⟩ := HT.out _ _ (by first | exact belD (Below.refl _ _) | exact belD ((Below.refl _ _).alloc (Nat.le_refl _) _)) hch
          obtain ⟨l2', l3', y2, y3, hL'⟩ := HR.out _ _ _ hM6 hL6 hU6
          have c0' := cellsB (i := 0) H0 rfl
          have HF := Lib.hid (And.intro hM6 (And.intro hL6 (And.intro hC6 (And.intro hU6 (And.intro hS6 hch)))))
          clear hM6 hL6 hC6 hU6 hS6 hch hr6)))
    · have d0 := cellsB (i := 0) H2 rfl
      have d1 := cellsB (i := 1) H2 rfl
      have f0 := frozen_of_row w6 (w.heap.size + 1 + 1) 0 _ 39 H2
      have f1 := frozen_of_row w6 (w.heap.size + 1 + 1) 1 _ 39 H2
      have m1 : w.heap.size + 1 + 1 < w6.heap.size := by omega
      have m2 : ¬ w6.heap.size = w.heap.size := by omega
      have m3 : ¬ w6.heap.size = w.heap.size + 1 + 1 := by omega
      have m4 : ¬ w6.heap.size = blk s := by omega
      have m5 : ¬ blk s = w6.heap.size := by omega
      have m6 : ¬ w.heap.size + 1 + 1 = w6.heap.size := by omega
      have m7 : ¬ blk s = w.heap.size + 1 + 1 := by omega
      have m8 : blk s < w6.heap.size := by omega
      have H2 := Lib.hid H2
      have H0 := Lib.hid H0
      go_wp2_with fail
      go_quiet (fail)
      go_wp2_with fail
      refine bodyPost_ret (v := .agg #[.int .u32 (t.1 : Nat), .int .u32 (t.2 : Nat)]) (by rw [results, Tryd.results18]; go_simp) rfl ?_
      exact endP (wa := (w6.alloc (.cells #[.int .u32 (t.1 : Nat), .int .u32 (t.2 : Nat)] 39)).drewN nq) HM.out HF.out hs HN.out HP.out ht1 ht2 hL' BW.out (by first | exact belD (Below.refl _ _) | exact belD ((Below.refl _ _).alloc (Nat.le_refl _) _)) (by (repeat' (first | with_reducible exact Below.refl _ _ | with_reducible refine Qd.below_drewN ?_ _ | (with_reducible refine Below.setCell ?_ (show w.heap.size ≤ _ by (first | exact Nat.le_refl _ | (dsimp only; omega))) _) | (with_reducible refine Below.alloc ?_ (by omega) _)))) (by (repeat' (first | with_reducible exact Below.refl _ _ | with_reducible refine Qd.below_drewN ?_ _ | (with_reducible refine Below.setCell ?_ (show w.heap.size ≤ _ by (first | exact Nat.le_refl _ | (dsimp only; omega))) _) | (with_reducible refine Below.alloc ?_ (by omega) _))))
    · have d0 := cellsB (i := 0) H2 rfl
      have d1 := cellsB (i := 1) H2 rfl
      have f0 := frozen_of_row w6 (w.heap.size + 1 + 1) 0 _ 39 H2
      have f1 := frozen_of_row w6 (w.heap.size + 1 + 1) 1 _ 39 H2
      have m1 : w.heap.size + 1 + 1 < w6.heap.size := by omega
      have m2 : ¬ w6.heap.size = w.heap.size := by omega
      have m3 : ¬ w6.heap.size = w.heap.size + 1 + 1 := by omega
      have m4 : ¬ w6.heap.size = blk s := by omega
      have m5 : ¬ blk s = w6.heap.size := by omega
      have m6 : ¬ w.heap.size + 1 + 1 = w6.heap.size := by omega
      have m7 : ¬ blk s = w.heap.size + 1 + 1 := by omega
      have m8 : blk s < w6.heap.size := by omega
      have H2 := Lib.hid H2
      have H0 := Lib.hid H0
      go_wp2_with fail
      go_quiet (fail)
      go_wp2_with fail
      refine bodyPost_ret (v := .agg #[.int .u32 (t.1 : Nat), .int .u32 (t.2 : Nat)]) (by first | (simp [results, Tryd.results18, go_sem, d0, d1]; done) | (simp [results, Tryd.results18, go_sem, d0, d1, m1, m2, m3, m4, m5, m6, m7, m8, n1, n2, n3, n4, n5, n6]; done) | (rw [results, Tryd.results18]; go_simp)) rfl ?_
      exact endP (wa := ((w6.setCell ⟨W.heap.size, 0, none⟩ (.int .u32 (t.1 : Nat))).setCell ⟨W.heap.size, 1, none⟩ (.int .u32 (t.2 : Nat))).drewN nq) HM.out HF.out hs HN.out HP.out ht1 ht2 hL' BW.out (by first | exact belD (Below.refl _ _) | exact belD ((Below.refl _ _).alloc (Nat.le_refl _) _)) (by (repeat' (first | with_reducible exact Below.refl _ _ | with_reducible refine Qd.below_drewN ?_ _ | (with_reducible refine Below.setCell ?_ (show w.heap.size ≤ _ by (first | exact Nat.le_refl _ | (dsimp only; omega))) _) | (with_reducible refine Below.alloc ?_ (by omega) _)))) (by (repeat' (first | with_reducible exact Below.refl _ _ | with_reducible refine Qd.below_drewN ?_ _ | (with_reducible refine Below.setCell ?_ (show w.heap.size ≤ _ by (first | exact Nat.le_refl _ | (dsimp only; omega))) _) | (with_reducible refine Below.alloc ?_ (by omega) _))))
theorem follow (C : Nat → Nat) (k ob : Nat) (blk : Nat → Nat) (hk : k ≤ 4097) (hC : ∀ s, s < k → C s ≤ 65536) (m : Nat) : ∀ (s j : Nat) (t : Nat × Nat) (V : Nat → Nat → Value) (L : Nat × Nat → Option (Nat × Nat)) (w : World), s < k → j < C s →
    SM C k ob blk w V → Links C k V L → Gl w → Lk.Path L (s, j) t m → t.1 < k → t.2 < C t.1 →
    Calls Tryd.prog 18 #[.agg #[.slice (some ⟨ob, 0, none⟩) k k], .agg #[.int .u32 s, .int .u32 j]] w (FP C k ob blk V L s j t m w) := by
  induction m with
  | zero =>
    intro s j t V L w hs hj hM hL hG hP ht1 ht2
    cases hP with
    | done hn => exact follow0 C k ob blk hk hC s j V L w hs hj hM hL hG hn
  | succ m ih =>
    intro s j t V L w hs hj hM hL hG hP ht1 ht2
    cases hP with
    | @step _ x _ _ hn hP' => exact followS C k ob blk hk hC m ih s j t x V L w hs hj hM hL hG hn hP' ht1 ht2
/-- The guard on sizes: what it lets through. -/
def Zb (n l3 : Nat) (S M : Nat → ByteArray) (w : World) (e : Ending) (w' : World) : Prop := ∃ v, e = .returned (.bool v) ∧ (v = true → (∀ i, i < n → (S i).size ≤ 1048576) ∧ ∀ i, i < l3 → (M i).size ≤ 1048576) ∧ w = w'
set_option maxHeartbeats 4000000 in
theorem zb (a0 : Option Addr) (n c0 : Nat) (S : Nat → ByteArray) (a1 : Option Addr) (l1 c1 : Nat) (a2 : Option Addr) (l2 c2 : Nat) (a3 : Option Addr) (l3 c3 : Nat) (M : Nat → ByteArray) (q : Int) (w : World) (h1 : Fsl w a0 n (fun i => .string (S i))) (h2 : Fsl w a3 l3 (fun i => .string (M i)))
    (m0 : n ≤ maxLen) (m1 : l1 ≤ maxLen) (m2 : l2 ≤ maxLen) (m3 : l3 ≤ maxLen) (z1 : ∀ i, i < n → (S i).size ≤ maxLen) (z2 : ∀ i, i < l3 → (M i).size ≤ maxLen) :
    Calls Tryd.prog 4 #[.slice a0 n c0, .slice a1 l1 c1, .slice a2 l2 c2, .slice a3 l3 c3, .int .u32 q] w (Zb n l3 S M w) := by
  unfold maxLen at m0 m1 m2 m3 z1 z2
  have ZS := Lib.hid z1
  have ZM := Lib.hid z2
  have HS := Lib.hid h1
  have HM := Lib.hid h2
  clear z1 z2 h1 h2
  by_cases g1 : (1048576 : Int) < (n : Int)
  · go_enter Tryd.func4, Tryd.ntmps4
    go_wp2_with fail
    go_ret
    exact ⟨_, rfl, (fun e => by cases e), rfl⟩
  go_enter Tryd.func4, Tryd.ntmps4
  go_wp2_with fail
  go_loop [11, 12] (fun z i => ∃ (k : Nat) (m : Int), k ≤ n ∧ i = .int .i64 k ∧ z = .int .i64 m ∧ 0 ≤ m ∧ m ≤ 1048576 ∧ Hid (∀ i, i < k → (S i).size ≤ 1048576)) (fun _ i => n - (intOf i).toNat)
  case atStart => exact ⟨0, _, by omega, rfl, rfl, by omega, by omega, Lib.hid fun i hi => by omega⟩
  case round =>
    obtain ⟨k, m, hk, rfl, rfl, hn0, hn1, HA⟩ := hrel
    by_cases hlt : k < n
    · obtain ⟨b, off, rfl, hlb, hc⟩ := HS.out.at k hlt
      have hs := ZS.out k hlt
      have hk2 : (k : Int) < (n : Int) := by omega
      by_cases l1' : (1048576 : Int) < ((S k).size : Int)
      · go_wp2_with fail
        go_ret
        exact ⟨_, rfl, (fun e => by cases e), rfl⟩
      by_cases l2' : (1048576 : Int) < m + ((S k).size : Int)
      · go_wp2_with fail
        go_ret
        exact ⟨_, rfl, (fun e => by cases e), rfl⟩
      go_wp2_with fail
      go_round
      case rel => exact ⟨k + 1, _, by omega, by go_num, rfl, by omega, by omega, Lib.hid fun i hi => by
        by_cases e : i = k
        · subst e; omega
        · exact HA.out i (by omega)⟩
      case measure => simp [intOf]; omega
    · have HAn : Hid (∀ i, i < n → (S i).size ≤ 1048576) := Lib.hid fun i hi => HA.out i (by omega)
      clear HA
      by_cases g3 : (1048576 : Int) < (l1 : Int)
      · go_wp2_with fail
        go_ret
        exact ⟨_, rfl, (fun e => by cases e), rfl⟩
      by_cases g4 : (1048576 : Int) < m + (l1 : Int)
      · go_wp2_with fail
        go_ret
        exact ⟨_, rfl, (fun e => by cases e), rfl⟩
      by_cases g5 : (1048576 : Int) < (l2 : Int)
      · go_wp2_with fail
        go_ret
        exact ⟨_, rfl, (fun e => by cases e), rfl⟩
      by_cases g6 : (1048576 : Int) < m + (l1 : Int) + (l2 : Int)
      · go_wp2_with fail
        go_ret
        exact ⟨_, rfl, (fun e => by cases e), rfl⟩
      by_cases g7 : (1048576 : Int) < (l3 : Int)
      · go_wp2_with fail
        go_ret
        exact ⟨_, rfl, (fun e => by cases e), rfl⟩
      by_cases g8 : (1048576 : Int) < m + (l1 : Int) + (l2 : Int) + (l3 : Int)
      · go_wp2_with fail
        go_ret
        exact ⟨_, rfl, (fun e => by cases e), rfl⟩
      go_wp2_with fail
      go_loop [11, 13] (fun z i => ∃ (k : Nat) (m : Int), k ≤ l3 ∧ i = .int .i64 k ∧ z = .int .i64 m ∧ 0 ≤ m ∧ m ≤ 1048576 ∧ Hid (∀ i, i < k → (M i).size ≤ 1048576)) (fun _ i => l3 - (intOf i).toNat)
      case atStart => exact ⟨0, _, by omega, rfl, rfl, by omega, by omega, Lib.hid fun i hi => by omega⟩
      case round =>
        obtain ⟨k, m, hk, rfl, rfl, hn0, hn1, HB⟩ := hrel
        by_cases hlt : k < l3
        · obtain ⟨b, off, rfl, hlb, hc⟩ := HM.out.at k hlt
          have hs := ZM.out k hlt
          have hk2 : (k : Int) < (l3 : Int) := by omega
          by_cases l1' : (1048576 : Int) < ((M k).size : Int)
          · go_wp2_with fail
            go_ret
            exact ⟨_, rfl, (fun e => by cases e), rfl⟩
          by_cases l2' : (1048576 : Int) < m + ((M k).size : Int)
          · go_wp2_with fail
            go_ret
            exact ⟨_, rfl, (fun e => by cases e), rfl⟩
          go_wp2_with fail
          go_round
          case rel => exact ⟨k + 1, _, by omega, by go_num, rfl, by omega, by omega, Lib.hid fun i hi => by
            by_cases e : i = k
            · subst e; omega
            · exact HB.out i (by omega)⟩
          case measure => simp [intOf]; omega
        · have HBn : Hid (∀ i, i < l3 → (M i).size ≤ 1048576) := Lib.hid fun i hi => HB.out i (by omega)
          clear HB
          go_wp2_with fail
          go_ret
          exact ⟨_, rfl, fun _ => ⟨HAn.out, HBn.out⟩, rfl⟩
/-- The bytes of strings. -/
def Sb (w : World) (e : Ending) (w' : World) : Prop := ∃ t : Int, e = .returned (.int .i64 t) ∧ 0 ≤ t ∧ t ≤ 3145728 ∧ w = w'
theorem strB (a : Option Addr) (n c : Nat) (S : Nat → ByteArray) (w : World) (h : Fsl w a n (fun i => .string (S i))) (hn : n ≤ 65536) (hz : ∀ i, i < n → (S i).size ≤ 1048576) :
    Calls Tryd.prog 5 #[.slice a n c] w (Sb w) := by
  have HZ := Lib.hid hz
  clear hz
  go_enter Tryd.func5, Tryd.ntmps5
  go_wp2_with fail
  go_loop [3, 4] (fun z i => ∃ (k : Nat) (m : Int), k ≤ n ∧ i = .int .i64 k ∧ z = .int .i64 m ∧ 0 ≤ m ∧ m ≤ 1048576) (fun _ i => n - (intOf i).toNat)
  case atStart => exact ⟨0, 0, by omega, rfl, rfl, by omega, by omega⟩
  case round =>
    obtain ⟨k, m, hk, rfl, rfl, hn0, hn1⟩ := hrel
    by_cases hlt : k < n
    · obtain ⟨b, off, rfl, hlb, hc⟩ := h.at k hlt
      have hs := HZ.out k hlt
      have hk2 : (k : Int) < (n : Int) := by omega
      by_cases l2 : (1048576 : Int) < m + (16 + ((S k).size : Int))
      · go_wp2_with fail
        go_ret
        exact ⟨_, rfl, by omega, by omega, rfl⟩
      go_wp2_with fail
      go_round
      case rel => exact ⟨k + 1, _, by omega, by go_num, rfl, by omega, by omega⟩
      case measure => simp [intOf]; omega
    · obtain rfl : k = n := by omega
      go_wp2_with fail
      go_ret
      exact ⟨_, rfl, hn0, by omega, rfl⟩
/-- The links as a chain. -/
def Lt (T : Nat → Int) : Nat → Option Nat := fun x => if T x < 0 then none else some (T x).toNat
/-- Every link is none or in range. -/
def Vl (n : Nat) (T : Nat → Int) : Prop := ∀ i, i < n → T i = -1 ∨ (0 ≤ T i ∧ T i < n)
def VlR (n : Nat) (T : Nat → Int) (w : World) (e : Ending) (w' : World) : Prop := ∃ v, e = .returned (.bool v) ∧ (v = true → Vl n T) ∧ w = w'
theorem validC (a : Option Addr) (n c : Nat) (T : Nat → Int) (w : World) (h : Fsl w a n (fun i => .int .i32 (T i))) (hn : n ≤ 65536) (hT : ∀ i, i < n → -2147483648 ≤ T i ∧ T i ≤ 2147483647) :
    Calls Tryd.prog 14 #[.slice a n c] w (VlR n T w) := by
  have HT := Lib.hid hT
  clear hT
  go_enter Tryd.func14, Tryd.ntmps14
  go_wp2_with fail
  go_loop [4] (fun i => ∃ k : Nat, k ≤ n ∧ i = .int .i64 k ∧ Hid (∀ i, i < k → T i = -1 ∨ (0 ≤ T i ∧ T i < n))) (fun i => n - (intOf i).toNat)
  case atStart => exact ⟨0, by omega, rfl, Lib.hid fun i hi => absurd hi (Nat.not_lt_zero _)⟩
  case round =>
    obtain ⟨k, hk, rfl, HA⟩ := hrel
    by_cases hlt : k < n
    · obtain ⟨b, off, rfl, hlb, hc⟩ := h.at k hlt
      have hk2 : (k : Int) < (n : Int) := by omega
      obtain ⟨t0, t1⟩ := HT.out k hlt
      have hw2 : IntKind.i64.wrap (T k) = T k := IntWalk.i64_in _ (by omega)
      by_cases a0 : T k = -1
      · have hq : (T k != -1) = false := by simp [a0]
        have hq2 : (T k == -1) = true := by simp [a0]
        have HX := Lib.hid a0
        clear a0
        go_wp2_with fail
        go_round
        case rel => exact ⟨k + 1, by omega, by go_num, Lib.hid fun i hi => by
          by_cases e : i = k
          · subst e; exact .inl HX.out
          · exact HA.out i (by omega)⟩
        case measure => simp [intOf]; omega
      have hq : (T k != -1) = true := by simpa using a0
      have hq2 : (T k == -1) = false := by simpa using a0
      clear a0
      by_cases a1 : T k < 0
      · go_wp2_with fail
        go_ret
        exact ⟨_, rfl, (fun e => by cases e), rfl⟩
      by_cases a2 : (n : Int) ≤ T k
      · go_wp2_with fail
        go_ret
        exact ⟨_, rfl, (fun e => by cases e), rfl⟩
      go_wp2_with fail
      go_round
      case rel => exact ⟨k + 1, by omega, by go_num, Lib.hid fun i hi => by
        by_cases e : i = k
        · subst e; right; omega
        · exact HA.out i (by omega)⟩
      case measure => simp [intOf]; omega
    · go_wp2_with fail
      go_ret
      exact ⟨_, rfl, fun _ => fun i hi => HA.out i (by omega), rfl⟩
/-- The chain from q ends, where the walk says so. -/
def RtR (n : Nat) (T : Nat → Int) (q : Nat) (w : World) (e : Ending) (w' : World) : Prop := ∃ v : Int, e = .returned (.int .i64 v) ∧ (0 ≤ v → ∃ t m, Lk.Path (Lt T) q t m ∧ t < n) ∧ w = w'
theorem rootC (a : Option Addr) (n c : Nat) (T : Nat → Int) (q : Nat) (w : World) (h : Fsl w a n (fun i => .int .i32 (T i))) (hn : n ≤ 65536) (hT : Vl n T) (hq : q < n) :
    Calls Tryd.prog 15 #[.slice a n c, .int .i64 q] w (RtR n T q w) := by
  have HT := Lib.hid hT
  clear hT
  go_enter Tryd.func15, Tryd.ntmps15
  go_wp2_with fail
  go_loop [5, 6] (fun r i => ∃ k x : Nat, k ≤ n + 1 ∧ x < n ∧ i = .int .i64 k ∧ r = .int .i64 x ∧ Hid (∀ t m, Lk.Path (Lt T) x t m → ∃ m', Lk.Path (Lt T) q t m')) (fun _ i => n + 1 - (intOf i).toNat)
  case atStart => exact ⟨0, q, by omega, hq, rfl, rfl, Lib.hid fun t m h => ⟨m, h⟩⟩
  case round =>
    obtain ⟨k, x, hk, hx, rfl, rfl, HP⟩ := hrel
    obtain ⟨b, off, rfl, hlb, hc⟩ := h.at x hx
    have hx2 : (x : Int) < (n : Int) := by omega
    by_cases hlt : k ≤ n
    · have hk2 : (k : Int) ≤ (n : Int) := by omega
      have hv := HT.out x hx
      by_cases a0 : T x = -1
      · have hq2 : (T x == -1) = true := by simp [a0]
        have HX := Lib.hid a0
        clear a0 hv
        go_wp2_with fail
        go_ret
        refine ⟨_, rfl, fun _ => ?_, rfl⟩
        obtain ⟨m', hm'⟩ := HP.out x 0 (.done (by unfold Lt; rw [if_pos (by rw [HX.out]; omega)]))
        exact ⟨x, m', hm', hx⟩
      · have hq2 : (T x == -1) = false := by simpa using a0
        obtain ⟨v0, v1⟩ : 0 ≤ T x ∧ T x < n := by rcases hv with h | h
                                                  · exact absurd h a0
                                                  · exact h
        have hw2 : IntKind.i64.wrap (T x) = T x := IntWalk.i64_in _ (by omega)
        clear a0 hv
        go_wp2_with fail
        go_round
        case rel => exact ⟨k + 1, (T x).toNat, by omega, by omega, by go_num, by rw [Int.toNat_of_nonneg v0], Lib.hid fun t m hp => HP.out t (m + 1) (.step (by unfold Lt; rw [if_neg (by omega)]) hp)⟩
        case measure => simp [intOf]; omega
    · have hk2 : ¬ (k : Int) ≤ (n : Int) := by omega
      go_wp2_with fail
      go_ret
      exact ⟨-1, rfl, fun h => absurd h (by decide), rfl⟩
theorem ci32_info : (Tryd.prog.info? 21).map (fun i => (i.zero, i.size, i.bytes)) = some (some (.int .i32 0), 1, 4) := by kernel_rfl
theorem ci32 (a : Option Addr) (len cap : Nat) (S : Nat → Int) (w : World) (h : Fsl w a len (fun i => .int .i32 (S i))) (hlen : len ≤ 137438953472) :
    Calls Tryd.prog 8 #[.slice a len cap] w (Cop w a len 21 (fun i => .int .i32 (S i))) := by
  have hnil : ∀ w : World, (binOp .eql 23 (.slice a len cap) (.slice none 0 0)).run Tryd.prog w = .ok (.bool a.isNone) w := fun w => Lib.run_eql_slice_nil w 23 21 _ _ _ _ _ Tryd.underlying23
  have hmk := run_make_one (P := Tryd.prog) Tryd.underlying23 ci32_info rfl (by omega) len hlen
  cases a with
  | none =>
    have H := Lib.hid (Cop.nil (t := 21) h)
    go_enter Tryd.func8, Tryd.ntmps8
    go_wp2
    go_ret
    exact H.out
  | some x =>
    go_enter Tryd.func8, Tryd.ntmps8
    go_wp2
    go_loopw [4] (fun i wr => ∃ k : Nat, k ≤ len ∧ i = .int .i64 k ∧ Fblk wr w.heap.size 21 len (parV (fun i => .int .i32 (S i)) (.int .i32 0) k) ∧ Below w.heap.size w wr) (fun i _ => len - (intOf i).toNat)
    case atStart => exact ⟨0, by omega, rfl, by rw [parV_zero]; exact Fblk.made _ _ _ _, (Below.refl _ _).alloc (Nat.le_refl _) _⟩
    case round =>
      obtain ⟨k, hk, rfl, hb, hl⟩ := hrel
      have HB := Lib.hid hb
      by_cases hlt : k < len
      · obtain ⟨b, off, e, hlb, hc⟩ := h.at k hlt
        injection e with e
        subst e
        have hc' : wr.cell? ⟨b, off + k, none⟩ = some (.int .i32 (S k)) := by rw [hl.cell (p := ⟨b, off + k, none⟩) hlb]; exact hc
        have hd := hb.cell k hlt
        have hz := hb.frozen k
        have hk2 : (k : Int) < (len : Int) := by omega
        clear hc hb
        go_wp2
        go_roundw
        case rel => exact ⟨k + 1, by omega, by go_num, by rw [← parV_set]; exact HB.out.set k _, hl.setCell (Nat.le_refl _) _⟩
        case measure => simp [intOf]; omega
      · obtain rfl : k = len := by omega
        clear hb
        go_wp2
        go_ret
        exact Cop.mk (HB.out.congr fun i hi => by simp [parV, hi]) hl (Nat.le_refl _)
theorem cst_info : (Tryd.prog.info? 9).map (fun i => (i.zero, i.size, i.bytes)) = some (some (.string ⟨#[]⟩), 1, 16) := by kernel_rfl
theorem cst (a : Option Addr) (len cap : Nat) (S : Nat → ByteArray) (w : World) (h : Fsl w a len (fun i => .string (S i))) (hlen : len ≤ 137438953472) :
    Calls Tryd.prog 7 #[.slice a len cap] w (Cop w a len 9 (fun i => .string (S i))) := by
  have hnil : ∀ w : World, (binOp .eql 22 (.slice a len cap) (.slice none 0 0)).run Tryd.prog w = .ok (.bool a.isNone) w := fun w => Lib.run_eql_slice_nil w 22 9 _ _ _ _ _ Tryd.underlying22
  have hmk := run_make_one (P := Tryd.prog) Tryd.underlying22 cst_info rfl (by omega) len hlen
  cases a with
  | none =>
    have H := Lib.hid (Cop.nil (t := 9) h)
    go_enter Tryd.func7, Tryd.ntmps7
    go_wp2
    go_ret
    exact H.out
  | some x =>
    go_enter Tryd.func7, Tryd.ntmps7
    go_wp2
    go_loopw [4] (fun i wr => ∃ k : Nat, k ≤ len ∧ i = .int .i64 k ∧ Fblk wr w.heap.size 9 len (parV (fun i => .string (S i)) (.string ⟨#[]⟩) k) ∧ Below w.heap.size w wr) (fun i _ => len - (intOf i).toNat)
    case atStart => exact ⟨0, by omega, rfl, by rw [parV_zero]; exact Fblk.made _ _ _ _, (Below.refl _ _).alloc (Nat.le_refl _) _⟩
    case round =>
      obtain ⟨k, hk, rfl, hb, hl⟩ := hrel
      have HB := Lib.hid hb
      by_cases hlt : k < len
      · obtain ⟨b, off, e, hlb, hc⟩ := h.at k hlt
        injection e with e
        subst e
        have hc' : wr.cell? ⟨b, off + k, none⟩ = some (.string (S k)) := by rw [hl.cell (p := ⟨b, off + k, none⟩) hlb]; exact hc
        have hd := hb.cell k hlt
        have hz := hb.frozen k
        have hk2 : (k : Int) < (len : Int) := by omega
        clear hc hb
        go_wp2
        go_roundw
        case rel => exact ⟨k + 1, by omega, by go_num, by rw [← parV_set]; exact HB.out.set k _, hl.setCell (Nat.le_refl _) _⟩
        case measure => simp [intOf]; omega
      · obtain rfl : k = len := by omega
        clear hb
        go_wp2
        go_ret
        exact Cop.mk (HB.out.congr fun i hi => by simp [parV, hi]) hl (Nat.le_refl _)
theorem cbl_info : (Tryd.prog.info? 4).map (fun i => (i.zero, i.size, i.bytes)) = some (some (.bool false), 1, 1) := by kernel_rfl
theorem cbl (a : Option Addr) (len cap : Nat) (S : Nat → Bool) (w : World) (h : Fsl w a len (fun i => .bool (S i))) (hlen : len ≤ 137438953472) :
    Calls Tryd.prog 9 #[.slice a len cap] w (Cop w a len 4 (fun i => .bool (S i))) := by
  have hnil : ∀ w : World, (binOp .eql 24 (.slice a len cap) (.slice none 0 0)).run Tryd.prog w = .ok (.bool a.isNone) w := fun w => Lib.run_eql_slice_nil w 24 4 _ _ _ _ _ Tryd.underlying24
  have hmk := run_make_one (P := Tryd.prog) Tryd.underlying24 cbl_info rfl (by omega) len hlen
  cases a with
  | none =>
    have H := Lib.hid (Cop.nil (t := 4) h)
    go_enter Tryd.func9, Tryd.ntmps9
    go_wp2
    go_ret
    exact H.out
  | some x =>
    go_enter Tryd.func9, Tryd.ntmps9
    go_wp2
    go_loopw [4] (fun i wr => ∃ k : Nat, k ≤ len ∧ i = .int .i64 k ∧ Fblk wr w.heap.size 4 len (parV (fun i => .bool (S i)) (.bool false) k) ∧ Below w.heap.size w wr) (fun i _ => len - (intOf i).toNat)
    case atStart => exact ⟨0, by omega, rfl, by rw [parV_zero]; exact Fblk.made _ _ _ _, (Below.refl _ _).alloc (Nat.le_refl _) _⟩
    case round =>
      obtain ⟨k, hk, rfl, hb, hl⟩ := hrel
      have HB := Lib.hid hb
      by_cases hlt : k < len
      · obtain ⟨b, off, e, hlb, hc⟩ := h.at k hlt
        injection e with e
        subst e
        have hc' : wr.cell? ⟨b, off + k, none⟩ = some (.bool (S k)) := by rw [hl.cell (p := ⟨b, off + k, none⟩) hlb]; exact hc
        have hd := hb.cell k hlt
        have hz := hb.frozen k
        have hk2 : (k : Int) < (len : Int) := by omega
        clear hc hb
        go_wp2
        go_roundw
        case rel => exact ⟨k + 1, by omega, by go_num, by rw [← parV_set]; exact HB.out.set k _, hl.setCell (Nat.le_refl _) _⟩
        case measure => simp [intOf]; omega
      · obtain rfl : k = len := by omega
        clear hb
        go_wp2
        go_ret
        exact Cop.mk (HB.out.congr fun i hi => by simp [parV, hi]) hl (Nat.le_refl _)
theorem fsl_chg {S : Nat → Prop} {w w' : World} {a : Option Addr} {l : Nat} {V : Nat → Value} (h : Fsl w a l V) (hc : Chg S w w') (hn : ∀ x, a = some x → 0 < l → ¬ S x.block) : Fsl w' a l V := by
  refine ⟨h.1, fun i hi => ?_⟩
  obtain ⟨b, off, e, hb, hv⟩ := h.2 i hi
  exact ⟨b, off, e, Nat.lt_of_lt_of_le hb hc.size, hc.cell hv (show ¬ S b from hn ⟨b, off, none⟩ e (by omega))⟩

theorem Cop.off {w w' : World} {a : Option Addr} {n : Nat} {t : TypeId} {V : Nat → Value} {e : Ending} (h : Cop w a n t V e w') : ∃ a' c', e = .returned (.slice a' n c') ∧ Fsl w' a' n V ∧ Below w.heap.size w w' ∧ ∀ x, a' = some x → x.block < w'.heap.size := by
  obtain ⟨a', c', rfl, _, hf, hb, _, h2⟩ := h
  refine ⟨a', c', rfl, hf, hb, fun x hx => ?_⟩
  rcases h2 with ⟨rfl, _⟩ | ⟨b, _, rfl, hblk, _⟩
  · cases hx
  · injection hx with hx
    subst hx
    exact hblk.lt

/-- What the shape lets through. -/
def Shape (n l1 l2 l3 : Nat) (T : Nat → Int) (q : Int) : Prop := l1 = n ∧ l2 = n ∧ l3 = n ∧ q < n ∧ Vl n T ∧ ∃ t m, Lk.Path (Lt T) q.toNat t m ∧ t < n
def ShR (n l1 l2 l3 : Nat) (T : Nat → Int) (q : Int) (w : World) (e : Ending) (w' : World) : Prop := ∃ v, e = .returned (.bool v) ∧ (v = true → Shape n l1 l2 l3 T q) ∧ w = w'
set_option maxHeartbeats 2000000 in
theorem shapeC (a0 : Option Addr) (n c0 : Nat) (a1 : Option Addr) (l1 c1 : Nat) (T : Nat → Int) (a2 : Option Addr) (l2 c2 : Nat) (a3 : Option Addr) (l3 c3 : Nat) (q : Int) (w : World) (h : Fsl w a1 l1 (fun i => .int .i32 (T i))) (hT : ∀ i, i < l1 → -2147483648 ≤ T i ∧ T i ≤ 2147483647) (hn : n ≤ 65536) (h1 : l1 ≤ 65536) (h2 : l2 ≤ 65536) (h3 : l3 ≤ 65536) (hq : 0 ≤ q ∧ q ≤ 4294967295) :
    Calls Tryd.prog 6 #[.slice a0 n c0, .slice a1 l1 c1, .slice a2 l2 c2, .slice a3 l3 c3, .int .u32 q] w (ShR n l1 l2 l3 T q w) := by
  obtain ⟨q0, q1⟩ := hq
  obtain ⟨qi, rfl⟩ := Int.eq_ofNat_of_zero_le q0
  by_cases g6 : l1 = n
  case neg =>
    have h6 : ((l1 : Int) != (n : Int)) = true := by simp; omega
    have h6b : ((l1 : Int) == (n : Int)) = false := by simp; omega
    go_enter Tryd.func6, Tryd.ntmps6
    go_wp2_with fail
    go_ret
    exact ⟨_, rfl, (fun e => by cases e), rfl⟩
  subst g6
  by_cases g7 : l2 = l1
  case neg =>
    have h6 : ((l2 : Int) != (l1 : Int)) = true := by simp; omega
    have h6b : ((l2 : Int) == (l1 : Int)) = false := by simp; omega
    go_enter Tryd.func6, Tryd.ntmps6
    go_wp2_with fail
    go_ret
    exact ⟨_, rfl, (fun e => by cases e), rfl⟩
  subst g7
  by_cases g8 : l3 = l2
  case neg =>
    have h6 : ((l3 : Int) != (l2 : Int)) = true := by simp; omega
    have h6b : ((l3 : Int) == (l2 : Int)) = false := by simp; omega
    go_enter Tryd.func6, Tryd.ntmps6
    go_wp2_with fail
    go_ret
    exact ⟨_, rfl, (fun e => by cases e), rfl⟩
  subst g8
  have hw1 : IntKind.i64.wrap (qi : Int) = (qi : Int) := IntWalk.i64_in _ (by omega)
  have hw2 : IntKind.i64.wrap (l3 : Int) = (l3 : Int) := IntWalk.i64_in _ (by omega)
  by_cases g9 : (l3 : Int) ≤ (qi : Int)
  · go_enter Tryd.func6, Tryd.ntmps6
    go_wp2_with fail
    go_ret
    exact ⟨_, rfl, (fun e => by cases e), rfl⟩
  have hql : qi < l3 := by omega
  have H := Lib.hid h
  have HV := Lib.hid (validC a1 l3 c1 T w h hn hT)
  clear h hT
  go_enter Tryd.func6, Tryd.ntmps6
  go_wp2_with fail
  refine HV.out.mono ?_
  rintro e w1 ⟨v, rfl, hv, rfl⟩
  have HL := Lib.hid hv
  clear hv
  cases v
  · go_wp2_with fail
    go_ret
    exact ⟨_, rfl, (fun e => by cases e), rfl⟩
  have HL2 := Lib.hid (HL.out (by first | exact trivial | rfl))
  go_wp2_with fail
  refine (rootC a1 l3 c1 T qi _ H.out hn HL2.out hql).mono ?_
  rintro e w1 ⟨v, rfl, hr, rfl⟩
  by_cases hv0 : 0 ≤ v
  · have HR := Lib.hid (hr hv0)
    go_wp2_with fail
    go_ret
    exact ⟨_, rfl, fun _ => ⟨rfl, rfl, rfl, by omega, HL2.out, HR.out⟩, rfl⟩
  · go_wp2_with fail
    go_ret
    exact ⟨_, rfl, (fun e => by simp at e; omega), rfl⟩
theorem refC (i : Int) (w : World) : Calls Tryd.prog 13 #[.int .u32 i] w fun e w' => e = .returned (.agg #[.int .u32 0, .int .u32 i]) ∧ Below w.heap.size w w' := by
  go_enter Tryd.func13, Tryd.ntmps13
  go_wp2_with fail
  exact bodyPost_ret (v := .agg #[.int .u32 0, .int .u32 i]) (by simp [results, Tryd.results13, go_sem]) rfl ⟨rfl, by (repeat' (first | exact Below.refl _ _ | refine Below.drewR ?_ | (refine Below.alloc ?_ (by simp; omega) _) | (refine Below.alloc ?_ (by simp) _) | (refine Below.setCell ?_ (by simp; omega) _) | (refine Below.setCell ?_ (by simp) _)))⟩
/-- The links, place by place. -/
def LT (T : Nat → Int) : Nat × Nat → Option (Nat × Nat) := fun p => if T p.2 < 0 then none else some (0, (T p.2).toNat)
theorem LT.path {T : Nat → Int} {x r m : Nat} (h : Lk.Path (Lt T) x r m) : Lk.Path (LT T) (0, x) (0, r) m := by
  induction h with
  | @done x hx =>
    refine .done ?_
    unfold Lt at hx
    unfold LT
    by_cases e : T x < 0
    · exact if_pos e
    · rw [if_neg e] at hx; cases hx
  | @step x y t m hx _ ih =>
    refine .step ?_ ih
    unfold Lt at hx
    unfold LT
    by_cases e : T x < 0
    · rw [if_pos e] at hx; cases hx
    · rw [if_neg e] at hx
      injection hx with hx
      subst hx
      exact if_neg e
/-- The row under way: the symbols below k are laid. -/
def Bs (n z : Nat) (S : Nat → ByteArray) (T : Nat → Int) (k : Nat) (w wr : World) : Prop :=
  (∃ V, Fblk wr (z + 1) 53 (n * 10) V ∧ ∀ j, j < k → V (j * 10 + 1) = .string (S j) ∧ V (j * 10 + 2) = (if T j < 0 then .int .u32 4294967295 else .int .u32 0) ∧ V (j * 10 + 3) = (if T j < 0 then .int .u32 4294967295 else .int .u32 (T j))) ∧
    Below w.heap.size w wr ∧ wr.heap[z]? = some (.cells #[.slice none 0 0] 33 (0, 0))
theorem Bs.below {n z : Nat} {S : Nat → ByteArray} {T : Nat → Int} {k : Nat} {w wr w1 : World} (h : Bs n z S T k w wr) (hb : Below wr.heap.size wr w1) : Bs n z S T k w w1 := by
  obtain ⟨⟨V, h1, h2⟩, h3, h4⟩ := h
  exact ⟨⟨V, h1.below hb h1.lt, h2⟩, h3.trans (hb.mono h3.size), (hb.block _ (Array.getElem?_eq_some_iff.1 h4).1).trans h4⟩
theorem Bs.step {n z : Nat} {S : Nat → ByteArray} {T : Nat → Int} {k : Nat} {w wr : World} (h : Bs n z S T k w wr) (hz : w.heap.size ≤ z) {a c d : Value} (ha : a = .string (S k)) (hc : c = (if T k < 0 then .int .u32 4294967295 else .int .u32 0)) (hd : d = (if T k < 0 then .int .u32 4294967295 else .int .u32 (T k))) :
    Bs n z S T (k + 1) w (((wr.setCell ⟨z + 1, k * 10 + 2, none⟩ c).setCell ⟨z + 1, k * 10 + 2 + 1, none⟩ d).setCell ⟨z + 1, k * 10 + 1, none⟩ a) := by
  obtain ⟨⟨V, h1, h2⟩, h3, h4⟩ := h
  refine ⟨⟨_, ((h1.set _ c).set _ d).set _ a, fun j hj => ?_⟩, ((h3.setCell (show w.heap.size ≤ z + 1 by omega) _).setCell (show w.heap.size ≤ z + 1 by omega) _).setCell (show w.heap.size ≤ z + 1 by omega) _, ?_⟩
  · by_cases e : j = k
    · subst e
      refine ⟨?_, ?_, ?_⟩
      · rw [upd_same, ha]
      · rw [upd_other _ _ _ _ (by omega), upd_other _ _ _ _ (by omega), upd_same, hc]
      · rw [upd_other _ _ _ _ (by omega), show j * 10 + 3 = j * 10 + 2 + 1 from rfl, upd_same, hd]
    · obtain ⟨q1, q2, q3⟩ := h2 j (by omega)
      have hu : ∀ y, y < 10 → upd (upd (upd V (k * 10 + 2) c) (k * 10 + 2 + 1) d) (k * 10 + 1) a (j * 10 + y) = V (j * 10 + y) := fun y hy => by
        rw [upd_other _ _ _ _ (by omega), upd_other _ _ _ _ (by omega), upd_other _ _ _ _ (by omega)]
      rw [hu 1 (by omega), hu 2 (by omega), hu 3 (by omega)]
      exact ⟨q1, q2, q3⟩
  · rw [heap_setCell_other _ _ _ _ (by show z ≠ z + 1; omega), heap_setCell_other _ _ _ _ (by show z ≠ z + 1; omega), heap_setCell_other _ _ _ _ (by show z ≠ z + 1; omega)]
    exact h4
def SmR (n : Nat) (S : Nat → ByteArray) (T : Nat → Int) (w : World) (e : Ending) (w' : World) : Prop :=
  ∃ ob blk V, e = .returned (.agg #[.slice (some ⟨ob, 0, none⟩) 1 1]) ∧ SM (fun _ => n) 1 ob blk w' V ∧ Links (fun _ => n) 1 V (LT T) ∧ (∀ j, j < n → V 0 (j * 10 + 1) = .string (S j)) ∧ w.heap.size ≤ blk 0 ∧ w.heap.size ≤ ob ∧ Below w.heap.size w w'
set_option maxHeartbeats 4000000 in
set_option maxRecDepth 100000 in
theorem buildC (a0 : Option Addr) (n c0 : Nat) (S : Nat → ByteArray) (a2 : Option Addr) (c2 : Nat) (T : Nat → Int) (w : World) (h0 : Fsl w a0 n (fun i => .string (S i))) (h2 : Fsl w a2 n (fun i => .int .i32 (T i)))
    (hT : Vl n T) (hn0 : 0 < n) (hn : n ≤ 65536) :
    Calls Tryd.prog 10 #[.slice a2 n c2, .slice a0 n c0, .slice none 0 0] w (SmR n S T w) := by
  obtain ⟨z, bytes, hbz, hz1, hi⟩ := symInfo
  obtain ⟨cs, hcs⟩ : ∃ cs, z.cells = cs := ⟨_, rfl⟩
  have hmk := run_make_many (P := Tryd.prog) Tryd.underlying44 hi hcs hbz n (by omega)
  have H0 := Lib.hid h0
  have H2 := Lib.hid h2
  have HT := Lib.hid hT
  clear hi hcs hbz hz1 h0 h2 hT
  go_enter Tryd.func10, Tryd.ntmps10
  go_wp2_with fail
  go_loopw [8] (fun i wr => ∃ k : Nat, k ≤ n ∧ i = .int .i64 k ∧ Hid (Bs n w.heap.size S T k w wr)) (fun i _ => n - (intOf i).toNat)
  case atStart =>
    refine ⟨0, Nat.zero_le _, rfl, Lib.hid ⟨⟨_, Fblk.madeManyAt (by simp), fun j hj => absurd hj (Nat.not_lt_zero _)⟩, by (repeat' (first | exact Below.refl _ _ | refine Below.drewR ?_ | (refine Below.alloc ?_ (by simp; omega) _) | (refine Below.alloc ?_ (by simp) _) | (refine Below.setCell ?_ (by simp; omega) _) | (refine Below.setCell ?_ (by simp) _))), ?_⟩⟩
    rw [Below.heap_alloc _ _ _ (by simp)]; exact heap_alloc_new _ _
  case round =>
    obtain ⟨k, hk, rfl, HB⟩ := hrel
    by_cases hlt : k < n
    · obtain ⟨b, off, rfl, hb0, d0⟩ := H0.out.at k hlt
      obtain ⟨b2, off2, rfl, hb2, d2⟩ := H2.out.at k hlt
      have hv := HT.out k hlt
      have hk2 : (k : Int) < (n : Int) := by omega
      have hk3 : ¬ (k : Int) < 0 := by omega
      have d2' := (HB.out.2.1.cell (p := ⟨b2, off2 + k, none⟩) hb2).trans d2
      have n0 : ¬ b = w.heap.size + 1 := by omega
      have n2 : ¬ b2 = w.heap.size + 1 := by omega
      have n3 : ¬ w.heap.size + 1 = b2 := by omega
      have n4 : ¬ w.heap.size + 1 = b := by omega
      by_cases hneg : T k = -1
      · have d0' := (HB.out.2.1.cell (p := ⟨b, off + k, none⟩) hb0).trans d0
        obtain ⟨V, hV, _⟩ := HB.out.1
        have s1 := hV.cell (k * 10 + 1) (by omega)
        have s2 := hV.cell (k * 10 + 2) (by omega)
        have s3 := hV.cell (k * 10 + 3) (by omega)
        have f1 := hV.frozen (k * 10 + 1)
        have f2 := hV.frozen (k * 10 + 2)
        have f3 := hV.frozen (k * 10 + 3)
        have hg : (T k == -1) = true := by simp [hneg]
        have HN := Lib.hid (And.intro (show (Value.int .u32 4294967295) = (if T k < 0 then .int .u32 4294967295 else .int .u32 0) by rw [if_pos (by omega)]) (show (Value.int .u32 4294967295) = (if T k < 0 then .int .u32 4294967295 else .int .u32 (T k)) by rw [if_pos (by omega)]))
        clear hneg hv hV
        go_wp2_with fail
        go_roundw
        case rel => exact ⟨k + 1, by omega, by go_num, Lib.hid (HB.out.step (Nat.le_refl _) rfl HN.out.1 HN.out.2)⟩
        case measure => simp [intOf]; omega
      · have hg : (T k == -1) = false := by simpa using hneg
        obtain ⟨v0, v1⟩ : 0 ≤ T k ∧ T k < n := by rcases hv with h | h
                                                  · exact absurd h hneg
                                                  · exact h
        have hw : IntKind.u32.wrap (T k) = T k := by rw [IntKind.wrap_u32]; omega
        have HN := Lib.hid (And.intro (show (Value.int .u32 0) = (if T k < 0 then .int .u32 4294967295 else .int .u32 0) by rw [if_neg (by omega)]) (show (Value.int .u32 (T k)) = (if T k < 0 then .int .u32 4294967295 else .int .u32 (T k)) by rw [if_neg (by omega)]))
        clear hneg hv
        go_wp2_with fail
        refine (refC (T k) _).mono ?_
        rintro e w1 ⟨rfl, hb⟩
        have HB1 := Lib.hid (HB.out.below hb)
        have d0' := (HB1.out.2.1.cell (p := ⟨b, off + k, none⟩) hb0).trans d0
        obtain ⟨V, hV, _⟩ := HB1.out.1
        have s1 := hV.cell (k * 10 + 1) (by omega)
        have s2 := hV.cell (k * 10 + 2) (by omega)
        have s3 := hV.cell (k * 10 + 3) (by omega)
        have f1 := hV.frozen (k * 10 + 1)
        have f2 := hV.frozen (k * 10 + 2)
        have f3 := hV.frozen (k * 10 + 3)
        clear hb hV d2'
        go_wp2_with fail
        go_roundw
        case rel => exact ⟨k + 1, by omega, by go_num, Lib.hid (HB1.out.step (Nat.le_refl _) rfl HN.out.1 HN.out.2)⟩
        case measure => simp [intOf]; omega
    · obtain rfl : k = n := by omega
      have hrow := HB.out.2.2
      have c0 := cellsB (i := 0) hrow rfl
      have cf := frozen_of_row _ w.heap.size 0 _ 33 hrow
      have hsz := HB.out.2.1.size
      have hlt0 := (Array.getElem?_eq_some_iff.1 hrow).1
      go_wp2_with fail
      obtain ⟨V, hV, hV2⟩ := HB.out.1
      have hss : (wr.setCell ⟨w.heap.size, 0, none⟩ (.slice (some ⟨wr.heap.size, 0, none⟩) 1 1)).heap.size = wr.heap.size := by simp [World.setCell]
      have hob : Fblk ((wr.setCell ⟨w.heap.size, 0, none⟩ (.slice (some ⟨wr.heap.size, 0, none⟩) 1 1)).alloc (.cells #[.slice (some ⟨w.heap.size + 1, 0, none⟩) k k] 44)) wr.heap.size 44 1 (fun i => .slice (some ⟨w.heap.size + 1, 0, none⟩) k k) := by
        have h := Fblk.of_cells (wr.setCell ⟨w.heap.size, 0, none⟩ (.slice (some ⟨wr.heap.size, 0, none⟩) 1 1)) 44 #[.slice (some ⟨w.heap.size + 1, 0, none⟩) k k]
        rw [hss] at h
        refine h.congr fun i hi => ?_
        have : i = 0 := by simp at hi; omega
        subst this; rfl
      have hbx : ((wr.setCell ⟨w.heap.size, 0, none⟩ (.slice (some ⟨wr.heap.size, 0, none⟩) 1 1)).alloc (.cells #[.slice (some ⟨w.heap.size + 1, 0, none⟩) k k] 44)).cell? ⟨w.heap.size, 0, none⟩ = some (.slice (some ⟨wr.heap.size, 0, none⟩) 1 1) := by
        have hr := heap_setCell_same _ _ 0 _ _ (.slice (some ⟨wr.heap.size, 0, none⟩) 1 1) hrow
        refine (World.cell?_alloc_lt _ _ _ (by rw [hss]; exact hlt0)).trans ?_
        exact cellsB (i := 0) hr rfl
      have hT := HT.out
      refine bodyPost_ret (v := .agg #[.slice (some ⟨wr.heap.size, 0, none⟩) 1 1]) (by simp [results, Tryd.results10, go_sem, hbx]) rfl ⟨wr.heap.size, fun _ => w.heap.size + 1, fun _ => V, rfl, ⟨hob, fun i _ => (hV.other (by show w.heap.size ≠ w.heap.size + 1; omega) _).alloc _, fun i _ => ⟨by show w.heap.size + 1 ≠ wr.heap.size; have := hV.lt; omega, by show 0 < w.heap.size + 1; omega⟩, fun i j h1 h2 => absurd h2 (by omega)⟩, ?_, fun j hj => (hV2 j hj).1, by show w.heap.size ≤ w.heap.size + 1; omega, hsz, (HB.out.2.1.setCell (Nat.le_refl _) _).alloc (by rw [hss]; exact hsz) _⟩
      intro s j hs hj
      have hs0 : s = 0 := by omega
      subst hs0
      have hj : j < k := hj
      obtain ⟨_, q2, q3⟩ := hV2 j hj
      unfold LT
      by_cases e : T j < 0
      · rw [if_pos e] at q2 q3
        exact .inl ⟨if_pos e, q2, q3⟩
      · rw [if_neg e] at q2 q3
        have ht := hT j hj
        have ht : 0 ≤ T j ∧ T j < k := by omega
        refine .inr ⟨_, if_neg e, by show 0 < 1; omega, by show (T j).toNat < k; omega, q2, ?_⟩
        refine q3.trans ?_
        show Value.int .u32 (T j) = .int .u32 (((T j).toNat : Nat) : Int)
        rw [Int.toNat_of_nonneg (by omega)]
theorem laidOutK : laidOutB Tryd.prog = true := by kernel_rfl
theorem lawRef : Go.WideMaps.KeyLaw Tryd.prog 39 := deep_law_laid laidOutK (m := 3) (by omega) (of_decide_eq_true (by kernel_rfl)) (by kernel_rfl) (by rw [Tryd.underlying39])
theorem KR : Go.Maps.Keyed Tryd.prog 39 := Go.Maps.Keyed.of_law lawRef
theorem keyRef (b : Int) (hb : (Lit.int .u32 b).wf = true) : ∃ l, keyOf Tryd.prog 39 (.agg #[.int .u32 0, .int .u32 b]) = some l := by
  have cR : Tryd.prog.cellsOf 39 = 2 := by kernel_rfl
  have cU : Tryd.prog.cellsOf 25 = 1 := by kernel_rfl
  have kt : Tryd.prog.keyType 39 = true := by kernel_rfl
  have h0 : (Lit.int .u32 0).wf = true := by decide
  have hfm : (Value.agg #[.int .u32 0, .int .u32 b]).formed Tryd.prog 39 = true := by simp [Value.formed, Tryd.underlying39, cR]
  have hs : 0 < Tryd.prog.types.size := of_decide_eq_true (by kernel_rfl)
  obtain ⟨m, hm⟩ : ∃ m, Tryd.prog.types.size = m + 1 := ⟨Tryd.prog.types.size - 1, by omega⟩
  unfold keyOf
  simp only [Tryd.underlying39]
  rw [if_pos (by simp [kt, hfm]), hm]
  simp [Program.keyLits, Tryd.underlying39, Tryd.underlying25, cR, cU, Value.cells, hb, h0]
/-- All values are strings. -/
def Strs (M : Value → Option Value) : Prop := ∀ key v, M key = some v → ∃ s, v = .string s
def MpR (w : World) (e : Ending) (w' : World) : Prop := ∃ mb M, e = .returned (.map (some mb)) ∧ MapIs Tryd.prog 39 w' mb M ∧ Strs M ∧ w.heap.size ≤ mb ∧ Below w.heap.size w w'
set_option maxHeartbeats 4000000 in
set_option maxRecDepth 100000 in
theorem mapC (a0 : Option Addr) (n c0 : Nat) (B : Nat → Bool) (a1 : Option Addr) (c1 : Nat) (S : Nat → ByteArray) (w : World) (h0 : Fsl w a0 n (fun i => .bool (B i))) (h1 : Fsl w a1 n (fun i => .string (S i))) (hn : n ≤ 65536) :
    Calls Tryd.prog 11 #[.slice a0 n c0, .slice a1 n c1] w (MpR w) := by
  have H0 := Lib.hid h0
  have H1 := Lib.hid h1
  clear h0 h1
  have hmm : ∀ w : World, (Instr.makeMap 35 none).run Tryd.prog w = .ok (.map (some w.heap.size)) (w.alloc (.map #[] 0)) := fun w => run_makeMap 35 w
  go_enter Tryd.func11, Tryd.ntmps11
  go_wp2_with fail
  go_loopw [6] (fun i wr => ∃ (k : Nat) (M : Value → Option Value), k ≤ n ∧ i = .int .i64 k ∧ Hid (MapIs Tryd.prog 39 wr w.heap.size M) ∧ Hid (Strs M) ∧ Hid (Below w.heap.size w wr)) (fun i _ => n - (intOf i).toNat)
  case atStart => exact ⟨0, noneM, Nat.zero_le _, rfl, Lib.hid (MapIs.made _ _ _), Lib.hid (fun key v h => by cases h), Lib.hid (by (repeat' (first | exact Below.refl _ _ | refine Below.drewR ?_ | (refine Below.alloc ?_ (by simp; omega) _) | (refine Below.alloc ?_ (by simp) _) | (refine Below.setCell ?_ (by simp; omega) _) | (refine Below.setCell ?_ (by simp) _))))⟩
  case round =>
    obtain ⟨k, M, hk, rfl, HM, HS, HB⟩ := hrel
    by_cases hlt : k < n
    · obtain ⟨b, off, rfl, hb0, d0⟩ := (H0.out.at k hlt)
      obtain ⟨b1, off1, rfl, hb1, d1⟩ := (H1.out.at k hlt)
      have hk2 : (k : Int) < (n : Int) := by omega
      have d0' := (HB.out.cell (p := ⟨b, off + k, none⟩) hb0).trans d0
      have d1' := (HB.out.cell (p := ⟨b1, off1 + k, none⟩) hb1).trans d1
      have hw : IntKind.u32.wrap (k : Int) = (k : Int) := by rw [IntKind.wrap_u32]; omega
      have z0 : b1 < wr.heap.size := by have := HB.out.size; omega
      clear d0 d1
      by_cases hbk : B k = true
      · rw [hbk] at d0'
        have D1 := Lib.hid d1'
        have HKL := Lib.hid (keyRef (k : Int) (by rw [Lit.wf_int_iff, IntKind.min_u32, IntKind.max_u32]; omega))
        have hb1w : b1 ≠ w.heap.size := by omega
        go_wp2_with fail
        go_region_held3 (fun w' => w'.cell? ⟨b1, off1 + k, none⟩ = some (.string (S k)))
          (first | exact d1' | exact g1 | exact (setBlock_cell _ _ _ (by exact hb1w)).trans g1 | assumption)
          (first | (go_at_call 13; refine (refC (k : Int) _).mono ?_; rintro e w1 ⟨rfl, hb⟩; have g1 := (hb.cell (p := ⟨b1, off1 + k, none⟩) z0).trans d1'; have HB1 := Lib.hid hb; clear hb; obtain ⟨kl, hkl⟩ := HKL.out; obtain ⟨o, hrun, hm⟩ := (show MapIs Tryd.prog 39 w1 w.heap.size M from HM.out.drew.below HB1.out HM.out.lt).update KR Tryd.underlying35 hkl (.string (S k)); have HM2 := Lib.hid hm; clear hm hkl))
        go_wp2_with fail
        go_roundw
        case rel => exact ⟨k + 1, _, by omega, by go_num, HM2, Lib.hid (fun key v h => by
          by_cases e : key = .agg #[.int .u32 0, .int .u32 (k : Int)]
          · rw [e, setM_same] at h
            injection h with h
            exact ⟨_, h.symm⟩
          · rw [setM_other _ _ _ _ e] at h
            exact HS.out key v h), Lib.hid (setBlock_below (HB.out.trans ((belD (Below.refl _ _)).trans (HB1.out.mono HB.out.size))) (Nat.le_refl _) o)⟩
        case measure => simp [intOf]; omega
      · have hbf : B k = false := by simpa using hbk
        rw [hbf] at d0'
        go_wp2_with fail
        go_roundw
        case rel => exact ⟨k + 1, M, by omega, by go_num, HM, HS, HB⟩
        case measure => simp [intOf]; omega
    · obtain rfl : k = n := by omega
      go_wp2_with fail
      go_ret
      exact ⟨w.heap.size, M, rfl, HM.out, HS.out, Nat.le_refl _, HB.out⟩
/-- The printer's class: a box of 139 cells. -/
theorem infoP : (Tryd.prog.info? 93).map (fun i => match i.zero with | some (.agg cs) => cs.size | _ => 0) = some 139 := by kernel_rfl
theorem zeroP : ∃ Z : Array Value, (∀ w : World, (zeroValue 93).run Tryd.prog w = .ok (.agg Z) w) ∧ Z.size = 139 := by
  have h := infoP
  cases hi : Tryd.prog.info? 93 with
  | none => rw [hi] at h; cases h
  | some i =>
    rw [hi] at h
    simp only [Option.map_some, Option.some.injEq] at h
    split at h
    · rename_i cs hz
      exact ⟨cs, fun w => by simp [zeroValue, typeInfo, hi, hz], h⟩
    · cases h
/-- The renamer that hands every name back. -/
def Rn (ob : Nat) (w : World) (e : Ending) (w' : World) : Prop := ∃ rb, e = .returned (.iface 95 (.pointer (some ⟨rb, 0, none⟩))) ∧ w.heap.size ≤ rb ∧ w'.cell? ⟨rb, 0, none⟩ = some (.slice (some ⟨ob, 0, none⟩) 1 1) ∧ Below w.heap.size w w'
set_option maxRecDepth 100000 in
theorem renC (ob : Nat) (w : World) : Calls Tryd.prog 16 #[.agg #[.slice (some ⟨ob, 0, none⟩) 1 1]] w (Rn ob w) := by
  go_enter Tryd.func16, Tryd.ntmps16
  go_wp2_with fail
  have hrow := heap_alloc_new (w.alloc (.cells #[.slice (some ⟨ob, 0, none⟩) 1 1] 33)) (.cells #[.slice (some ⟨ob, 0, none⟩) 1 1] 97)
  have he : (w.alloc (.cells #[.slice (some ⟨ob, 0, none⟩) 1 1] 33)).heap.size = w.heap.size + 1 := by simp
  rw [he] at hrow
  exact bodyPost_ret (v := .iface 95 (.pointer (some ⟨w.heap.size + 1, 0, none⟩))) (by simp [results, Tryd.results16, go_sem]) rfl ⟨w.heap.size + 1, rfl, by omega, cellsB (i := 0) hrow rfl, by (repeat' (first | exact Below.refl _ _ | refine Below.drewR ?_ | (refine Below.alloc ?_ (by simp; omega) _) | (refine Below.alloc ?_ (by simp) _) | (refine Below.setCell ?_ (by simp; omega) _) | (refine Below.setCell ?_ (by simp) _)))⟩
/-- What stands while names are asked for. -/
def St (n ob mb xb : Nat) (blk : Nat → Nat) (V : Nat → Nat → Value) (M : Value → Option Value) (a2 : Option Addr) (T : Nat → Int) (w0 w : World) : Prop :=
  (∃ V' L', SM (fun _ => n) 1 ob blk w V' ∧ Links (fun _ => n) 1 V' L' ∧ Lk.Comp (LT T) L' ∧ SameBut V V') ∧ Gl w ∧ MapIs Tryd.prog 39 w mb M ∧ Fsl w a2 n (fun i => .int .i32 (T i)) ∧ w.cell? ⟨xb, 0, none⟩ = some (.slice (some ⟨ob, 0, none⟩) 1 1) ∧ Below w0.heap.size w0 w
/-- What does not change meanwhile. -/
def Ap (n mb xb : Nat) (blk : Nat → Nat) (V : Nat → Nat → Value) (a2 : Option Addr) (S : Nat → ByteArray) (w0 : World) : Prop :=
  w0.heap.size ≤ blk 0 ∧ mb ≠ blk 0 ∧ (∀ x, a2 = some x → x.block ≠ blk 0) ∧ xb ≠ blk 0 ∧ ∀ j, j < n → V 0 (j * 10 + 1) = .string (S j)
def key (r : Nat) : Value := .agg #[.int .u32 0, .int .u32 r]
/-- The name of the chain's end. -/
def nm (M : Value → Option Value) (S : Nat → ByteArray) (r : Nat) : ByteArray := match M (key r) with
  | some (.string s) => s
  | _ => S r
section
variable {n ob mb xb q r : Nat} {blk : Nat → Nat} {V : Nat → Nat → Value} {M : Value → Option Value} {a2 : Option Addr} {S : Nat → ByteArray} {T : Nat → Int} {w0 w w' : World}
theorem St.below (h : St n ob mb xb blk V M a2 T w0 w) (hb : Below w.heap.size w w') : St n ob mb xb blk V M a2 T w0 w' := by
  obtain ⟨⟨V', L', h1, h2, h3, h4⟩, h5, h6, h9, hx, h10⟩ := h
  exact ⟨⟨V', L', h1.keep hb, h2, h3, h4⟩, h5.below hb, h6.below hb h6.lt, h9.below hb, (hb.cell (p := ⟨xb, 0, none⟩) (World.block_lt_of_cell? w _ hx)).trans hx, h10.trans (hb.mono h10.size)⟩
theorem St.blkLt (h : St n ob mb xb blk V M a2 T w0 w) : blk 0 < w.heap.size := by
  obtain ⟨⟨V', L', h1, _⟩, _⟩ := h
  exact (h1.2.1 0 (by omega)).lt
theorem St.keepB (h0 : St n ob mb xb blk V M a2 T w0 w) (h : St n ob mb xb blk V M a2 T w0 w') {w2 : World} (hb : Below w.heap.size w' w2) : St n ob mb xb blk V M a2 T w0 w2 := by
  obtain ⟨⟨V1, L1, k1, _⟩, k5, k6, k9, kx, k10⟩ := h0
  obtain ⟨⟨V', L', h1, h2, h3, h4⟩, h5, h6, h9, hx, h10⟩ := h
  have hz := World.block_lt_of_cell? w _ k5.1
  refine ⟨⟨V', L', h1.keepB k1.1.lt (fun i hi => (k1.2.1 i hi).lt) hb, h2, h3, h4⟩, ⟨(hb.cell (p := ⟨0, 0, none⟩) hz).trans h5.1, (hb.cell (p := ⟨0, 1, none⟩) hz).trans h5.2⟩, h6.below hb k6.lt, ?_, (hb.cell (p := ⟨xb, 0, none⟩) (World.block_lt_of_cell? w _ kx)).trans hx, h10.trans (hb.mono k10.size)⟩
  rcases Nat.eq_zero_or_pos n with e | e
  · subst e; exact ⟨h9.1, fun i hi => absurd hi (Nat.not_lt_zero _)⟩
  · obtain ⟨b, off, e1, hl, _⟩ := k9.at 0 e
    exact h9.belowB (fun x hx => by rw [e1] at hx; injection hx with hx; rw [← hx]; exact hl) hb
theorem St.fol (h : St n ob mb xb blk V M a2 T w0 w) (hA : Ap n mb xb blk V a2 S w0) (hn : n ≤ 65536) (hq : q < n) (hr : r < n) (hp : ∃ m, Lk.Path (Lt T) q r m) :
    Calls Tryd.prog 18 #[.agg #[.slice (some ⟨ob, 0, none⟩) 1 1], .agg #[.int .u32 0, .int .u32 q]] w fun e w' => e = .returned (.agg #[.int .u32 0, .int .u32 r]) ∧ Hid (St n ob mb xb blk V M a2 T w0 w') ∧ Hid (∀ b, b < w.heap.size → b ≠ blk 0 → w'.heap[b]? = w.heap[b]?) ∧ w.heap.size ≤ w'.heap.size := by
  obtain ⟨⟨V', L', h1, h2, h3, h4⟩, h5, h6, h9, hx, h10⟩ := h
  obtain ⟨g2, g1, g5, gx, g6⟩ := hA
  obtain ⟨m, hm⟩ := hp
  obtain ⟨m', hP⟩ := h3.root ⟨m, LT.path hm⟩
  refine (follow (fun _ => n) 1 ob blk (by omega) (fun _ _ => hn) m' 0 q (0, r) V' L' w (by omega) hq h1 h2 h5 hP (by show 0 < 1; omega) hr).mono ?_
  rintro e w' ⟨rfl, V2, L2, b1, b2, b3, _, _, b4, f⟩
  have b6 : Chg (fun b => b = blk 0) w w' := f.mono fun i _ ⟨i', hi', e⟩ => by
    have : i' = 0 := by omega
    rw [e, this]
  exact ⟨rfl, Lib.hid ⟨⟨V2, L2, b1, b2, h3.trans b3, h4.trans b4⟩, h5.chg h1.2.2.1 f, h6.of_block (b6.block mb h6.lt g1), fsl_chg h9 b6 (fun x hx _ => g5 x hx), b6.cell hx gx, h10.trans (b6.below h10.size (fun i hi => by rw [hi]; exact g2))⟩, Lib.hid fun b hb hn => b6.block b hb hn, b6.size⟩
theorem St.get (h : St n ob mb xb blk V M a2 T w0 w) (hA : Ap n mb xb blk V a2 S w0) (hn : n ≤ 65536) (hr : r < n) :
    Calls Tryd.prog 19 #[.agg #[.slice (some ⟨ob, 0, none⟩) 1 1], .agg #[.int .u32 0, .int .u32 r]] w fun e w' => e = .returned (.pointer (some ⟨blk 0, r * 10, none⟩)) ∧ Hid (St n ob mb xb blk V M a2 T w0 w') ∧ w'.cell? ⟨blk 0, r * 10 + 1, none⟩ = some (.string (S r)) ∧ Hid (Below w.heap.size w w') := by
  have h0 := h
  obtain ⟨⟨V', L', h1, h2, h3, h4⟩, _⟩ := h
  refine (getC (fun _ => n) 1 ob blk V' 0 r w h1 (by omega) hr (by omega) hn).mono ?_
  rintro e w' ⟨rfl, hb⟩
  have hc := ((h1.keep hb).2.1 0 (by omega)).cell (r * 10 + 1) (by show r * 10 + 1 < n * 10; omega)
  rw [h4 0 (r * 10 + 1) (by omega) (by omega), hA.2.2.2.2 r hr] at hc
  exact ⟨rfl, Lib.hid (h0.below hb), hc, Lib.hid hb⟩
end
theorem cell_sc2 {w : World} {b o1 o2 c off : Nat} {v1 v2 u : Value} (h : w.cell? ⟨c, off, none⟩ = some u) (hne : c ≠ b) : ((w.setCell ⟨b, o1, none⟩ v1).setCell ⟨b, o2, none⟩ v2).cell? ⟨c, off, none⟩ = some u := by
  rw [World.cell?_setCell_other _ _ _ _ (fun e => by injection e with e; exact hne e.symm), World.cell?_setCell_other _ _ _ _ (fun e => by injection e with e; exact hne e.symm)]
  exact h
/-- The box of the ref behind the old world w: what it holds. -/
theorem rowX {w w' : World} {a b : Value} (h : w'.heap[w.heap.size]? = some (.cells #[a, b] 39 (0, 0))) : w'.cell? ⟨w.heap.size, 0, none⟩ = some a ∧ w'.cell? ⟨w.heap.size, 1, none⟩ = some b ∧ w'.frozen? ⟨w.heap.size, 0, none⟩ = false ∧ w'.frozen? ⟨w.heap.size, 1, none⟩ = false :=
  ⟨cellsB (i := 0) h rfl, cellsB (i := 1) h rfl, frozen_of_row w' _ 0 _ _ h, frozen_of_row w' _ 1 _ _ h⟩
set_option maxHeartbeats 4000000 in
set_option maxRecDepth 100000 in
/-- The renamer's name. -/
theorem nameC (n ob mb xb rb q r : Nat) (blk : Nat → Nat) (V : Nat → Nat → Value) (M : Value → Option Value) (a2 : Option Addr) (S : Nat → ByteArray) (T : Nat → Int) (w0 w : World) (h : St n ob mb xb blk V M a2 T w0 w) (hA : Ap n mb xb blk V a2 S w0) (hn : n ≤ 65536) (hq : q < n) (hr : r < n) (hp : ∃ m, Lk.Path (Lt T) q r m) (hc : w.cell? ⟨rb, 0, none⟩ = some (.slice (some ⟨ob, 0, none⟩) 1 1)) (hrb : rb ≠ blk 0) :
    Calls Tryd.prog 48 #[.pointer (some ⟨rb, 0, none⟩), .agg #[.int .u32 0, .int .u32 q]] w fun e w' => e = .returned (.string (S r)) ∧ St n ob mb xb blk V M a2 T w0 w' ∧ Hid (∀ b, b < w.heap.size → b ≠ blk 0 → w'.heap[b]? = w.heap[b]?) := by
  have HS := Lib.hid h
  have HA := Lib.hid hA
  have HP := Lib.hid hp
  have hl := World.block_lt_of_cell? w _ hc
  have hbl := h.blkLt
  clear h hA hp
  go_enter Tryd.func48, Tryd.ntmps48
  go_wp2_with fail
  have hb0 : Below w.heap.size w (w.alloc (.cells #[.int .u32 0, .int .u32 q] 39)) := (Below.refl _ _).alloc (Nat.le_refl _) _
  have HS1 := Lib.hid (HS.out.below hb0)
  have c0 := (hb0.cell (p := ⟨rb, 0, none⟩) hl).trans hc
  have hrow := heap_alloc_new w (.cells #[.int .u32 0, .int .u32 q] 39)
  obtain ⟨x0, x1, _⟩ := rowX hrow
  have HROW := Lib.hid hrow
  have hxl : w.heap.size < (w.alloc (.cells #[.int .u32 0, .int .u32 q] 39)).heap.size := by simp
  have hrx : rb ≠ w.heap.size := by have : rb < w.heap.size := hl; omega
  have hbx : w.heap.size ≠ blk 0 := by omega
  have HBW := Lib.hid hb0
  clear hb0 hrow hc
  generalize w.alloc (.cells #[.int .u32 0, .int .u32 q] 39) = W at HS1 HBW c0 x0 x1 HROW hxl ⊢
  go_still_tail 5, (by kernel_rfl)
  repeat still_step
  try refine wpStill_nil ?_
  go_wp2_with fail
  refine (St.fol (show St n ob mb xb blk V M a2 T w0 W.drew from HS1.out.below (belD (Below.refl _ _))) HA.out hn hq hr HP.out).mono ?_
  rintro e w6 ⟨rfl, HS6, hk, hz6⟩
  have g0 := (World.cell?_of_block (a := ⟨rb, 0, none⟩) (hk.out rb (by have := World.block_lt_of_cell? _ _ c0; exact this) hrb)).trans c0
  have hrow6 := Lib.hid ((hk.out w.heap.size hxl hbx).trans HROW.out)
  obtain ⟨y0, y1, z0, z1⟩ := rowX hrow6.out
  go_wp2_with fail
  have hb67 := (((Below.refl w.heap.size w6).setCell (p := ⟨w.heap.size, 0, none⟩) (Nat.le_refl _) (.int .u32 0)).setCell (p := ⟨w.heap.size, 1, none⟩) (Nat.le_refl _) (.int .u32 r))
  have HB67 := Lib.hid hb67
  clear hb67
  have HS7 := Lib.hid (HS.out.keepB HS6.out (((Below.refl w.heap.size w6).setCell (p := ⟨w.heap.size, 0, none⟩) (Nat.le_refl _) (.int .u32 0)).setCell (p := ⟨w.heap.size, 1, none⟩) (Nat.le_refl _) (.int .u32 r)))
  have k0 := cell_sc2 (o1 := 0) (o2 := 1) (v1 := .int .u32 0) (v2 := .int .u32 r) g0 hrx
  have hr7 := heap_setCell_same _ _ 1 _ _ (.int .u32 r) (heap_setCell_same _ _ 0 _ _ (.int .u32 0) hrow6.out)
  obtain ⟨k1, k2, _⟩ := rowX (w := w) hr7
  have k1 : _ = some (Value.int .u32 0) := k1
  have k2 : _ = some (Value.int .u32 (r : Int)) := k2
  clear hr7 hrow6 y0 y1 z0 z1 g0 c0 x0 x1 HROW HS1 HS6 hxl
  generalize (w6.setCell ⟨w.heap.size, 0, none⟩ (.int .u32 0)).setCell ⟨w.heap.size, 1, none⟩ (.int .u32 r) = W7 at HS7 HB67 k0 k1 k2 ⊢
  go_still_tail 5, (by kernel_rfl)
  repeat still_step
  try refine wpStill_nil ?_
  go_wp2_with fail
  refine (St.get (show St n ob mb xb blk V M a2 T w0 W7.drew from HS7.out.below (belD (Below.refl _ _))) HA.out hn hr).mono ?_
  rintro e w8 ⟨rfl, HS8, hst, hb8⟩
  go_wp2_with fail
  go_ret
  refine ⟨rfl, HS8.out, Lib.hid fun b hb hn => ?_⟩
  have hbW : b < W.heap.size := Nat.lt_of_lt_of_le hb HBW.out.size
  have hz := HB67.out.size
  exact ((hb8.out.block b (show b < W7.heap.size by have : W.heap.size ≤ w6.heap.size := hz6; omega)).trans (HB67.out.block b hb)).trans ((hk.out b hbW hn).trans (HBW.out.block b hb))
/-- The printer's cells that are read. -/
def Pc (ob mb pb rb : Nat) (w : World) : Prop := w.cell? ⟨pb, 0, none⟩ = some (.slice (some ⟨ob, 0, none⟩) 1 1) ∧ w.cell? ⟨pb, 2, none⟩ = some (.iface 95 (.pointer (some ⟨rb, 0, none⟩))) ∧ w.cell? ⟨pb, 15, none⟩ = some (.map (some mb)) ∧ w.cell? ⟨rb, 0, none⟩ = some (.slice (some ⟨ob, 0, none⟩) 1 1)
theorem Pc.of {ob mb pb rb : Nat} {w w' : World} (h : Pc ob mb pb rb w) (hp : w'.heap[pb]? = w.heap[pb]?) (hr : w'.heap[rb]? = w.heap[rb]?) : Pc ob mb pb rb w' :=
  ⟨(World.cell?_of_block hp).trans h.1, (World.cell?_of_block hp).trans h.2.1, (World.cell?_of_block hp).trans h.2.2.1, (World.cell?_of_block hr).trans h.2.2.2⟩
theorem Pc.lt {ob mb pb rb : Nat} {w : World} (h : Pc ob mb pb rb w) : pb < w.heap.size ∧ rb < w.heap.size := ⟨World.block_lt_of_cell? w _ h.1, World.block_lt_of_cell? w _ h.2.2.2⟩
theorem Pc.below {ob mb pb rb : Nat} {w w' : World} (h : Pc ob mb pb rb w) (hb : Below w.heap.size w w') : Pc ob mb pb rb w' := h.of (hb.block pb h.lt.1) (hb.block rb h.lt.2)
set_option maxHeartbeats 4000000 in
set_option maxRecDepth 100000 in
/-- The mangled name. -/
theorem mangC (n ob mb xb pb rb q r : Nat) (blk : Nat → Nat) (V : Nat → Nat → Value) (M : Value → Option Value) (a2 : Option Addr) (S : Nat → ByteArray) (T : Nat → Int) (w0 w : World) (h : St n ob mb xb blk V M a2 T w0 w) (hA : Ap n mb xb blk V a2 S w0) (hM : Strs M) (hn : n ≤ 65536) (hq : q < n) (hr : r < n) (hp : ∃ m, Lk.Path (Lt T) q r m) (hc : Pc ob mb pb rb w) (hpb : pb ≠ blk 0) (hrb : rb ≠ blk 0) :
    Calls Tryd.prog 17 #[.pointer (some ⟨pb, 0, none⟩), .agg #[.int .u32 0, .int .u32 q]] w fun e w' => e = .returned (.string (nm M S r)) ∧ St n ob mb xb blk V M a2 T w0 w' := by
  have HS := Lib.hid h
  have HA := Lib.hid hA
  have HP := Lib.hid hp
  have HC := Lib.hid hc
  obtain ⟨hl, hlr⟩ := hc.lt
  have hbl := h.blkLt
  obtain ⟨kl, hkl⟩ := keyRef (r : Int) (by rw [Lit.wf_int_iff, IntKind.min_u32, IntKind.max_u32]; omega)
  have HKL := Lib.hid hkl
  have HSTR := Lib.hid hM
  clear h hA hp hc hkl hM
  go_enter Tryd.func17, Tryd.ntmps17
  go_wp2_with fail
  have hb0 : Below w.heap.size w (w.alloc (.cells #[.int .u32 0, .int .u32 q] 39)) := (Below.refl _ _).alloc (Nat.le_refl _) _
  have HS1 := Lib.hid (HS.out.below hb0)
  have HC1 := Lib.hid (HC.out.below hb0)
  have c0 := HC1.out.1
  have hrow := heap_alloc_new w (.cells #[.int .u32 0, .int .u32 q] 39)
  obtain ⟨x0, x1, _⟩ := rowX hrow
  have HROW := Lib.hid hrow
  have hxl : w.heap.size < (w.alloc (.cells #[.int .u32 0, .int .u32 q] 39)).heap.size := by simp
  have hrx : pb ≠ w.heap.size := by omega
  have hbx : w.heap.size ≠ blk 0 := by omega
  clear hb0 hrow
  generalize w.alloc (.cells #[.int .u32 0, .int .u32 q] 39) = W at HS1 HC1 c0 x0 x1 HROW hxl ⊢
  go_still_tail 5, (by kernel_rfl)
  repeat still_step
  try refine wpStill_nil ?_
  go_wp2_with fail
  refine (St.fol (show St n ob mb xb blk V M a2 T w0 W.drew from HS1.out.below (belD (Below.refl _ _))) HA.out hn hq hr HP.out).mono ?_
  rintro e w6 ⟨rfl, HS6, hk, hz6⟩
  have HC6 := Lib.hid (HC1.out.of (hk.out pb (show pb < W.heap.size from HC1.out.lt.1) hpb) (hk.out rb (show rb < W.heap.size from HC1.out.lt.2) hrb))
  have g0 := HC6.out.1
  have hrow6 := Lib.hid ((hk.out w.heap.size hxl hbx).trans HROW.out)
  obtain ⟨y0, y1, z0, z1⟩ := rowX hrow6.out
  go_wp2_with fail
  have hb67 := (((Below.refl w.heap.size w6).setCell (p := ⟨w.heap.size, 0, none⟩) (Nat.le_refl _) (.int .u32 0)).setCell (p := ⟨w.heap.size, 1, none⟩) (Nat.le_refl _) (.int .u32 r))
  have HS7 := Lib.hid (HS.out.keepB HS6.out hb67)
  have HC7 := Lib.hid (HC6.out.of (hb67.block pb hl) (hb67.block rb hlr))
  have hr7 := heap_setCell_same _ _ 1 _ _ (.int .u32 r) (heap_setCell_same _ _ 0 _ _ (.int .u32 0) hrow6.out)
  obtain ⟨k1, k2, _⟩ := rowX (w := w) hr7
  have k1 : _ = some (Value.int .u32 0) := k1
  have k2 : _ = some (Value.int .u32 (r : Int)) := k2
  clear hr7 hrow6 y0 y1 z0 z1 g0 c0 x0 x1 HROW HS1 HS6 HC1 HC6 hxl hb67
  generalize (w6.setCell ⟨w.heap.size, 0, none⟩ (.int .u32 0)).setCell ⟨w.heap.size, 1, none⟩ (.int .u32 r) = W7 at HS7 HC7 k1 k2 ⊢
  obtain ⟨k0, k3, k4, k5⟩ := HC7.out
  have HMI := Lib.hid HS7.out.2.2.1
  have HPR := Lib.hid (Lk.Path.done (L := Lt T) (r := r) (by obtain ⟨m, hm⟩ := HP.out; exact hm.last))
  rcases hMk : M (key r) with _ | v
  · have hlk : ∀ k, (Instr.lookup 35 (.map (some mb)) (.agg #[.int .u32 0, .int .u32 r]) true).run Tryd.prog (W7.drewN k) = .ok (.tuple #[.string ⟨#[]⟩, .bool false]) (W7.drewN k) := fun k => by
      have hz : (zeroValue 9).run Tryd.prog (W7.drewN k) = .ok (.string ⟨#[]⟩) (W7.drewN k) := by kernel_rfl
      have := (show MapIs Tryd.prog 39 (W7.drewN k) mb M from HMI.out).look_no KR Tryd.underlying35 HKL.out hMk hz true
      simpa using this
    have hlk0 := hlk 0
    have hmeth : ∀ w : World, (method 317 95 (.pointer (some ⟨rb, 0, none⟩)) "NameForSymbol").run Tryd.prog w = .ok (48, .pointer (some ⟨rb, 0, none⟩)) w := fun w => by kernel_rfl
    have HNM := Lib.hid (show nm M S r = S r by unfold nm; rw [hMk])
    clear hMk
    go_quiet (fail)
    go_wp2_with fail
    go_region_held3 (fun w' => w'.cell? ⟨pb, 2, none⟩ = some (.iface 95 (.pointer (some ⟨rb, 0, none⟩))) ∧ w'.cell? ⟨w.heap.size, 0, none⟩ = some (.int .u32 0) ∧ w'.cell? ⟨w.heap.size, 1, none⟩ = some (.int .u32 r))
      (first | exact ⟨k3, k1, k2⟩ | exact ⟨g3, g1, g2⟩ | assumption)
      (first | (go_at_call 48; refine (nameC n ob mb xb rb r r blk V M a2 S T w0 (W7.drewN (nq + 1)) (HS7.out.below (Qd.below_drewN (Below.refl _ _) _)) HA.out hn hr hr ⟨0, HPR.out⟩ k5 hrb).mono ?_; rintro e w8 ⟨rfl, hs8, hk8⟩; have HS8 := Lib.hid hs8; clear hs8; have g3 := (World.cell?_of_block (a := ⟨pb, 2, none⟩) (hk8.out pb HC7.out.lt.1 hpb)).trans k3; have g1 := (World.cell?_of_block (a := ⟨w.heap.size, 0, none⟩) (hk8.out w.heap.size (World.block_lt_of_cell? W7 _ k1) hbx)).trans k1; have g2 := (World.cell?_of_block (a := ⟨w.heap.size, 1, none⟩) (hk8.out w.heap.size (World.block_lt_of_cell? W7 _ k1) hbx)).trans k2))
    go_wp2_with fail
    go_ret
    exact ⟨by rw [HNM.out]; rfl, HS8.out⟩
  · obtain ⟨s, rfl⟩ := HSTR.out _ _ hMk
    have hlk : ∀ k, (Instr.lookup 35 (.map (some mb)) (.agg #[.int .u32 0, .int .u32 r]) true).run Tryd.prog (W7.drewN k) = .ok (.tuple #[.string s, .bool true]) (W7.drewN k) := fun k => by
      have := (show MapIs Tryd.prog 39 (W7.drewN k) mb M from HMI.out).look KR Tryd.underlying35 HKL.out hMk true
      simpa using this
    have hlk0 := hlk 0
    have HNM := Lib.hid (show nm M S r = s by unfold nm; rw [hMk])
    clear hMk
    go_quiet (fail)
    go_wp2_with fail
    go_ret
    exact ⟨by rw [HNM.out]; rfl, HS7.out.below (Qd.below_drewN (Below.refl _ _) _)⟩
theorem cell_nal {w : World} {c off : Nat} {u : Value} (h : w.cell? ⟨c, off, none⟩ = some u) (o : Obj) : (w.alloc o).cell? ⟨c, off, none⟩ = some u := by
  rw [World.cell?_alloc_lt _ _ _ (World.block_lt_of_cell? w _ h)]; exact h
theorem infoO : (Tryd.prog.info? 70).map (fun i => match i.zero with | some (.agg cs) => cs.size | _ => 0) = some 25 := by kernel_rfl
theorem zeroO : ∃ Z : Array Value, (∀ w : World, (zeroValue 70).run Tryd.prog w = .ok (.agg Z) w) ∧ Z.size = 25 := by
  have h := infoO
  cases hi : Tryd.prog.info? 70 with
  | none => rw [hi] at h; cases h
  | some i =>
    rw [hi] at h
    simp only [Option.map_some, Option.some.injEq] at h
    split at h
    · rename_i cs hz
      exact ⟨cs, fun w => by simp [zeroValue, typeInfo, hi, hz], h⟩
    · cases h
theorem ov_list (vs : List Value) : ∀ (k : Nat) (base : Array Value), ((vs.zipIdx k).foldl (fun cs x => cs.setIfInBounds (12 + x.2) x.1) base).size = base.size ∧ ∀ i, ((vs.zipIdx k).foldl (fun cs x => cs.setIfInBounds (12 + x.2) x.1) base)[i]? = if 12 + k ≤ i ∧ i < 12 + k + vs.length ∧ i < base.size then vs[i - (12 + k)]? else base[i]? := by
  induction vs with
  | nil => intro k base; refine ⟨rfl, fun i => ?_⟩; rw [if_neg (by simp; omega)]; rfl
  | cons v r ih =>
    intro k base
    rw [List.zipIdx_cons, List.foldl_cons]
    obtain ⟨h1, h2⟩ := ih (k + 1) (base.setIfInBounds (12 + k) v)
    refine ⟨by rw [h1]; simp, fun i => ?_⟩
    rw [h2, Array.size_setIfInBounds]
    by_cases e : i = 12 + k
    · subst e
      rw [if_neg (by omega)]
      by_cases hb : 12 + k < base.size
      · rw [if_pos ⟨by omega, by simp, hb⟩]
        simp [hb]
      · rw [if_neg (by omega)]
        simp [hb]
    · rw [Array.getElem?_setIfInBounds_ne (by omega)]
      by_cases hc : 12 + (k + 1) ≤ i ∧ i < 12 + (k + 1) + r.length ∧ i < base.size
      · rw [if_pos hc, if_pos ⟨by omega, by simp; omega, hc.2.2⟩, show i - (12 + k) = (i - (12 + (k + 1))) + 1 by omega, List.getElem?_cons_succ]
      · rw [if_neg hc, if_neg (by simp; omega)]
theorem ov_get (Y base : Array Value) (n : Nat) (hn : n = Y.size) (i : Nat) : (Array.foldl (fun cs x => cs.setIfInBounds (12 + x.snd) x.fst) base Y.zipIdx 0 n)[i]? = if 12 ≤ i ∧ i < 12 + Y.size ∧ i < base.size then Y[i - 12]? else base[i]? := by
  have e : n = Y.zipIdx.size := by simp [hn]
  rw [e, ← Array.foldl_toList, Array.toList_zipIdx]
  have := (ov_list Y.toList 0 base).2 i
  simpa using this
set_option maxHeartbeats 4000000 in
set_option maxRecDepth 100000 in
/-- The mangled name through its door. -/
theorem askC (n ob mb xb q r : Nat) (blk : Nat → Nat) (V : Nat → Nat → Value) (M : Value → Option Value) (a2 : Option Addr) (S : Nat → ByteArray) (T : Nat → Int) (w0 w : World) (h : St n ob mb xb blk V M a2 T w0 w) (hA : Ap n mb xb blk V a2 S w0) (hM : Strs M) (hn : n ≤ 65536) (hq : q < n) (hr : r < n) (hp : ∃ m, Lk.Path (Lt T) q r m) :
    Calls Tryd.prog 12 #[.agg #[.slice (some ⟨ob, 0, none⟩) 1 1], .map (some mb), .agg #[.int .u32 0, .int .u32 q]] w fun e w' => e = .returned (.string (nm M S r)) ∧ St n ob mb xb blk V M a2 T w0 w' := by
  obtain ⟨Z, hz, hsz⟩ := zeroP
  obtain ⟨Y, hy, hyz⟩ := zeroO
  have hne : ¬ Z = #[] := by intro e; rw [e] at hsz; cases hsz
  have hne2 : ¬ Y = #[] := by intro e; rw [e] at hyz; cases hyz
  have HS := Lib.hid h
  have HA := Lib.hid hA
  have HP := Lib.hid hp
  have HM := Lib.hid hM
  have hbl := h.blkLt
  clear h hA hp hM
  go_enter Tryd.func12, Tryd.ntmps12
  go_wp2_with fail
  go_outline
  have hb0 : Below w.heap.size w ((w.alloc (.cells #[.slice (some ⟨ob, 0, none⟩) 1 1] 33)).alloc (.cells #[.int .u32 0, .int .u32 q] 39)) := by (repeat' (first | exact Below.refl _ _ | refine Below.drewR ?_ | (refine Below.alloc ?_ (by simp; omega) _) | (refine Below.alloc ?_ (by simp) _) | (refine Below.setCell ?_ (by simp; omega) _) | (refine Below.setCell ?_ (by simp) _)))
  have r0 := heap_alloc_new w (.cells #[.slice (some ⟨ob, 0, none⟩) 1 1] 33)
  have r1 := heap_alloc_new (w.alloc (.cells #[.slice (some ⟨ob, 0, none⟩) 1 1] 33)) (.cells #[.int .u32 0, .int .u32 q] 39)
  have he : (w.alloc (.cells #[.slice (some ⟨ob, 0, none⟩) 1 1] 33)).heap.size = w.heap.size + 1 := by simp
  rw [he] at r1
  have r0' := (Below.heap_alloc (w.alloc (.cells #[.slice (some ⟨ob, 0, none⟩) 1 1] 33)) (.cells #[.int .u32 0, .int .u32 q] 39) w.heap.size (by simp)).trans r0
  have c0 := cellsB (i := 0) r0' rfl
  have x0 := cellsB (i := 0) r1 rfl
  have x1 := cellsB (i := 1) r1 rfl
  have c0 : _ = some (Value.slice (some ⟨ob, 0, none⟩) 1 1) := c0
  have x0 : _ = some (Value.int .u32 0) := x0
  have x1 : _ = some (Value.int .u32 (q : Int)) := x1
  have HS1 := Lib.hid (HS.out.below hb0)
  clear hb0 r0 r1 he r0'
  generalize (w.alloc (.cells #[.slice (some ⟨ob, 0, none⟩) 1 1] 33)).alloc (.cells #[.int .u32 0, .int .u32 q] 39) = W at HS1 c0 x0 x1 ⊢
  go_region_held3 (fun w' => w'.cell? ⟨w.heap.size, 0, none⟩ = some (.slice (some ⟨ob, 0, none⟩) 1 1))
    (first | exact c0 | exact g0 | exact cell_nal g0 _ | assumption)
    (first | (go_at_call 16; refine (renC ob W.drew).mono ?_; rintro e w6 ⟨rb, rfl, hrb, hrc, hb6⟩; have g0 := (hb6.cell (p := ⟨w.heap.size, 0, none⟩) (World.block_lt_of_cell? W _ c0)).trans c0; have HB6 := Lib.hid hb6; clear hb6))
  have hC := fun i => ov_get (Y.setIfInBounds 3 (.map (some mb))) ((Z.setIfInBounds 0 (.slice (some ⟨ob, 0, none⟩) 1 1)).setIfInBounds 2 (.iface 95 (.pointer (some ⟨rb, 0, none⟩)))) 25 (by simp [hyz]) i
  have q0 := hC 0
  have q2 := hC 2
  have q15 := hC 15
  rw [if_neg (by omega)] at q0 q2
  rw [if_pos (by simp [hyz, hsz])] at q15
  simp [hsz] at q0 q2
  simp [hyz] at q15
  clear hC
  generalize Array.foldl (fun (cs : Array Value) (x : Value × Nat) => cs.setIfInBounds (12 + x.snd) x.fst) ((Z.setIfInBounds 0 (.slice (some ⟨ob, 0, none⟩) 1 1)).setIfInBounds 2 (.iface 95 (.pointer (some ⟨rb, 0, none⟩)))) (Y.setIfInBounds 3 (.map (some mb))).zipIdx 0 25 = C at q0 q2 q15 ⊢
  have hb7 : Below W.heap.size W (w6.alloc (.cells C 93)) := ((belD (Below.refl _ _)).trans HB6.out).alloc (show W.heap.size ≤ w6.heap.size from HB6.out.size) _
  have hr7 := heap_alloc_new w6 (.cells C 93)
  have HPC := Lib.hid (show Pc ob mb w6.heap.size rb (w6.alloc (.cells C 93)) from ⟨cellsB (i := 0) hr7 q0, cellsB (i := 2) hr7 q2, cellsB (i := 15) hr7 q15, cell_nal hrc _⟩)
  have x0 := (hb7.cell (p := ⟨w.heap.size + 1, 0, none⟩) (World.block_lt_of_cell? W _ x0)).trans x0
  have x1 := (hb7.cell (p := ⟨w.heap.size + 1, 1, none⟩) (World.block_lt_of_cell? W _ x1)).trans x1
  have HS7 := Lib.hid (HS1.out.below hb7)
  have hWl := HS1.out.blkLt
  have hpb : w6.heap.size ≠ blk 0 := by have : W.heap.size ≤ w6.heap.size := HB6.out.size; omega
  have hrb2 : rb ≠ blk 0 := by have : W.heap.size ≤ rb := hrb; omega
  clear hb7 hr7 q0 q2 q15 hrc hrb g0 c0 HB6 hz hy hne hne2 HS1
  generalize w6.heap.size = pb at HPC hpb ⊢
  generalize w6.alloc (.cells C 93) = W7 at HPC x0 x1 HS7 ⊢
  go_wp2_with fail
  refine (mangC n ob mb xb pb rb q r blk V M a2 S T w0 _ HS7.out HA.out HM.out hn hq hr HP.out HPC.out hpb hrb2).mono ?_
  rintro e w8 ⟨rfl, hs8⟩
  have HS8 := Lib.hid hs8
  clear hs8
  go_wp2_with fail
  go_ret
  exact ⟨rfl, HS8.out⟩
set_option maxHeartbeats 8000000 in
set_option maxRecDepth 100000 in
theorem main (a0 : Option Addr) (n c0 : Nat) (S : Nat → ByteArray) (a1 : Option Addr) (l1 c1 : Nat) (T : Nat → Int) (a2 : Option Addr) (l2 c2 : Nat) (B : Nat → Bool) (a3 : Option Addr) (l3 c3 : Nat) (G : Nat → ByteArray) (q : Int) (w : World)
    (h0 : Fsl w a0 n (fun i => .string (S i))) (hS : ∀ i, i < n → (S i).size ≤ maxLen) (h1 : Fsl w a1 l1 (fun i => .int .i32 (T i))) (hT : ∀ i, i < l1 → -2147483648 ≤ T i ∧ T i ≤ 2147483647)
    (h2 : Fsl w a2 l2 (fun i => .bool (B i))) (h3 : Fsl w a3 l3 (fun i => .string (G i))) (hGs : ∀ i, i < l3 → (G i).size ≤ maxLen) (hq : 0 ≤ q ∧ q ≤ 4294967295) (hG : Gl w) (m0 : n ≤ maxLen) (m1 : l1 ≤ maxLen) (m2 : l2 ≤ maxLen) (m3 : l3 ≤ maxLen) :
    Calls Tryd.prog 3 #[.slice a0 n c0, .slice a1 l1 c1, .slice a2 l2 c2, .slice a3 l3 c3, .int .u32 q] w fun e w' => e = .returned (.bool true) ∧ Below w.heap.size w w' := by
  have HZ := Lib.hid (zb a0 n c0 S a1 l1 c1 a2 l2 c2 a3 l3 c3 G q w h0 h3 m0 m1 m2 m3 hS hGs)
  have H0 := Lib.hid h0
  have H1 := Lib.hid h1
  have H2 := Lib.hid h2
  have H3 := Lib.hid h3
  have HT0 := Lib.hid hT
  have HG := Lib.hid hG
  have HQ := Lib.hid hq
  unfold maxLen at m0 m1 m2 m3
  clear h0 h1 h2 h3 hS hT hG hGs hq
  go_enter Tryd.func3, Tryd.ntmps3
  go_wp2_with fail
  refine HZ.out.mono ?_
  rintro e w1 ⟨v, rfl, hz, rfl⟩
  have hz := Lib.hid hz
  cases v
  · go_wp2_with fail
    go_ret
    exact ⟨rfl, Below.refl _ _⟩
  have hzz := Lib.hid (hz.out (by first | exact trivial | rfl))
  by_cases g0 : (65536 : Int) < (n : Int)
  · go_wp2_with fail
    all_goals
      go_ret
      exact ⟨rfl, Below.refl _ _⟩
  by_cases g1 : (65536 : Int) < (l1 : Int)
  · go_wp2_with fail
    all_goals
      go_ret
      exact ⟨rfl, Below.refl _ _⟩
  by_cases g2 : (65536 : Int) < (l2 : Int)
  · go_wp2_with fail
    all_goals
      go_ret
      exact ⟨rfl, Below.refl _ _⟩
  by_cases g3 : (65536 : Int) < (l3 : Int)
  · go_wp2_with fail
    all_goals
      go_ret
      exact ⟨rfl, Below.refl _ _⟩
  have b0 : n ≤ 65536 := by omega
  have b1 : l1 ≤ 65536 := by omega
  have b2 : l2 ≤ 65536 := by omega
  have b3 : l3 ≤ 65536 := by omega
  go_wp2_with fail
  refine (strB a0 n c0 S _ H0.out b0 hzz.out.1).mono ?_
  rintro e w1 ⟨t1, rfl, p1, p2, rfl⟩
  go_wp2_with fail
  refine (strB a3 l3 c3 G _ H3.out b3 hzz.out.2).mono ?_
  rintro e w1 ⟨t2, rfl, p3, p4, rfl⟩
  by_cases g4 : (1048576 : Int) < t1 + t2 + 4 * (l1 : Int) + (l2 : Int)
  · go_wp2_with fail
    all_goals
      go_ret
      exact ⟨rfl, Below.refl _ _⟩
  go_wp2_with fail
  refine (shapeC a0 n c0 a1 l1 c1 T a2 l2 c2 a3 l3 c3 q _ H1.out HT0.out b0 b1 b2 b3 HQ.out).mono ?_
  rintro e w1 ⟨v, rfl, hsh, rfl⟩
  have hsh := Lib.hid hsh
  cases v
  · go_wp2_with fail
    go_ret
    exact ⟨rfl, Below.refl _ _⟩
  obtain ⟨rfl, rfl, rfl, hqn, hv, r, m, hpath, hr⟩ := hsh.out (by first | exact trivial | rfl)
  obtain ⟨q0, _⟩ := HQ.out
  obtain ⟨qi, rfl⟩ := Int.eq_ofNat_of_zero_le q0
  have hq : qi < l3 := by omega
  have hn0 : 0 < l3 := by omega
  have HV := Lib.hid hv
  have HP : Hid (∃ m, Lk.Path (Lt T) qi r m) := Lib.hid ⟨m, by simpa using hpath⟩
  clear hsh hz hzz HZ HQ HT0 hv hpath q0 hqn
  go_wp2_with fail
  refine (cst a0 l3 c0 S _ H0.out (by omega)).mono ?_
  rintro e w2 hc
  obtain ⟨e0, d0, rfl, hf2, hb2, _⟩ := Cop.off hc
  have F2 := Lib.hid hf2
  have B2 := Lib.hid hb2
  clear hf2 hb2 hc
  go_wp2_with fail
  refine (ci32 a1 l3 c1 T _ (H1.out.below B2.out) (by omega)).mono ?_
  rintro e w3 hc
  obtain ⟨e1, d1, rfl, hf3, hb3, ho1⟩ := Cop.off hc
  have E3 := Lib.hid hf3
  have F3 := Lib.hid (F2.out.below hb3)
  have B3 := Lib.hid (B2.out.trans (hb3.mono B2.out.size))
  clear hf3 hb3 hc F2
  go_wp2_with fail
  refine (cbl a2 l3 c2 B _ (H2.out.below B3.out) (by omega)).mono ?_
  rintro e w4 hc
  obtain ⟨e2, d2, rfl, hf4, hb4, _⟩ := Cop.off hc
  have D4 := Lib.hid hf4
  have E4 := Lib.hid (E3.out.below hb4)
  have F4 := Lib.hid (F3.out.below hb4)
  have B4 := Lib.hid (B3.out.trans (hb4.mono B3.out.size))
  have z4 := hb4.size
  clear hf4 hb4 hc E3 F3 B2
  go_wp2_with fail
  refine (cst a3 l3 c3 G _ (H3.out.below B4.out) (by omega)).mono ?_
  rintro e w5 hc
  obtain ⟨e3, d3, rfl, hf5, hb5, _⟩ := Cop.off hc
  have C5 := Lib.hid hf5
  have D5 := Lib.hid (D4.out.below hb5)
  have E5 := Lib.hid (E4.out.below hb5)
  have F5 := Lib.hid (F4.out.below hb5)
  have B5 := Lib.hid (B4.out.trans (hb5.mono B4.out.size))
  have z5 := hb5.size
  clear hf5 hb5 hc D4 E4 F4 B3 B4
  go_wp2_with fail
  refine (buildC e0 l3 d0 S e1 d1 T _ F5.out E5.out HV.out hn0 b0).mono ?_
  rintro e w6 ⟨ob, blk, V, rfl, hM, hL, hVS, hbl, hob, hb6⟩
  have M6 := Lib.hid (show ∃ V' L', SM (fun _ => l3) 1 ob blk w6 V' ∧ Links (fun _ => l3) 1 V' L' ∧ Lk.Comp (LT T) L' ∧ SameBut V V' from ⟨V, LT T, hM, hL, Lk.Comp.refl _, SameBut.refl V⟩)
  have HVS := Lib.hid hVS
  have C6 := Lib.hid (C5.out.below hb6)
  have D6 := Lib.hid (D5.out.below hb6)
  have E6 := Lib.hid (E5.out.below hb6)
  have B6 := Lib.hid (B5.out.trans (hb6.mono B5.out.size))
  have hbk : blk 0 < w6.heap.size := (hM.2.1 0 (by omega)).lt
  clear hM hL hVS hb6 C5 D5 E5 F5
  go_wp2_with fail
  have hb6b : Below w6.heap.size w6 (w6.alloc (.cells #[.slice (some ⟨ob, 0, none⟩) 1 1] 33)) := (Below.refl _ _).alloc (Nat.le_refl _) _
  refine (mapC e2 l3 d2 B e3 d3 G _ (D6.out.below hb6b) (C6.out.below hb6b) b0).mono ?_
  rintro e w7 ⟨mb, M, rfl, hMI, hStr, hmb, hb7⟩
  have hmb2 : w6.heap.size < mb := by simp at hmb; omega
  have hx7 := (hb7.cell (p := ⟨w6.heap.size, 0, none⟩) (by simp)).trans (cellsB (i := 0) (heap_alloc_new w6 (.cells #[.slice (some ⟨ob, 0, none⟩) 1 1] 33)) rfl)
  have hb67 := hb6b.trans (hb7.mono hb6b.size)
  have HST : Hid (St l3 ob mb w6.heap.size blk V M e1 T w w7) := Lib.hid (by
    obtain ⟨V', L', h1, h2, h3, h4⟩ := M6.out
    exact ⟨⟨V', L', h1.keep hb67, h2, h3, h4⟩, (HG.out.below B6.out).below hb67, hMI, E6.out.below hb67, hx7, B6.out.trans (hb67.mono B6.out.size)⟩)
  have z5' := B5.out.size
  have HAP : Hid (Ap l3 mb w6.heap.size blk V e1 S w) := Lib.hid ⟨by omega, by omega, fun x hx => by have := ho1 x hx; omega, by omega, HVS.out⟩
  have HSTR := Lib.hid hStr
  clear hb6b hMI hStr hmb hb7 hx7 hb67 M6 C6 D6 E6 hmb2 ho1 HVS
  have HASK : Hid (∀ (x : Nat) (W : World), St l3 ob mb w6.heap.size blk V M e1 T w W → x < l3 → (∃ m, Lk.Path (Lt T) x r m) → Calls Tryd.prog 12 #[.agg #[.slice (some ⟨ob, 0, none⟩) 1 1], .map (some mb), .agg #[.int .u32 0, .int .u32 x]] W fun e w' => e = .returned (.string (nm M S r)) ∧ St l3 ob mb w6.heap.size blk V M e1 T w w') :=
    Lib.hid fun x W hs hx hp => askC l3 ob mb w6.heap.size x r blk V M e1 S T w W hs HAP.out HSTR.out b0 hx hr hp
  generalize w6.heap.size = xb at HST HASK HAP hbk ⊢
  generalize nm M S r = N at HASK
  have f7 := HST.out.2.2.2.2.1
  have hw1 : IntKind.i64.wrap (qi : Int) = (qi : Int) := IntWalk.i64_in _ (by omega)
  go_wp2_with fail
  go_region_held3 (fun w' => w'.cell? ⟨xb, 0, none⟩ = some (.slice (some ⟨ob, 0, none⟩) 1 1))
    (first | exact f7 | exact g7 | exact y7 | assumption)
    (first | (go_at_call 12; refine (HASK.out qi wA HSA.out hq HP.out).mono ?_; rintro e wB ⟨rfl, hsB⟩; have y7 := hsB.2.2.2.2.1; have HSB := Lib.hid hsB; clear hsB) | (go_at_call 13; refine (refC (qi : Int) _).mono ?_; rintro e wA ⟨rfl, hbA⟩; have HSA := Lib.hid ((show St l3 ob mb xb blk V M _ T w _ from HST.out.below (by first | exact belD (Below.refl _ _) | exact Below.refl _ _)).below hbA); have g7 := HSA.out.2.2.2.2.1; clear hbA))
  go_wp2_with fail
  have HS1 := HSB
  clear f7 g7 y7 HST HSA HSB
  go_loopw [15, 16] (fun rr i wr => ∃ k x : Nat, k ≤ l3 + 1 ∧ x < l3 ∧ i = .int .i64 k ∧ rr = .int .i64 x ∧ Hid (∃ m, Lk.Path (Lt T) x r m) ∧ Hid (St l3 ob mb xb blk V M e1 T w wr)) (fun _ i _ => l3 + 1 - (intOf i).toNat)
  case atStart => exact ⟨0, qi, by omega, hq, rfl, rfl, HP, HS1⟩
  case round =>
    obtain ⟨k, x, hk, hx, rfl, rfl, HPX, HSR⟩ := hrel
    have f7 := HSR.out.2.2.2.2.1
    by_cases hlt : k ≤ l3
    · have hk2 : (k : Int) ≤ (l3 : Int) := by omega
      have hw2 : IntKind.u32.wrap (x : Int) = (x : Int) := by rw [IntKind.wrap_u32]; omega
      have hx2 : (x : Int) < (l3 : Int) := by omega
      obtain ⟨wo, rfl⟩ : ∃ wo : World, wo = wr := ⟨_, rfl⟩
      go_wp2_with fail
      go_region_held3 (fun w' => w'.cell? ⟨xb, 0, none⟩ = some (.slice (some ⟨ob, 0, none⟩) 1 1))
        (first | exact f7 | exact g7 | exact y7 | assumption)
        (first | (go_at_call 12; refine (HASK.out x wA HSA.out hx HPX.out).mono ?_; rintro e wB ⟨rfl, hsB⟩; have y7 := hsB.2.2.2.2.1; have HSB := Lib.hid hsB; clear hsB) | (go_at_call 13; refine (refC (x : Int) _).mono ?_; rintro e wA ⟨rfl, hbA⟩; have HSA := Lib.hid ((show St l3 ob mb xb blk V M _ T w _ from HSR.out.below (by first | exact belD (Below.refl _ _) | exact Below.refl _ _)).below hbA); have g7 := HSA.out.2.2.2.2.1; clear hbA))
      have hl := HSB.out.2.2.2.1.at x hx
      obtain ⟨bl, ol, rfl, hbl2, hlc⟩ := hl
      clear f7 g7
      by_cases a0 : T x = -1
      · have hq2 : (T x == -1) = true := by simp [a0]
        clear a0
        have f7 := HSB.out.2.2.2.2.1
        go_wp2_with fail
        go_region_held3 (fun w' => w'.cell? ⟨xb, 0, none⟩ = some (.slice (some ⟨ob, 0, none⟩) 1 1))
          (first | exact f7 | exact g7 | exact y7 | assumption)
          (first | (go_at_call 12; refine (HASK.out qi wA HSA.out hq HP.out).mono ?_; rintro e wB ⟨rfl, hsB⟩; have y7 := hsB.2.2.2.2.1; have HSB := Lib.hid hsB; clear hsB) | (go_at_call 13; refine (refC (qi : Int) _).mono ?_; rintro e wA ⟨rfl, hbA⟩; have HSA := Lib.hid ((show St l3 ob mb xb blk V M _ T w _ from HSB.out.below (by first | exact belD (Below.refl _ _) | exact Below.refl _ _)).below hbA); have g7 := HSA.out.2.2.2.2.1; clear hbA))
        go_wp2_with fail
        go_ret
        exact ⟨by simp, HSB.out.2.2.2.2.2⟩
      · have hq2 : (T x == -1) = false := by simpa using a0
        have hTx : 0 ≤ T x ∧ T x < l3 := by rcases HV.out x hx with h | h
                                            · exact absurd h a0
                                            · exact h
        obtain ⟨v0, v1⟩ := hTx
        have hw3 : IntKind.i64.wrap (T x) = T x := IntWalk.i64_in _ (by omega)
        clear a0
        go_wp2_with fail
        go_roundw
        case rel => exact ⟨k + 1, (T x).toNat, by omega, by omega, by go_num, by rw [Int.toNat_of_nonneg v0], Lib.hid (by
          obtain ⟨m, hm⟩ := HPX.out
          cases hm with
          | done h => unfold Lt at h; rw [if_neg (by omega)] at h; cases h
          | step h hp => unfold Lt at h; rw [if_neg (by omega)] at h; injection h with h; subst h; exact ⟨_, hp⟩), HSB⟩
        case measure => simp [intOf]; omega
    · have hk2 : ¬ (k : Int) ≤ (l3 : Int) := by omega
      have f7 := HSR.out.2.2.2.2.1
      go_wp2_with fail
      go_region_held3 (fun w' => w'.cell? ⟨xb, 0, none⟩ = some (.slice (some ⟨ob, 0, none⟩) 1 1))
        (first | exact f7 | exact g7 | exact y7 | assumption)
        (first | (go_at_call 12; refine (HASK.out qi wA HSA.out hq HP.out).mono ?_; rintro e wB ⟨rfl, hsB⟩; have y7 := hsB.2.2.2.2.1; have HSB := Lib.hid hsB; clear hsB) | (go_at_call 13; refine (refC (qi : Int) _).mono ?_; rintro e wA ⟨rfl, hbA⟩; have HSA := Lib.hid ((show St l3 ob mb xb blk V M _ T w _ from HSR.out.below (by first | exact belD (Below.refl _ _) | exact Below.refl _ _)).below hbA); have g7 := HSA.out.2.2.2.2.1; clear hbA))
      go_wp2_with fail
      go_ret
      exact ⟨by simp, HSB.out.2.2.2.2.2⟩
  
theorem walk (a0 : Option Addr) (len0 cap0 : Nat) (z0 : List ByteArray) (a1 : Option Addr) (len1 cap1 : Nat) (z1 : List Int) (a2 : Option Addr) (len2 cap2 : Nat) (z2 : Nat → Bool) (a3 : Option Addr) (len3 cap3 : Nat) (z3 : List ByteArray) (a4 : Int) (w : World) (w0 : Aid.IsStrs w a0 len0 cap0 z0) (w1 : Aid.IsRow .i32 w a1 len1 cap1 z1) (w2 : Aid.IsBools w a2 len2 cap2 z2) (w3 : Aid.IsStrs w a3 len3 cap3 z3) (w4 : (Lit.int .u32 a4).wf = true) (hG : Gl w) :
    Calls Tryd.prog 3 #[.slice a0 len0 cap0, .slice a1 len1 cap1, .slice a2 len2 cap2, .slice a3 len3 cap3, .int .u32 a4] w fun e w' => e = .returned (.bool true) ∧ Below w.heap.size w w' := by
  obtain ⟨S, hF0, hS, m0, _⟩ := Fl.of_strs w0
  obtain ⟨T, hF1, hT, m1, _⟩ := Fl.of_ints w1
  obtain ⟨hF2, m2, _⟩ := Fl.of_bools w2
  obtain ⟨G, hF3, hG3, m3, _⟩ := Fl.of_strs w3
  exact main a0 len0 cap0 S a1 len1 cap1 T a2 len2 cap2 z2 a3 len3 cap3 G a4 w hF0 hS hF1 (fun i hi => Aid.i32_of (hT i hi)) hF2 hF3 hG3 (Aid.u32_of w4) hG m0 m1 m2 m3

def laid : List (String × DataW Unit) := [("github.com/evanw/esbuild/internal/ast.InvalidRef", Rows.laid_github_com_evanw_esbuild_internal_ast_InvalidRef)]
theorem gName : Tryd.prog.globalNamed "github.com/evanw/esbuild/internal/ast.InvalidRef" = some 0 := by kernel_rfl
theorem gType : (Tryd.prog.globals[0]?).map (·.type) = some 39 := by kernel_rfl
theorem glVar {W : World} (h : laidMet Tryd.prog laid W) : W.var? Tryd.prog "github.com/evanw/esbuild/internal/ast.InvalidRef" = some #[.int .u32 4294967295, .int .u32 4294967295] := by
  obtain ⟨g, t, cs, fuel, p, hg, ht, hv, hd⟩ := Lib.laidMet.reads h (.head _)
  obtain rfl := Option.some.inj (gName.symm.trans hg)
  obtain rfl := Option.some.inj (gType.symm.trans ht)
  have hc := Lib.ints_of_struct (k := .u32) (zs := [4294967295, 4294967295]) Tryd.underlying39 (fun i fd hi => by
    match i, hi with
    | 0, hi => cases hi; exact ⟨by kernel_rfl, rfl, by kernel_rfl⟩
    | 1, hi => cases hi; exact ⟨by kernel_rfl, rfl, by kernel_rfl⟩
    | n + 2, hi => simp at hi) (by kernel_rfl) hd
  rw [hv]
  obtain ⟨l⟩ := cs
  simp only at hc
  rw [hc]
  rfl
theorem gl_of {W : World} (h : laidMet Tryd.prog laid W) : Gl W := ⟨World.var?_cell gName (glVar h) 0, World.var?_cell gName (glVar h) 1⟩

set_option maxRecDepth 100000 in
theorem lifted (os : Os) (started : os.Started) (H : Type) (enc : TypeId × Value → H) :
    ReturnsInHanded {} Tryd.checked os 3 .any (fun w args => (Rows.fnMangledPropNameStableAlongAliasChainSpec.pre enc Tryd.prog Tryd.f3 [] false w args ∧ laidMetH Tryd.prog laid w) ∧ sizedMet enc Tryd.prog Tryd.f3 (OpenSpec.ofChange Rows.fnMangledPropNameStableAlongAliasChainSpec) false w args)
      (Rows.fnMangledPropNameStableAlongAliasChainSpec.post enc Tryd.prog Tryd.f3 false true false false) := by
  refine returnsInHanded_of_change_and (C := Tryd.checked) (X := fun w _ => laidMetH Tryd.prog laid w) (fun _ _ _ hh h => h.of_heap hh) own started (by kernel_rfl) Tryd.func3
    (ChangeSpec.witness_shaped (enc := enc) (C := Tryd.checked) (os := os) (X := fun w _ => laidMetH Tryd.prog laid w) false (World.laidAll Tryd.prog os laid) #[.slice none 0 0, .slice none 0 0, .slice none 0 0, .slice none 0 0, .int .u32 0] 8 (World.laidAll_os _ _ _)
      (World.shaped_of_ZipB (by kernel_rfl) (by kernel_rfl)) (by kernel_rfl) (by kernel_rfl) (by kernel_rfl)
      (by rw [MakeChecks.laidMetH_plain _ _ _ (by kernel_rfl)]; exact laidMet_laidAll _ (by kernel_rfl) (by kernel_rfl))) ?_
  intro W base args ds gs before hval0 hW _ _ hL _
  have hval : ∀ (j : Nat) t v, Tryd.f3.params[j]? = some t → args[j]? = some v → Value.okWide Tryd.prog W .any base t v := hval0
  have hL' : laidMet Tryd.prog laid W := by rw [MakeChecks.laidMetH_plain _ _ _ (by kernel_rfl)] at hL; exact hL
  have hG := gl_of hL'
  have hW' := hW
  obtain ⟨p, q, hA0, hV, rfl, hfz, hnd⟩ := hW
  have hA : DataW.TrodAll enc Tryd.prog W 0 (fun _ => true) true Tryd.f3.params.toList args.toList ds p := hA0
  rw [Tryd.params3] at hA hval
  obtain ⟨v0, vs0, d0, ds0, p0, q0, hargs, rfl, rfl, h0, r0⟩ := trodAll_cons hA
  obtain ⟨v1, vs1, d1, ds1, p1, q1, rfl, rfl, rfl, h1, r1⟩ := trodAll_cons r0
  obtain ⟨v2, vs2, d2, ds2, p2, q2, rfl, rfl, rfl, h2, r2⟩ := trodAll_cons r1
  obtain ⟨v3, vs3, d3, ds3, p3, q3, rfl, rfl, rfl, h3, r3⟩ := trodAll_cons r2
  obtain ⟨v4, vs4, d4, ds4, p4, q4, rfl, rfl, rfl, h4, r4⟩ := trodAll_cons r3
  obtain ⟨rfl, rfl, rfl⟩ := trodAll_nil r4
  obtain rfl : args = #[v0, v1, v2, v3, v4] := by cases args; simp_all
  obtain ⟨g, t, cs, fuel, dg, pg, rfl, hg, ht, hcs, htr, rfl⟩ := trodVars_one hV
  obtain rfl := Option.some.inj (gName.symm.trans hg)
  obtain rfl := Option.some.inj (gType.symm.trans ht)
  obtain ⟨a0, len0, cap0, rfl⟩ := okWide_slice Tryd.underlying22 (hval 0 22 v0 rfl rfl)
  have k0 := h0
  have lt0 : ∀ x ∈ p0, x.block < W.heap.size := by obtain ⟨m, hm⟩ := k0; exact DataW.trod_lt m _ _ _ hm
  obtain ⟨z0, w0⟩ := Aid.open_strs Tryd.underlying22 Tryd.underlying9 (by kernel_rfl) h0
  obtain ⟨a1, len1, cap1, rfl⟩ := okWide_slice Tryd.underlying23 (hval 1 23 v1 rfl rfl)
  have k1 := h1
  have lt1 : ∀ x ∈ p1, x.block < W.heap.size := by obtain ⟨m, hm⟩ := k1; exact DataW.trod_lt m _ _ _ hm
  obtain ⟨z1, w1⟩ := Aid.open_row Tryd.underlying23 Tryd.underlying21 (by kernel_rfl) h1
  obtain ⟨a2, len2, cap2, rfl⟩ := okWide_slice Tryd.underlying24 (hval 2 24 v2 rfl rfl)
  have k2 := h2
  have lt2 : ∀ x ∈ p2, x.block < W.heap.size := by obtain ⟨m, hm⟩ := k2; exact DataW.trod_lt m _ _ _ hm
  obtain ⟨z2, w2⟩ := Aid.open_bls Tryd.underlying24 Tryd.underlying4 (by kernel_rfl) h2
  obtain ⟨a3, len3, cap3, rfl⟩ := okWide_slice Tryd.underlying22 (hval 3 22 v3 rfl rfl)
  have k3 := h3
  have lt3 : ∀ x ∈ p3, x.block < W.heap.size := by obtain ⟨m, hm⟩ := k3; exact DataW.trod_lt m _ _ _ hm
  obtain ⟨z3, w3⟩ := Aid.open_strs Tryd.underlying22 Tryd.underlying9 (by kernel_rfl) h3
  obtain ⟨a4, rfl, rfl, rfl, w4⟩ := open_int Tryd.underlying25 (hval 4 25 v4 rfl rfl) h4
  clear hA0 hval0
  refine (walk a0 len0 cap0 z0 a1 len1 cap1 z1 a2 len2 cap2 z2 a3 len3 cap3 z3 a4 W w0 w1 w2 w3 w4 hG).mono fun e W' ⟨he, bel⟩ => ?_
  subst he
  have hlv : ∀ x ∈ pg, x.block < W.heap.size := DataW.trod_lt _ _ _ _ htr
  obtain ⟨fuel', htr'⟩ := Below.trod laidOut (t := 39) (v := .agg cs) (by kernel_rfl) (of_decide_eq_true (by kernel_rfl)) ⟨fuel, htr⟩ bel hlv
  have hvar : W'.var? Tryd.prog "github.com/evanw/esbuild/internal/ast.InvalidRef" = some cs := by
    have h0 : (0 : Nat) < W.heap.size := Fl.lt_of_cell hG.1
    have hb := bel.block 0 h0
    simp only [World.var?, gName, Option.bind_some, hb] at hcs ⊢
    exact hcs
  exact ⟨_, rfl, _, _, _, [], _, _, hW', trodAll_mk1 (shut_bool Tryd.underlying4 _), (trodAll_cons_mk (Below.trod laidOut (by kernel_rfl) (of_decide_eq_true (by kernel_rfl)) k0 bel lt0) (trodAll_cons_mk (Below.trod laidOut (by kernel_rfl) (of_decide_eq_true (by kernel_rfl)) k1 bel lt1) (trodAll_cons_mk (Below.trod laidOut (by kernel_rfl) (of_decide_eq_true (by kernel_rfl)) k2 bel lt2) (trodAll_cons_mk (Below.trod laidOut (by kernel_rfl) (of_decide_eq_true (by kernel_rfl)) k3 bel lt3) (trodAll_cons_mk (shut_int Tryd.underlying25 w4) trodAll_mk0))))), trodVars_mk1 gName gType hvar htr', bel.frame _, fun h => by cases h⟩
theorem over : Rows.FnMangledPropNameStableAlongAliasChainSaid :=
  OpenClaim.holds_of_wide 3 Tryd.f3 rfl rfl rfl rfl rfl rfl rfl ⟨rfl, rfl, rfl, rfl, rfl⟩ rfl rfl rfl rfl rfl (by kernel_rfl) Tryd.func3 (by kernel_rfl)
    (of_decide_eq_true (by kernel_rfl)) (by unfold Func.isWrapper; first | (rw [if_pos (by decide +kernel)]; kernel_rfl) | (rw [if_neg (by decide +kernel)]; exact ⟨rfl, rfl⟩))
    (fun os started H enc _ => lifted os started H enc)
theorem proved : Rows.FnMangledPropNameStableAlongAliasChainCardSaid :=
  Claim7.holds_tied_plain_at .later [] [.data] true (true, "be0d18f1a77b609c7be61094a63c729a0d97c4cf57afad008eeddf9cfc20d3b1") false
    over (fun _ h => by cases h) (by kernel_rfl) (fun _ h => by cases h) fnMangledPropNameStableAlongAliasChain_row_tie rfl ⟨rfl, rfl⟩ (by kernel_rfl) rfl
    (fun f fn hf hfn => by
      obtain rfl : f = 3 := Option.some.inj ((show Tryd.prog.funcNamed "github.com/evanw/esbuild/n011_301.FnMangledPropNameStableAlongAliasChain" = some 3 by kernel_rfl).symm.trans hf) |>.symm
      obtain rfl : fn = Tryd.f3 := (Option.some.inj (Tryd.func3.symm.trans hfn)).symm
      exact ⟨by kernel_rfl, fun j t ht => by
        rw [Tryd.params3] at ht
        have hm : t ∈ [22, 23, 24, 22, 25] := by simpa using Array.mem_of_getElem? ht
        have hall : ([22, 23, 24, 22, 25].all fun u => !Tryd.prog.wantsStandIn u) = true := by kernel_rfl
        exact (show Tryd.prog.wantsStandIn t = false by simpa using List.all_eq_true.1 hall t hm)⟩)
    (by kernel_rfl)
#print axioms proved
end Go.Proofs.YtholgianfiolnaaDoor.fnMangledPropNameStableAlongAliasChain
