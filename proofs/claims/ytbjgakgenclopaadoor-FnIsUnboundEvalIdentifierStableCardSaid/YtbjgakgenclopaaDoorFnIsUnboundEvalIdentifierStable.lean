/- Asking twice whether an identifier is an unbound eval gives the same answer, and any symbol of a chain answers as its root. The variable InvalidRef holds what the program's text lays. -/
import Derived.Test.YtbjgakgenclopaaDoorRows
import Derived.Test.YtbjgakgenclopaaDoorCards
import Derived.Test.YtbjgakgenclopaaDoorTie
import Derived.WalkKit
import Derived.ProofKit
import Derived.LaidMore
import Derived.Lay
import Derived.OpenShut
import Derived.ShutString
import Derived.Stop.Joined
import Derived.SevenTiedAt
import Derived.Lib.LaidU8
import Derived.Carry
import Derived.Lib.Hide
import Derived.Test.YtbjgakgenclopaaDoorAid
import Derived.Test.YtbjgakgenclopaaDoorFl
import Derived.Test.YtbjgakgenclopaaDoorPb
import Derived.Test.YtbjgakgenclopaaDoorQd
import Derived.Test.YtbjgakgenclopaaDoorLk
import Derived.WalkSpells
import Derived.LoopTactic
import Derived.IntWalk
import Derived.Outline
import Derived.Deep.QuietTactic
import Derived.BigQuiet
import Derived.Deep.RegionHeld3
import Derived.StillTailTactics
import Derived.LaidEqlPtr
import Derived.Laws.StructEq
namespace Go.Proofs.YtbjgakgenclopaaDoor.fnIsUnboundEvalIdentifierStable
open Go.ChangeShapes Go.WideShapes Go.ChangeAt Go.RowKit
open Go.ChangeMaps (open_string shut_string)
set_option linter.unusedVariables false

theorem own : ownKnob Tryd.prog.godebug = none := by kernel_rfl
theorem laidOut : laidOutB Tryd.prog = true := by kernel_rfl
open Fl Pb Qd Lk
theorem symInfo : ∃ z bytes, bytes ≤ 1024 ∧ ((∀ v ∈ z.cells.toList, v.oneCell' = true) ∧ 0 < z.cells.size) ∧ (Tryd.prog.info? 91).map (fun i => (i.zero, i.size, i.bytes)) = some (some z, 10, bytes) := ⟨.agg #[.pointer none, .string ⟨#[]⟩, .int .u32 0, .int .u32 0, .int .u32 0, .int .u32 0, .int .u32 0, .int .u16 0, .int .u8 0, .int .u8 0], 48, by omega, by decide, by kernel_rfl⟩
/-- The first N values fill one cell each. -/
def OneV (N : Nat) (V : Nat → Value) : Prop := ∀ q, q < N → (V q).oneCell' = true
/-- The map of symbols: the outer row ob, the lists blk i, what they hold. -/
def SM (C : Nat → Nat) (k ob : Nat) (blk : Nat → Nat) (wr : World) (V : Nat → Nat → Value) : Prop :=
  Fblk wr ob 84 k (fun i => .slice (some ⟨blk i, 0, none⟩) (C i) (C i)) ∧ (∀ i, i < k → Fblk wr (blk i) 91 (C i * 10) (V i)) ∧ (∀ i, i < k → blk i ≠ ob ∧ 0 < blk i) ∧ ∀ i j, i < j → j < k → blk i < blk j
theorem oneMade {cs : Array Value} (h : ∀ v ∈ cs.toList, v.oneCell' = true) (h0 : 0 < cs.size) (n : Nat) : OneV n (fun i => (madeCells cs n).getD i undef) := by
  intro q hq
  have hm : q % cs.size < cs.size := Nat.mod_lt _ h0
  have e : (madeCells cs n).getD q undef = cs[q % cs.size] := by
    simp [madeCells, Array.getD, hq, hm]
  show ((madeCells cs n).getD q undef).oneCell' = true
  rw [e]
  exact h _ (by simp)
theorem OneV.put {N : Nat} {V : Nat → Value} (h : OneV N V) (q : Nat) {v : Value} (hv : v.oneCell' = true) : OneV N (upd V q v) := fun i hi => by
  unfold upd
  by_cases e : i = q
  · simp [e, hv]
  · simp [e, h i hi]
set_option maxRecDepth 100000 in
theorem getC (C : Nat → Nat) (k ob : Nat) (blk : Nat → Nat) (V : Nat → Nat → Value) (s j : Nat) (w : World) (h : SM C k ob blk w V) (hs : s < k) (hj : j < C s) (hk : k ≤ 4097) (hc : C s ≤ 65536) :
    Calls Tryd.prog 15 #[.agg #[.slice (some ⟨ob, 0, none⟩) k k], .agg #[.int .u32 s, .int .u32 j]] w fun e w' => e = .returned (.pointer (some ⟨blk s, j * 10, none⟩)) ∧ Below w.heap.size w w' := by
  have co := h.1.cell s hs
  have hol := h.1.lt
  have hs2 : (s : Int) < (k : Int) := by omega
  have hj2 : (j : Int) < ((C s : Nat) : Int) := by omega
  clear h
  go_enter Tryd.func15, Tryd.ntmps15
  go_wp2_with fail
  go_quiet (fail)
  go_wp2_with fail
  go_ret
  exact ⟨rfl, Qd.below_drewN (by (repeat' (first | exact Below.refl _ _ | refine Below.drewR ?_ | (refine Below.alloc ?_ (by simp; omega) _) | (refine Below.alloc ?_ (by simp) _) | (refine Below.setCell ?_ (by simp; omega) _) | (refine Below.setCell ?_ (by simp) _)))) _⟩
theorem eql_ref (a b c d : Int) (w : World) : (binOp .eql 44 (.agg #[.int .u32 a, .int .u32 b]) (.agg #[.int .u32 c, .int .u32 d])).run Tryd.prog w = .ok (.bool (a == c && b == d)) w := by
  have u3 := Tryd.underlying42
  have a3 := Tryd.isAgg42
  have z3 := Tryd.sizeOf42
  have hS : Tryd.prog.underlying 44 = some (.struct (Tryd.prog.fieldsOf 44)) := by kernel_rfl
  have hp : Tryd.prog.stoodInHeld 44 = false := by kernel_rfl
  rw [run_eql_struct, show (10000 : Nat) = 9999 + 1 from rfl, run_equalIn_agg w 9999 44 _ _ hS hp]
  simp only [Program.fieldsOf, Tryd.underlying44]
  go_simp
  by_cases h1 : a = c <;> by_cases h2 : b = d <;> simp [h1, h2]
theorem neq_ref (a b c d : Int) (w : World) : (binOp .neq 44 (.agg #[.int .u32 a, .int .u32 b]) (.agg #[.int .u32 c, .int .u32 d])).run Tryd.prog w = .ok (.bool (!(a == c && b == d))) w := by
  have u3 := Tryd.underlying42
  have a3 := Tryd.isAgg42
  have z3 := Tryd.sizeOf42
  have hS : Tryd.prog.underlying 44 = some (.struct (Tryd.prog.fieldsOf 44)) := by kernel_rfl
  have hp : Tryd.prog.stoodInHeld 44 = false := by kernel_rfl
  rw [run_neq_struct, show (10000 : Nat) = 9999 + 1 from rfl, run_equalIn_agg w 9999 44 _ _ hS hp]
  simp only [Program.fieldsOf, Tryd.underlying44]
  go_simp
  by_cases h1 : a = c <;> by_cases h2 : b = d <;> simp [h1, h2]
/-- The links that the cells hold. -/
def Links (C : Nat → Nat) (k : Nat) (V : Nat → Nat → Value) (L : Nat × Nat → Option (Nat × Nat)) : Prop :=
  ∀ s j, s < k → j < C s → (L (s, j) = none ∧ V s (j * 10 + 2) = .int .u32 4294967295 ∧ V s (j * 10 + 3) = .int .u32 4294967295) ∨
    ∃ t, L (s, j) = some t ∧ t.1 < k ∧ t.2 < C t.1 ∧ V s (j * 10 + 2) = .int .u32 (t.1 : Nat) ∧ V s (j * 10 + 3) = .int .u32 (t.2 : Nat)
/-- Only link cells differ. -/
def SameBut (V V' : Nat → Nat → Value) : Prop := ∀ s q, q % 10 ≠ 2 → q % 10 ≠ 3 → V' s q = V s q
theorem SameBut.refl (V : Nat → Nat → Value) : SameBut V V := fun _ _ _ _ => rfl
theorem SameBut.trans {V V1 V2 : Nat → Nat → Value} (h : SameBut V V1) (h2 : SameBut V1 V2) : SameBut V V2 := fun s q a b => (h2 s q a b).trans (h s q a b)
/-- The cells with one link set. -/
def putV (V : Nat → Nat → Value) (s j : Nat) (t : Nat × Nat) : Nat → Nat → Value := fun i => if i = s then upd (upd (V s) (j * 10 + 2) (.int .u32 (t.1 : Nat))) (j * 10 + 3) (.int .u32 (t.2 : Nat)) else V i
theorem put_same (V : Nat → Nat → Value) (s j : Nat) (t : Nat × Nat) : SameBut V (putV V s j t) := fun i q h2 h3 => by
  unfold putV
  by_cases e : i = s
  · subst e
    rw [if_pos rfl, upd_other _ _ _ _ (by omega), upd_other _ _ _ _ (by omega)]
  · rw [if_neg e]
theorem Links.put {C : Nat → Nat} {k s j : Nat} {V : Nat → Nat → Value} {L : Nat × Nat → Option (Nat × Nat)} {t : Nat × Nat} (h : Links C k V L) (ht : t.1 < k) (ht2 : t.2 < C t.1) : Links C k (putV V s j t) (Lk.lset L (s, j) t) := by
  intro i q hi hq
  by_cases e : i = s
  · subst e
    by_cases e2 : q = j
    · subst e2
      refine .inr ⟨t, Lk.lset_same _ _ _, ht, ht2, ?_, ?_⟩
      · unfold putV
        rw [if_pos rfl, upd_other _ _ _ _ (by omega), upd_same]
      · unfold putV
        rw [if_pos rfl, upd_same]
    · rw [Lk.lset_other _ _ _ _ (by intro e3; injection e3 with _ e3; exact e2 e3)]
      have e4 : putV V i j t i (q * 10 + 2) = V i (q * 10 + 2) := by unfold putV; rw [if_pos rfl, upd_other _ _ _ _ (by omega), upd_other _ _ _ _ (by omega)]
      have e5 : putV V i j t i (q * 10 + 3) = V i (q * 10 + 3) := by unfold putV; rw [if_pos rfl, upd_other _ _ _ _ (by omega), upd_other _ _ _ _ (by omega)]
      rw [e4, e5]
      exact h i q hi hq
  · rw [Lk.lset_other _ _ _ _ (by intro e3; injection e3 with e3 _; exact e e3)]
    have e4 : ∀ x, putV V s j t i x = V i x := fun x => by unfold putV; rw [if_neg e]
    rw [e4, e4]
    exact h i q hi hq
theorem SM.write {C : Nat → Nat} {k ob : Nat} {blk : Nat → Nat} {w : World} {V : Nat → Nat → Value} (h : SM C k ob blk w V) {s : Nat} (hs : s < k) (q : Nat) (v : Value) :
    SM C k ob blk (w.setCell ⟨blk s, q, none⟩ v) (fun i => if i = s then upd (V s) q v else V i) := by
  obtain ⟨h1, h2, h3, h4⟩ := h
  have hne : ∀ i, i < k → i ≠ s → blk s ≠ blk i := fun i hi hn e => by
    rcases Nat.lt_or_gt_of_ne hn with hl | hl
    · have := h4 i s hl hs; omega
    · have := h4 s i hl hi; omega
  refine ⟨h1.other (by show blk s ≠ ob; have := h3 s hs; omega) _, fun i hi => ?_, h3, h4⟩
  by_cases e : i = s
  · subst e; simp only [if_true]; exact (h2 i hi).set q v
  · simp only [if_neg e]; exact (h2 i hi).other (by show blk s ≠ blk i; exact hne i hi e) _
theorem SM.put {C : Nat → Nat} {k ob : Nat} {blk : Nat → Nat} {w : World} {V : Nat → Nat → Value} (h : SM C k ob blk w V) {s : Nat} (hs : s < k) (j : Nat) (t : Nat × Nat) :
    SM C k ob blk ((w.setCell ⟨blk s, j * 10 + 2, none⟩ (.int .u32 (t.1 : Nat))).setCell ⟨blk s, j * 10 + 3, none⟩ (.int .u32 (t.2 : Nat))) (putV V s j t) := by
  have h2 := (h.write hs (j * 10 + 2) (.int .u32 (t.1 : Nat))).write hs (j * 10 + 3) (.int .u32 (t.2 : Nat))
  have e : (fun i => if i = s then upd ((fun i => if i = s then upd (V s) (j * 10 + 2) (.int .u32 (t.1 : Nat)) else V i) s) (j * 10 + 3) (.int .u32 (t.2 : Nat)) else (fun i => if i = s then upd (V s) (j * 10 + 2) (.int .u32 (t.1 : Nat)) else V i) i) = putV V s j t := by
    funext i
    unfold putV
    by_cases e : i = s
    · subst e; simp
    · simp [e]
  rw [← e]
  exact h2
theorem SM.keep {C : Nat → Nat} {k ob : Nat} {blk : Nat → Nat} {w w' : World} {V : Nat → Nat → Value} (h : SM C k ob blk w V) (hb : Below w.heap.size w w') : SM C k ob blk w' V :=
  ⟨h.1.below hb h.1.lt, fun i hi => (h.2.1 i hi).below hb (h.2.1 i hi).lt, h.2.2.1, h.2.2.2⟩
/-- The variable InvalidRef. -/
def Gl (w : World) : Prop := w.cell? ⟨0, 0, none⟩ = some (.int .u32 4294967295) ∧ w.cell? ⟨0, 1, none⟩ = some (.int .u32 4294967295)
def FP (C : Nat → Nat) (k ob : Nat) (blk : Nat → Nat) (V : Nat → Nat → Value) (L : Nat × Nat → Option (Nat × Nat)) (s j : Nat) (t : Nat × Nat) (m : Nat) (w : World) (e : Ending) (w' : World) : Prop :=
  e = .returned (.agg #[.int .u32 (t.1 : Nat), .int .u32 (t.2 : Nat)]) ∧ ∃ V' L', SM C k ob blk w' V' ∧ Links C k V' L' ∧ Lk.Comp L L' ∧ (L' (s, j) = none ∨ L' (s, j) = some t) ∧ (∀ p n, Lk.Path L p t n → m < n → L' p = L p) ∧ SameBut V V' ∧ Chg (fun b => ∃ i, i < k ∧ b = blk i) w w'
theorem three_blocks (w w1 : World) (c0 c1 c2 : Array Value) (t0 t1 t2 : TypeId) (hb : Below (((w.alloc (.cells c0 t0)).alloc (.cells c1 t1)).alloc (.cells c2 t2)).heap.size (((w.alloc (.cells c0 t0)).alloc (.cells c1 t1)).alloc (.cells c2 t2)) w1) :
    w1.heap[w.heap.size]? = some (.cells c0 t0 (0, 0)) ∧ w1.heap[w.heap.size + 1]? = some (.cells c1 t1 (0, 0)) ∧ w1.heap[w.heap.size + 1 + 1]? = some (.cells c2 t2 (0, 0)) ∧ w.heap.size + 3 ≤ w1.heap.size := by
  have hz := hb.size
  simp at hz
  refine ⟨?_, ?_, ?_, by omega⟩
  · rw [hb.block _ (by simp; omega), Below.heap_alloc _ _ _ (by simp; omega), Below.heap_alloc _ _ _ (by simp)]; exact heap_alloc_new _ _
  · rw [hb.block _ (by simp), Below.heap_alloc _ _ _ (by simp)]
    have := heap_alloc_new (w.alloc (.cells c0 t0)) (.cells c1 t1)
    simpa using this
  · rw [hb.block _ (by simp)]
    have := heap_alloc_new ((w.alloc (.cells c0 t0)).alloc (.cells c1 t1)) (.cells c2 t2)
    simpa using this
theorem cellsB {w : World} {b i : Nat} {t : TypeId} {cs : Array Value} {v : Value} (h : w.heap[b]? = some (.cells cs t (0, 0))) (hv : cs[i]? = some v) : w.cell? ⟨b, i, none⟩ = some v := by
  rw [cell_of_row w b i cs t _ h, hv]
theorem Gl.below {w w' : World} (h : Gl w) (hb : Below w.heap.size w w') : Gl w' := by
  have h0 := lt_of_cell h.1
  exact ⟨by rw [hb.cell (p := ⟨0, 0, none⟩) h0]; exact h.1, by rw [hb.cell (p := ⟨0, 1, none⟩) h0]; exact h.2⟩
theorem Gl.chg {k ob : Nat} {blk : Nat → Nat} {w w' : World} (h : Gl w) (hb : ∀ i, i < k → blk i ≠ ob ∧ 0 < blk i) (hc : Chg (fun b => ∃ i, i < k ∧ b = blk i) w w') : Gl w' :=
  ⟨hc.cell h.1 (by rintro ⟨i, hi, e⟩; have := hb i hi; simp at e; omega), hc.cell h.2 (by rintro ⟨i, hi, e⟩; have := hb i hi; simp at e; omega)⟩
theorem chg_of {S : Nat → Prop} {w w' : World} (h : Below w.heap.size w w') : Chg S w w' := Chg.of_below h fun i h1 h2 => by omega
set_option maxHeartbeats 2000000 in
set_option maxRecDepth 100000 in
theorem follow0 (C : Nat → Nat) (k ob : Nat) (blk : Nat → Nat) (hk : k ≤ 4097) (hC : ∀ s, s < k → C s ≤ 65536) (s j : Nat) (V : Nat → Nat → Value) (L : Nat × Nat → Option (Nat × Nat)) (w : World) (hs : s < k) (hj : j < C s)
    (hM : SM C k ob blk w V) (hL : Links C k V L) (hG : Gl w) (hn : L (s, j) = none) :
    Calls Tryd.prog 16 #[.agg #[.slice (some ⟨ob, 0, none⟩) k k], .agg #[.int .u32 s, .int .u32 j]] w (FP C k ob blk V L s j (s, j) 0 w) := by
  have hB0 : Below w.heap.size w (((w.alloc (.cells #[.slice (some ⟨ob, 0, none⟩) k k] 33)).alloc (.cells #[.int .u32 s, .int .u32 j] 44)).alloc (.cells #[.int .u32 0, .int .u32 0] 44)) := by (repeat' (first | exact Below.refl _ _ | refine Below.drewR ?_ | (refine Below.alloc ?_ (by simp; omega) _) | (refine Below.alloc ?_ (by simp) _) | (refine Below.setCell ?_ (by simp; omega) _) | (refine Below.setCell ?_ (by simp) _)))
  have HM := Lib.hid hM
  have HB0 := Lib.hid hB0
  have HG := Lib.hid (getC C k ob blk V s j _ (hM.keep hB0) hs hj hk (hC s hs))
  have HGL := Lib.hid hG
  have HL := Lib.hid hL
  have HN := Lib.hid hn
  have he : ∀ w, (binOp .eql 44 (.agg #[.int .u32 4294967295, .int .u32 4294967295]) (.agg #[.int .u32 4294967295, .int .u32 4294967295])).run Tryd.prog w = .ok (.bool true) w := fun w => by rw [eql_ref]; rfl
  clear hM hB0 hG hL hn hC
  go_enter Tryd.func16, Tryd.ntmps16
  go_wp2_with fail
  refine HG.out.mono ?_
  rintro e w4 ⟨rfl, hb4⟩
  obtain ⟨h0, h1, h2, hz⟩ := three_blocks _ _ _ _ _ _ _ _ hb4
  have HB4 := Lib.hid (HB0.out.trans (hb4.mono HB0.out.size))
  have hM4 := HM.out.keep HB4.out
  obtain ⟨g0, g1⟩ := HGL.out.below HB4.out
  have l2 := (hM4.2.1 s hs).cell (j * 10 + 2) (by omega)
  have l3 := (hM4.2.1 s hs).cell (j * 10 + 3) (by omega)
  have hbl := (hM4.2.1 s hs).lt
  rcases HL.out s j hs hj with ⟨_, v2, v3⟩ | ⟨x, hx, _⟩
  · rw [v2] at l2
    rw [v3] at l3
    have b0 := cellsB (i := 0) h1 rfl
    have b1 := cellsB (i := 1) h1 rfl
    have d0 := cellsB (i := 0) h2 rfl
    have d1 := cellsB (i := 1) h2 rfl
    have f0 := frozen_of_row w4 (w.heap.size + 1 + 1) 0 _ 44 h2
    have f1 := frozen_of_row w4 (w.heap.size + 1 + 1) 1 _ 44 h2
    have HM4 := Lib.hid hM4
    clear hM4 h0 h1 h2 v2 v3 hb4
    go_wp2_with fail
    go_quiet (fail)
    go_wp2_with fail
    refine bodyPost_ret (v := .agg #[.int .u32 s, .int .u32 j]) (by simp [results, Tryd.results16, go_sem, d0, d1]) rfl ?_
    exact ⟨rfl, V, L, HM.out.keep (by (repeat' (first | exact HB4.out | refine Qd.below_drewN ?_ _ | (refine Below.setCell ?_ (show w.heap.size ≤ w.heap.size + 1 + 1 by omega) _)))), HL.out, Lk.Comp.refl L, .inl HN.out, fun _ _ _ _ => rfl, SameBut.refl V, chg_of (by (repeat' (first | exact HB4.out | refine Qd.below_drewN ?_ _ | (refine Below.setCell ?_ (show w.heap.size ≤ w.heap.size + 1 + 1 by omega) _))))⟩
  · rw [HN.out] at hx; cases hx
theorem belD {B : Nat} {a w : World} (h : Below B a w) : Below B a w.drew := h.trans ⟨rfl, rfl, rfl, Nat.le_refl _, fun _ _ => rfl⟩
theorem SM.keepB {C : Nat → Nat} {k ob B : Nat} {blk : Nat → Nat} {w w' : World} {V : Nat → Nat → Value} (h : SM C k ob blk w V) (ho : ob < B) (hl : ∀ i, i < k → blk i < B) (hb : Below B w w') : SM C k ob blk w' V :=
  ⟨h.1.below hb ho, fun i hi => (h.2.1 i hi).below hb (hl i hi), h.2.2.1, h.2.2.2⟩
theorem chgB {S : Nat → Prop} {w w6 wf : World} (h : Chg S w w6) (hb : Below w.heap.size w6 wf) : Chg S w wf :=
  h.transN (Chg.of_below (S := fun i => w.heap.size ≤ i) hb fun i _ hi => hi) fun i h1 h2 => by omega
/-- The end, the link left as it is. -/
theorem endS {C : Nat → Nat} {k ob : Nat} {blk : Nat → Nat} {s j m : Nat} {t : Nat × Nat} {V V' : Nat → Nat → Value} {L L' : Nat × Nat → Option (Nat × Nat)} {w W Wc w6 wf : World} (hM : SM C k ob blk w V)
    (h6 : SM C k ob blk w6 V' ∧ Links C k V' L' ∧ Lk.Comp L L' ∧ (∀ p n, Lk.Path L p t n → m < n → L' p = L p) ∧ SameBut V V' ∧ Chg (fun b => ∃ i, i < k ∧ b = blk i) Wc w6)
    (hL' : L' (s, j) = some t) (hW : Below w.heap.size w W) (hWc : Below W.heap.size W Wc) (hb : Below w.heap.size w6 wf) :
    FP C k ob blk V L s j t (m + 1) w (.returned (.agg #[.int .u32 (t.1 : Nat), .int .u32 (t.2 : Nat)])) wf := by
  obtain ⟨h1, h2, h3, h4, h5, h7⟩ := h6
  refine ⟨rfl, V', L', h1.keepB hM.1.lt (fun i hi => (hM.2.1 i hi).lt) hb, h2, h3, .inr hL', fun p n hp hn => h4 p n hp (by omega), h5, ?_⟩
  exact chgB ((chg_of (hW.trans (hWc.mono hW.size))).trans h7) hb
/-- The end, the link set anew. -/
theorem endP {C : Nat → Nat} {k ob : Nat} {blk : Nat → Nat} {s j m : Nat} {t x : Nat × Nat} {V V' : Nat → Nat → Value} {L L' : Nat × Nat → Option (Nat × Nat)} {w W Wc w6 wa wf : World} (hM : SM C k ob blk w V)
    (h6 : SM C k ob blk w6 V' ∧ Links C k V' L' ∧ Lk.Comp L L' ∧ (∀ p n, Lk.Path L p t n → m < n → L' p = L p) ∧ SameBut V V' ∧ Chg (fun b => ∃ i, i < k ∧ b = blk i) Wc w6) (hs : s < k)
    (hx : L (s, j) = some x) (hP : Lk.Path L x t m) (ht1 : t.1 < k) (ht2 : t.2 < C t.1)
    (hL' : L' (s, j) = some x) (hW : Below w.heap.size w W) (hWc : Below W.heap.size W Wc) (ha : Below w.heap.size w6 wa)
    (hb : Below w.heap.size ((wa.setCell ⟨blk s, j * 10 + 2, none⟩ (.int .u32 (t.1 : Nat))).setCell ⟨blk s, j * 10 + 2 + 1, none⟩ (.int .u32 (t.2 : Nat))) wf) :
    FP C k ob blk V L s j t (m + 1) w (.returned (.agg #[.int .u32 (t.1 : Nat), .int .u32 (t.2 : Nat)])) wf := by
  obtain ⟨h1, h2, h3, h4, h5, h7⟩ := h6
  have hbl : ∀ i, i < k → blk i < w.heap.size := fun i hi => (hM.2.1 i hi).lt
  have hP1 : Lk.Path L (s, j) t (m + 1) := .step hx hP
  refine ⟨rfl, putV V' s j t, Lk.lset L' (s, j) t, ((h1.keepB hM.1.lt hbl ha).put hs j t).keepB hM.1.lt hbl hb, h2.put ht1 ht2, h3.trans (Lk.Comp.lset (h3.root ⟨_, hP1⟩) (by rw [hL']; simp)), .inr (Lk.lset_same _ _ _), fun p n hp hn => ?_, h5.trans (put_same _ _ _ _), ?_⟩
  · have hne : p ≠ (s, j) := fun e => by
      subst e
      have := (hp.det hP1).2
      omega
    rw [Lk.lset_other _ _ _ _ hne]
    exact h4 p n hp (by omega)
  · exact chgB (((chgB ((chg_of (hW.trans (hWc.mono hW.size))).trans h7) ha).setCell (p := ⟨blk s, j * 10 + 2, none⟩) (.inl ⟨s, hs, rfl⟩) _).setCell (p := ⟨blk s, j * 10 + 2 + 1, none⟩) (.inl ⟨s, hs, rfl⟩) _) hb
set_option maxHeartbeats 4000000 in
set_option maxRecDepth 100000 in
theorem followS (C : Nat → Nat) (k ob : Nat) (blk : Nat → Nat) (hk : k ≤ 4097) (hC : ∀ s, s < k → C s ≤ 65536) (m : Nat)
    (ih : ∀ (s j : Nat) (t : Nat × Nat) (V : Nat → Nat → Value) (L : Nat × Nat → Option (Nat × Nat)) (w : World), s < k → j < C s →
      SM C k ob blk w V → Links C k V L → Gl w → Lk.Path L (s, j) t m → t.1 < k → t.2 < C t.1 →
      Calls Tryd.prog 16 #[.agg #[.slice (some ⟨ob, 0, none⟩) k k], .agg #[.int .u32 s, .int .u32 j]] w (FP C k ob blk V L s j t m w))
    (s j : Nat) (t x : Nat × Nat) (V : Nat → Nat → Value) (L : Nat × Nat → Option (Nat × Nat)) (w : World) (hs : s < k) (hj : j < C s)
    (hM : SM C k ob blk w V) (hL : Links C k V L) (hG : Gl w) (hn : L (s, j) = some x) (hP' : Lk.Path L x t m) (ht1 : t.1 < k) (ht2 : t.2 < C t.1) :
    Calls Tryd.prog 16 #[.agg #[.slice (some ⟨ob, 0, none⟩) k k], .agg #[.int .u32 s, .int .u32 j]] w (FP C k ob blk V L s j t (m + 1) w) := by
  have hB0 : Below w.heap.size w (((w.alloc (.cells #[.slice (some ⟨ob, 0, none⟩) k k] 33)).alloc (.cells #[.int .u32 s, .int .u32 j] 44)).alloc (.cells #[.int .u32 0, .int .u32 0] 44)) := by (repeat' (first | exact Below.refl _ _ | refine Below.drewR ?_ | (refine Below.alloc ?_ (by simp; omega) _) | (refine Below.alloc ?_ (by simp) _) | (refine Below.setCell ?_ (by simp; omega) _) | (refine Below.setCell ?_ (by simp) _)))
  have HM := Lib.hid hM
  have HB0 := Lib.hid hB0
  have HG := Lib.hid (getC C k ob blk V s j _ (hM.keep hB0) hs hj hk (hC s hs))
  have HGL := Lib.hid hG
  have HL := Lib.hid hL
  have HN := Lib.hid hn
  have HP := Lib.hid hP'
  have hx : x.1 < k ∧ x.2 < C x.1 ∧ V s (j * 10 + 2) = .int .u32 (x.1 : Nat) ∧ V s (j * 10 + 3) = .int .u32 (x.2 : Nat) := by
    rcases hL s j hs hj with ⟨e, _⟩ | ⟨y, e, q⟩
    · rw [hn] at e; cases e
    · rw [hn] at e
      injection e with e
      subst e; exact q
  obtain ⟨hx1, hx2, v2, v3⟩ := hx
  have he : ∀ w, (binOp .eql 44 (.agg #[.int .u32 (x.1 : Nat), .int .u32 (x.2 : Nat)]) (.agg #[.int .u32 4294967295, .int .u32 4294967295])).run Tryd.prog w = .ok (.bool false) w := fun w => by
    rw [eql_ref]
    have : ((x.1 : Nat) : Int) ≠ 4294967295 := by omega
    simp [this]
  have HV2 := Lib.hid v2
  have HV3 := Lib.hid v3
  have HC := Lib.hid hC
  clear hM hB0 hG hL hn hC hP' v2 v3
  go_enter Tryd.func16, Tryd.ntmps16
  go_wp2_with fail
  refine HG.out.mono ?_
  rintro e w4 ⟨rfl, hb4⟩
  obtain ⟨h0, h1, h2, hz⟩ := three_blocks _ _ _ _ _ _ _ _ hb4
  have HB4 := Lib.hid (HB0.out.trans (hb4.mono HB0.out.size))
  have hM4 := HM.out.keep HB4.out
  have HG4 := Lib.hid (HGL.out.below HB4.out)
  obtain ⟨g0, g1⟩ := HGL.out.below HB4.out
  have l2 := (hM4.2.1 s hs).cell (j * 10 + 2) (by omega)
  have l3 := (hM4.2.1 s hs).cell (j * 10 + 3) (by omega)
  have hbl := (hM4.2.1 s hs).lt
  rw [HV2.out] at l2
  rw [HV3.out] at l3
  have c0 := cellsB (i := 0) h0 rfl
  have H0 := Lib.hid h0
  have H2 := Lib.hid h2
  have HM4 := Lib.hid hM4
  clear hM4 h0 h1 h2 hb4
  go_wp2_with fail
  go_quiet (fail)
  go_wp2_with fail
  have MW := Lib.hid (show SM C k ob blk (w4.drewN nq) V from HM4.out)
  have BW := Lib.hid (show Below w.heap.size w (w4.drewN nq) from Qd.below_drewN HB4.out nq)
  have GW := Lib.hid (show Gl (w4.drewN nq) from HG4.out)
  have W0 := Lib.hid (show (w4.drewN nq).heap[w.heap.size]? = some (.cells #[.slice (some ⟨ob, 0, none⟩) k k] 33 (0, 0)) from H0.out)
  have W2 := Lib.hid (show (w4.drewN nq).heap[w.heap.size + 1 + 1]? = some (.cells #[.int .u32 0, .int .u32 0] 44 (0, 0)) from H2.out)
  have wz : w.heap.size + 3 ≤ (w4.drewN nq).heap.size := hz
  clear HM4 HB4 HG4 H0 H2 hz g0 g1 l2 l3 hbl c0
  generalize w4.drewN nq = W at MW BW GW W0 W2 wz ⊢
  have c0 := cellsB (i := 0) W0.out rfl
  have l2 := (MW.out.2.1 s hs).cell (j * 10 + 2) (by have := HC.out s hs; omega)
  have l3 := (MW.out.2.1 s hs).cell (j * 10 + 3) (by have := HC.out s hs; omega)
  have hbl := (MW.out.2.1 s hs).lt
  rw [HV2.out] at l2
  rw [HV3.out] at l3
  have z0 : w.heap.size < W.heap.size := by omega
  have zz : ∀ i, i < k → blk i < w.heap.size := fun i hi => (HM.out.2.1 i hi).lt
  have HLOW := Lib.hid zz
  have hbw : blk s < w.heap.size := zz s hs
  have IH := Lib.hid ih
  clear zz ih
  have HR : Hid (∀ w6 V' L', SM C k ob blk w6 V' → Links C k V' L' → (∀ p n, Lk.Path L p t n → m < n → L' p = L p) →
      w6.cell? ⟨blk s, j * 10 + 2, none⟩ = some (.int .u32 (x.1 : Nat)) ∧ w6.cell? ⟨blk s, j * 10 + 3, none⟩ = some (.int .u32 (x.2 : Nat)) ∧ w6.frozen? ⟨blk s, j * 10 + 2, none⟩ = false ∧ w6.frozen? ⟨blk s, j * 10 + 3, none⟩ = false ∧ L' (s, j) = some x) := Lib.hid (by
    intro w6 V' L' h1 h2 h3
    have e : L' (s, j) = some x := by rw [h3 _ _ (.step HN.out HP.out) (by omega)]; exact HN.out
    rcases h2 s j hs hj with ⟨e2, _⟩ | ⟨y, hy, _, _, u2, u3⟩
    · rw [e] at e2; cases e2
    · rw [e] at hy
      injection hy with hy
      subst hy
      have l2 := (h1.2.1 s hs).cell (j * 10 + 2) (by omega)
      have l3 := (h1.2.1 s hs).cell (j * 10 + 3) (by omega)
      rw [u2] at l2
      rw [u3] at l3
      exact ⟨l2, l3, (h1.2.1 s hs).frozen _, (h1.2.1 s hs).frozen _, e⟩)
  have HT : Hid (∀ Wc w6 : World, Below W.heap.size W Wc → Chg (fun b => ∃ i, i < k ∧ b = blk i) Wc w6 → w6.heap[w.heap.size]? = some (.cells #[.slice (some ⟨ob, 0, none⟩) k k] 33 (0, 0)) ∧ w6.heap[w.heap.size + 1 + 1]? = some (.cells #[.int .u32 0, .int .u32 0] 44 (0, 0)) ∧ w.heap.size + 3 ≤ w6.heap.size) := Lib.hid (by
    intro Wc w6 h1 h2
    have hz := h1.size
    refine ⟨?_, ?_, Nat.le_trans wz (Nat.le_trans hz h2.size)⟩
    · exact (h2.block _ (by omega) (by rintro ⟨i, hi, e⟩; have := HLOW.out i hi; omega)).trans ((h1.block _ (by omega)).trans W0.out)
    · exact (h2.block _ (by omega) (by rintro ⟨i, hi, e⟩; have := HLOW.out i hi; omega)).trans ((h1.block _ (by omega)).trans W2.out))
  clear hbl z0
  have n1 : ¬ W.heap.size = w.heap.size := by omega
  have n2 : ¬ w.heap.size = W.heap.size := by omega
  have n3 : ¬ W.heap.size = w.heap.size + 1 + 1 := by omega
  have n4 : ¬ w.heap.size + 1 + 1 = W.heap.size := by omega
  have n5 : ¬ W.heap.size = blk s := by omega
  have n6 : ¬ blk s = W.heap.size := by omega
  by_cases hxt : x = t
  · subst hxt
    have he2 : ∀ w, (binOp .neq 44 (.agg #[.int .u32 (x.1 : Nat), .int .u32 (x.2 : Nat)]) (.agg #[.int .u32 (x.1 : Nat), .int .u32 (x.2 : Nat)])).run Tryd.prog w = .ok (.bool false) w := fun w => by rw [neq_ref]; simp
    go_region_held3 (fun w' => w'.cell? ⟨w.heap.size, 0, none⟩ = some (.slice (some ⟨ob, 0, none⟩) k k) ∧ w'.cell? ⟨blk s, j * 10 + 2, none⟩ = some (.int .u32 (x.1 : Nat)) ∧ w'.cell? ⟨blk s, j * 10 + 3, none⟩ = some (.int .u32 (x.2 : Nat)))
      (first | exact ⟨c0', l2', l3'⟩ | exact ⟨c0, l2, l3⟩ | go_keep)
      ((go_at_call 16; first
        | (
          refine (IH.out x.1 x.2 x V L _ hx1 hx2 (MW.out.keep (by first | exact belD (Below.refl _ _) | exact belD ((Below.refl _ _).alloc (Nat.le_refl _) _))) HL.out (GW.out.below (by first | exact belD (Below.refl _ _) | exact belD ((Below.refl _ _).alloc (Nat.le_refl _) _))) HP.out ht1 ht2).mono ?_
          rintro e w6 ⟨rfl, V', L', hM6, hL6, hC6, hr6, hU6, hS6, hch⟩
          have HA := hch.block W.heap.size (show W.heap.size < (W.alloc _).heap.size by simp) (by rintro ⟨i, hi, e⟩; have := HLOW.out i hi; omega)
          have HA := HA.trans (heap_alloc_new W _)
          have a0 := cellsB (i := 0) HA rfl
          have a1 := cellsB (i := 1) HA rfl
          have fa0 := frozen_of_row w6 W.heap.size 0 _ 44 HA
          have fa1 := frozen_of_row w6 W.heap.size 1 _ 44 HA
          have HA := Lib.hid HA
          obtain ⟨H0, H2, z6⟩ := HT.out _ _ (by first | exact belD (Below.refl _ _) | exact belD ((Below.refl _ _).alloc (Nat.le_refl _) _)) hch
          obtain ⟨l2', l3', y2, y3, hL'⟩ := HR.out _ _ _ hM6 hL6 hU6
          have c0' := cellsB (i := 0) H0 rfl
          have HF := Lib.hid (And.intro hM6 (And.intro hL6 (And.intro hC6 (And.intro hU6 (And.intro hS6 hch)))))
          clear hM6 hL6 hC6 hU6 hS6 hch hr6)
        | (
          refine (IH.out x.1 x.2 x V L _ hx1 hx2 (MW.out.keep (by first | exact belD (Below.refl _ _) | exact belD ((Below.refl _ _).alloc (Nat.le_refl _) _))) HL.out (GW.out.below (by first | exact belD (Below.refl _ _) | exact belD ((Below.refl _ _).alloc (Nat.le_refl _) _))) HP.out ht1 ht2).mono ?_
          rintro e w6 ⟨rfl, V', L', hM6, hL6, hC6, hr6, hU6, hS6, hch⟩
          skip
          obtain ⟨H0, H2, z6⟩ := HT.out _ _ (by first | exact belD (Below.refl _ _) | exact belD ((Below.refl _ _).alloc (Nat.le_refl _) _)) hch
          obtain ⟨l2', l3', y2, y3, hL'⟩ := HR.out _ _ _ hM6 hL6 hU6
          have c0' := cellsB (i := 0) H0 rfl
          have HF := Lib.hid (And.intro hM6 (And.intro hL6 (And.intro hC6 (And.intro hU6 (And.intro hS6 hch)))))
          clear hM6 hL6 hC6 hU6 hS6 hch hr6)))
    · have d0 := cellsB (i := 0) H2 rfl
      have d1 := cellsB (i := 1) H2 rfl
      have f0 := frozen_of_row w6 (w.heap.size + 1 + 1) 0 _ 44 H2
      have f1 := frozen_of_row w6 (w.heap.size + 1 + 1) 1 _ 44 H2
      have m1 : w.heap.size + 1 + 1 < w6.heap.size := by omega
      have m2 : ¬ w6.heap.size = w.heap.size := by omega
      have m3 : ¬ w6.heap.size = w.heap.size + 1 + 1 := by omega
      have m4 : ¬ w6.heap.size = blk s := by omega
      have m5 : ¬ blk s = w6.heap.size := by omega
      have m6 : ¬ w.heap.size + 1 + 1 = w6.heap.size := by omega
      have m7 : ¬ blk s = w.heap.size + 1 + 1 := by omega
      have m8 : blk s < w6.heap.size := by omega
      have H2 := Lib.hid H2
      have H0 := Lib.hid H0
      go_wp2_with fail
      go_quiet (fail)
      go_wp2_with fail
      refine bodyPost_ret (v := .agg #[.int .u32 (x.1 : Nat), .int .u32 (x.2 : Nat)]) (by rw [results, Tryd.results16]; go_simp) rfl ?_
      exact endS HM.out HF.out hL' BW.out (by first | exact belD (Below.refl _ _) | exact belD ((Below.refl _ _).alloc (Nat.le_refl _) _)) (by (repeat' (first | with_reducible exact Below.refl _ _ | with_reducible refine Qd.below_drewN ?_ _ | (with_reducible refine Below.setCell ?_ (show w.heap.size ≤ _ by (first | exact Nat.le_refl _ | (dsimp only; omega))) _) | (with_reducible refine Below.alloc ?_ (by omega) _))))
    · have d0 := cellsB (i := 0) H2 rfl
      have d1 := cellsB (i := 1) H2 rfl
      have f0 := frozen_of_row w6 (w.heap.size + 1 + 1) 0 _ 44 H2
      have f1 := frozen_of_row w6 (w.heap.size + 1 + 1) 1 _ 44 H2
      have m1 : w.heap.size + 1 + 1 < w6.heap.size := by omega
      have m2 : ¬ w6.heap.size = w.heap.size := by omega
      have m3 : ¬ w6.heap.size = w.heap.size + 1 + 1 := by omega
      have m4 : ¬ w6.heap.size = blk s := by omega
      have m5 : ¬ blk s = w6.heap.size := by omega
      have m6 : ¬ w.heap.size + 1 + 1 = w6.heap.size := by omega
      have m7 : ¬ blk s = w.heap.size + 1 + 1 := by omega
      have m8 : blk s < w6.heap.size := by omega
      have H2 := Lib.hid H2
      have H0 := Lib.hid H0
      go_wp2_with fail
      go_quiet (fail)
      go_wp2_with fail
      refine bodyPost_ret (v := .agg #[.int .u32 (x.1 : Nat), .int .u32 (x.2 : Nat)]) (by first | (simp [results, Tryd.results16, go_sem, d0, d1]; done) | (simp [results, Tryd.results16, go_sem, d0, d1, m1, m2, m3, m4, m5, m6, m7, m8, n1, n2, n3, n4, n5, n6]; done) | (rw [results, Tryd.results16]; go_simp)) rfl ?_
      exact endS HM.out HF.out hL' BW.out (by first | exact belD (Below.refl _ _) | exact belD ((Below.refl _ _).alloc (Nat.le_refl _) _)) (by (repeat' (first | with_reducible exact Below.refl _ _ | with_reducible refine Qd.below_drewN ?_ _ | (with_reducible refine Below.setCell ?_ (show w.heap.size ≤ _ by (first | exact Nat.le_refl _ | (dsimp only; omega))) _) | (with_reducible refine Below.alloc ?_ (by omega) _))))
  · have he2 : ∀ w, (binOp .neq 44 (.agg #[.int .u32 (x.1 : Nat), .int .u32 (x.2 : Nat)]) (.agg #[.int .u32 (t.1 : Nat), .int .u32 (t.2 : Nat)])).run Tryd.prog w = .ok (.bool true) w := fun w => by
      rw [neq_ref]
      have : ¬ (((x.1 : Nat) : Int) = ((t.1 : Nat) : Int) ∧ ((x.2 : Nat) : Int) = ((t.2 : Nat) : Int)) := fun ⟨a, b⟩ => hxt (Prod.ext (by omega) (by omega))
      congr 2
      rw [Bool.not_eq_true', Bool.eq_false_iff]
      simpa using this
    go_region_held3 (fun w' => w'.cell? ⟨w.heap.size, 0, none⟩ = some (.slice (some ⟨ob, 0, none⟩) k k) ∧ w'.cell? ⟨blk s, j * 10 + 2, none⟩ = some (.int .u32 (x.1 : Nat)) ∧ w'.cell? ⟨blk s, j * 10 + 3, none⟩ = some (.int .u32 (x.2 : Nat)))
      (first | exact ⟨c0', l2', l3'⟩ | exact ⟨c0, l2, l3⟩ | go_keep)
      ((go_at_call 16; first
        | (
          refine (IH.out x.1 x.2 t V L _ hx1 hx2 (MW.out.keep (by first | exact belD (Below.refl _ _) | exact belD ((Below.refl _ _).alloc (Nat.le_refl _) _))) HL.out (GW.out.below (by first | exact belD (Below.refl _ _) | exact belD ((Below.refl _ _).alloc (Nat.le_refl _) _))) HP.out ht1 ht2).mono ?_
          rintro e w6 ⟨rfl, V', L', hM6, hL6, hC6, hr6, hU6, hS6, hch⟩
          have HA := hch.block W.heap.size (show W.heap.size < (W.alloc _).heap.size by simp) (by rintro ⟨i, hi, e⟩; have := HLOW.out i hi; omega)
          have HA := HA.trans (heap_alloc_new W _)
          have a0 := cellsB (i := 0) HA rfl
          have a1 := cellsB (i := 1) HA rfl
          have fa0 := frozen_of_row w6 W.heap.size 0 _ 44 HA
          have fa1 := frozen_of_row w6 W.heap.size 1 _ 44 HA
          have HA := Lib.hid HA
          obtain ⟨H0, H2, z6⟩ := HT.out _ _ (by first | exact belD (Below.refl _ _) | exact belD ((Below.refl _ _).alloc (Nat.le_refl _) _)) hch
          obtain ⟨l2', l3', y2, y3, hL'⟩ := HR.out _ _ _ hM6 hL6 hU6
          have c0' := cellsB (i := 0) H0 rfl
          have HF := Lib.hid (And.intro hM6 (And.intro hL6 (And.intro hC6 (And.intro hU6 (And.intro hS6 hch)))))
          clear hM6 hL6 hC6 hU6 hS6 hch hr6)
        | (
          refine (IH.out x.1 x.2 t V L _ hx1 hx2 (MW.out.keep (by first | exact belD (Below.refl _ _) | exact belD ((Below.refl _ _).alloc (Nat.le_refl _) _))) HL.out (GW.out.below (by first | exact belD (Below.refl _ _) | exact belD ((Below.refl _ _).alloc (Nat.le_refl _) _))) HP.out ht1 ht2).mono ?_
          rintro e w6 ⟨rfl, V', L', hM6, hL6, hC6, hr6, hU6, hS6, hch⟩
          skip
          obtain ⟨H0, H2, z6⟩ := HT.out _ _ (by first | exact belD (Below.refl _ _) | exact belD ((Below.refl _ _).alloc (Nat.le_refl _) _)) hch
          obtain ⟨l2', l3', y2, y3, hL'⟩ := HR.out _ _ _ hM6 hL6 hU6
          have c0' := cellsB (i := 0) H0 rfl
          have HF := Lib.hid (And.intro hM6 (And.intro hL6 (And.intro hC6 (And.intro hU6 (And.intro hS6 hch)))))
          clear hM6 hL6 hC6 hU6 hS6 hch hr6)))
    · have d0 := cellsB (i := 0) H2 rfl
      have d1 := cellsB (i := 1) H2 rfl
      have f0 := frozen_of_row w6 (w.heap.size + 1 + 1) 0 _ 44 H2
      have f1 := frozen_of_row w6 (w.heap.size + 1 + 1) 1 _ 44 H2
      have m1 : w.heap.size + 1 + 1 < w6.heap.size := by omega
      have m2 : ¬ w6.heap.size = w.heap.size := by omega
      have m3 : ¬ w6.heap.size = w.heap.size + 1 + 1 := by omega
      have m4 : ¬ w6.heap.size = blk s := by omega
      have m5 : ¬ blk s = w6.heap.size := by omega
      have m6 : ¬ w.heap.size + 1 + 1 = w6.heap.size := by omega
      have m7 : ¬ blk s = w.heap.size + 1 + 1 := by omega
      have m8 : blk s < w6.heap.size := by omega
      have H2 := Lib.hid H2
      have H0 := Lib.hid H0
      go_wp2_with fail
      go_quiet (fail)
      go_wp2_with fail
      refine bodyPost_ret (v := .agg #[.int .u32 (t.1 : Nat), .int .u32 (t.2 : Nat)]) (by rw [results, Tryd.results16]; go_simp) rfl ?_
      exact endP (wa := (w6.alloc (.cells #[.int .u32 (t.1 : Nat), .int .u32 (t.2 : Nat)] 44)).drewN nq) HM.out HF.out hs HN.out HP.out ht1 ht2 hL' BW.out (by first | exact belD (Below.refl _ _) | exact belD ((Below.refl _ _).alloc (Nat.le_refl _) _)) (by (repeat' (first | with_reducible exact Below.refl _ _ | with_reducible refine Qd.below_drewN ?_ _ | (with_reducible refine Below.setCell ?_ (show w.heap.size ≤ _ by (first | exact Nat.le_refl _ | (dsimp only; omega))) _) | (with_reducible refine Below.alloc ?_ (by omega) _)))) (by (repeat' (first | with_reducible exact Below.refl _ _ | with_reducible refine Qd.below_drewN ?_ _ | (with_reducible refine Below.setCell ?_ (show w.heap.size ≤ _ by (first | exact Nat.le_refl _ | (dsimp only; omega))) _) | (with_reducible refine Below.alloc ?_ (by omega) _))))
    · have d0 := cellsB (i := 0) H2 rfl
      have d1 := cellsB (i := 1) H2 rfl
      have f0 := frozen_of_row w6 (w.heap.size + 1 + 1) 0 _ 44 H2
      have f1 := frozen_of_row w6 (w.heap.size + 1 + 1) 1 _ 44 H2
      have m1 : w.heap.size + 1 + 1 < w6.heap.size := by omega
      have m2 : ¬ w6.heap.size = w.heap.size := by omega
      have m3 : ¬ w6.heap.size = w.heap.size + 1 + 1 := by omega
      have m4 : ¬ w6.heap.size = blk s := by omega
      have m5 : ¬ blk s = w6.heap.size := by omega
      have m6 : ¬ w.heap.size + 1 + 1 = w6.heap.size := by omega
      have m7 : ¬ blk s = w.heap.size + 1 + 1 := by omega
      have m8 : blk s < w6.heap.size := by omega
      have H2 := Lib.hid H2
      have H0 := Lib.hid H0
      go_wp2_with fail
      go_quiet (fail)
      go_wp2_with fail
      refine bodyPost_ret (v := .agg #[.int .u32 (t.1 : Nat), .int .u32 (t.2 : Nat)]) (by first | (simp [results, Tryd.results16, go_sem, d0, d1]; done) | (simp [results, Tryd.results16, go_sem, d0, d1, m1, m2, m3, m4, m5, m6, m7, m8, n1, n2, n3, n4, n5, n6]; done) | (rw [results, Tryd.results16]; go_simp)) rfl ?_
      exact endP (wa := ((w6.setCell ⟨W.heap.size, 0, none⟩ (.int .u32 (t.1 : Nat))).setCell ⟨W.heap.size, 1, none⟩ (.int .u32 (t.2 : Nat))).drewN nq) HM.out HF.out hs HN.out HP.out ht1 ht2 hL' BW.out (by first | exact belD (Below.refl _ _) | exact belD ((Below.refl _ _).alloc (Nat.le_refl _) _)) (by (repeat' (first | with_reducible exact Below.refl _ _ | with_reducible refine Qd.below_drewN ?_ _ | (with_reducible refine Below.setCell ?_ (show w.heap.size ≤ _ by (first | exact Nat.le_refl _ | (dsimp only; omega))) _) | (with_reducible refine Below.alloc ?_ (by omega) _)))) (by (repeat' (first | with_reducible exact Below.refl _ _ | with_reducible refine Qd.below_drewN ?_ _ | (with_reducible refine Below.setCell ?_ (show w.heap.size ≤ _ by (first | exact Nat.le_refl _ | (dsimp only; omega))) _) | (with_reducible refine Below.alloc ?_ (by omega) _))))
theorem follow (C : Nat → Nat) (k ob : Nat) (blk : Nat → Nat) (hk : k ≤ 4097) (hC : ∀ s, s < k → C s ≤ 65536) (m : Nat) : ∀ (s j : Nat) (t : Nat × Nat) (V : Nat → Nat → Value) (L : Nat × Nat → Option (Nat × Nat)) (w : World), s < k → j < C s →
    SM C k ob blk w V → Links C k V L → Gl w → Lk.Path L (s, j) t m → t.1 < k → t.2 < C t.1 →
    Calls Tryd.prog 16 #[.agg #[.slice (some ⟨ob, 0, none⟩) k k], .agg #[.int .u32 s, .int .u32 j]] w (FP C k ob blk V L s j t m w) := by
  induction m with
  | zero =>
    intro s j t V L w hs hj hM hL hG hP ht1 ht2
    cases hP with
    | done hn => exact follow0 C k ob blk hk hC s j V L w hs hj hM hL hG hn
  | succ m ih =>
    intro s j t V L w hs hj hM hL hG hP ht1 ht2
    cases hP with
    | @step _ x _ _ hn hP' => exact followS C k ob blk hk hC m ih s j t x V L w hs hj hM hL hG hn hP' ht1 ht2
/-- The links as a chain. -/
def Lt (T : Nat → Int) : Nat → Option Nat := fun x => if T x < 0 then none else some (T x).toNat
def RtC (n : Nat) (T : Nat → Int) (q : Nat) (w : World) (e : Ending) (w' : World) : Prop := (∃ r m : Nat, e = .returned (.int .i32 r) ∧ Lk.Path (Lt T) q r m ∧ r < n) ∧ w' = w
set_option maxRecDepth 100000 in
theorem rootC (b off cap n : Nat) (T : Nat → Int) (q : Nat) (w : World) (h : Fsl w (some ⟨b, off, none⟩) n (fun i => .int .i32 (T i))) (hT : ∀ i, i < n → -1 ≤ T i ∧ T i < i) (hq : q < n) (hn : n ≤ 65536) :
    Calls Tryd.prog 13 #[.slice (some ⟨b, off, none⟩) n cap, .int .i32 q] w (RtC n T q w) := by
  have HT := Lib.hid hT
  clear hT
  go_enter Tryd.func13, Tryd.ntmps13
  go_wp2_with fail
  go_loop [5] (fun r => ∃ x : Nat, r = .int .i32 x ∧ x < n ∧ Hid (∀ t m, Lk.Path (Lt T) x t m → ∃ m', Lk.Path (Lt T) q t m')) (fun r => (intOf r).toNat)
  case atStart => exact ⟨q, rfl, hq, Lib.hid fun t m h => ⟨m, h⟩⟩
  case round =>
    obtain ⟨x, rfl, hx, HP⟩ := hrel
    have hc := h.cell x hx
    obtain ⟨t0, t1⟩ := HT.out x hx
    have hx2 : (x : Int) < (n : Int) := by omega
    by_cases hneg : T x < 0
    · have hg : decide (0 ≤ T x) = false := by simpa using hneg
      have hg2 : ¬ 0 ≤ T x := by omega
      have HN := Lib.hid hneg
      clear hneg
      go_wp2_with fail
      go_ret
      obtain ⟨m, hm⟩ := HP.out x 0 (.done (by unfold Lt; rw [if_pos HN.out]))
      exact ⟨⟨x, m, rfl, hm, hx⟩, rfl⟩
    · have hg : decide (0 ≤ T x) = true := by simpa using hneg
      have hg2 : 0 ≤ T x := by omega
      have HN := Lib.hid hneg
      clear hneg
      go_wp2_with fail
      go_round
      case rel => exact ⟨(T x).toNat, by rw [Int.toNat_of_nonneg hg2], by omega, Lib.hid fun t m hp => HP.out t (m + 1) (.step (by unfold Lt; rw [if_neg HN.out]) hp)⟩
      case measure => simp [intOf]; omega
/-- The guard on sizes: what it lets through. -/
def Zb (n : Nat) (S : Nat → ByteArray) (w : World) (e : Ending) (w' : World) : Prop := ∃ v, e = .returned (.bool v) ∧ (v = true → ∀ i, i < n → (S i).size ≤ 1048576) ∧ w = w'
set_option maxHeartbeats 2000000 in
theorem zb (a0 : Option Addr) (n c0 : Nat) (S : Nat → ByteArray) (a1 : Option Addr) (l1 c1 : Nat) (a2 : Option Addr) (l2 c2 : Nat) (q : Int) (w : World) (h1 : Fsl w a0 n (fun i => .string (S i)))
    (m0 : n ≤ maxLen) (m1 : l1 ≤ maxLen) (m2 : l2 ≤ maxLen) (z1 : ∀ i, i < n → (S i).size ≤ maxLen) :
    Calls Tryd.prog 4 #[.slice a0 n c0, .slice a1 l1 c1, .slice a2 l2 c2, .int .i32 q] w (Zb n S w) := by
  unfold maxLen at m0 m1 m2 z1
  have Z1 := Lib.hid z1
  clear z1
  by_cases g1 : (1048576 : Int) < (n : Int)
  · go_enter Tryd.func4, Tryd.ntmps4
    go_wp2_with fail
    go_ret
    exact ⟨_, rfl, (fun e => by cases e), rfl⟩
  go_enter Tryd.func4, Tryd.ntmps4
  go_wp2_with fail
  go_loop [9, 10] (fun z i => ∃ (k : Nat) (m : Int), k ≤ n ∧ i = .int .i64 k ∧ z = .int .i64 m ∧ 0 ≤ m ∧ m ≤ 1048576 ∧ Hid (∀ i, i < k → (S i).size ≤ 1048576)) (fun _ i => n - (intOf i).toNat)
  case atStart => exact ⟨0, _, by omega, rfl, rfl, by omega, by omega, Lib.hid fun i hi => by omega⟩
  case round =>
    obtain ⟨k, m, hk, rfl, rfl, hn0, hn1, HA⟩ := hrel
    by_cases hlt : k < n
    · obtain ⟨b, off, rfl, hlb, hc⟩ := h1.at k hlt
      have hs := Z1.out k hlt
      have hk2 : (k : Int) < (n : Int) := by omega
      by_cases l1 : (1048576 : Int) < ((S k).size : Int)
      · go_wp2_with fail
        go_ret
        exact ⟨_, rfl, (fun e => by cases e), rfl⟩
      by_cases l2 : (1048576 : Int) < m + ((S k).size : Int)
      · go_wp2_with fail
        go_ret
        exact ⟨_, rfl, (fun e => by cases e), rfl⟩
      go_wp2_with fail
      go_round
      case rel => exact ⟨k + 1, _, by omega, by go_num, rfl, by omega, by omega, Lib.hid fun i hi => by
        by_cases e : i = k
        · subst e; omega
        · exact HA.out i (by omega)⟩
      case measure => simp [intOf]; omega
    · have HAn : Hid (∀ i, i < n → (S i).size ≤ 1048576) := Lib.hid fun i hi => HA.out i (by omega)
      by_cases g3 : (1048576 : Int) < (l1 : Int)
      · go_wp2_with fail
        go_ret
        exact ⟨_, rfl, (fun e => by cases e), rfl⟩
      by_cases g4 : (1048576 : Int) < m + (l1 : Int)
      · go_wp2_with fail
        go_ret
        exact ⟨_, rfl, (fun e => by cases e), rfl⟩
      by_cases g5 : (1048576 : Int) < (l2 : Int)
      · go_wp2_with fail
        go_ret
        exact ⟨_, rfl, (fun e => by cases e), rfl⟩
      by_cases g6 : (1048576 : Int) < m + (l1 : Int) + (l2 : Int)
      · go_wp2_with fail
        go_ret
        exact ⟨_, rfl, (fun e => by cases e), rfl⟩
      go_wp2_with fail
      go_ret
      exact ⟨_, rfl, fun _ => HAn.out, rfl⟩
/-- What the premise lets through. -/
def Fit (n l1 l2 : Nat) (T : Nat → Int) (q : Int) : Prop := 0 < n ∧ n ≤ 65536 ∧ l1 = n ∧ l2 = n ∧ 0 ≤ q ∧ q < n ∧ ∀ i, i < n → -1 ≤ T i ∧ T i < i
def Ft (n l1 l2 : Nat) (T : Nat → Int) (q : Int) (w : World) (e : Ending) (w' : World) : Prop := ∃ v, e = .returned (.bool v) ∧ (v = true → Fit n l1 l2 T q) ∧ w = w'
set_option maxHeartbeats 2000000 in
theorem fit (a0 : Option Addr) (n c0 : Nat) (S : Nat → ByteArray) (a1 : Option Addr) (l1 c1 : Nat) (a2 : Option Addr) (l2 c2 : Nat) (T : Nat → Int) (q : Int) (w : World) (h1 : Fsl w a0 n (fun i => .string (S i))) (h2 : Fsl w a2 l2 (fun i => .int .i32 (T i)))
    (m0 : n ≤ maxLen) (m1 : l1 ≤ maxLen) (m2 : l2 ≤ maxLen) (z1 : ∀ i, i < n → (S i).size ≤ 1048576) (hq : -2147483648 ≤ q ∧ q ≤ 2147483647) (hT : ∀ i, i < l2 → -2147483648 ≤ T i ∧ T i ≤ 2147483647) :
    Calls Tryd.prog 5 #[.slice a0 n c0, .slice a1 l1 c1, .slice a2 l2 c2, .int .i32 q] w (Ft n l1 l2 T q w) := by
  unfold maxLen at m0 m1 m2
  have Z1 := Lib.hid z1
  have H1 := Lib.hid h1
  have H2 := Lib.hid h2
  have HB := Lib.hid hT
  clear hT
  clear z1 h1 h2
  by_cases g1 : (65536 : Int) < (n : Int)
  · go_enter Tryd.func5, Tryd.ntmps5
    go_wp2_with fail
    go_ret
    exact ⟨_, rfl, (fun e => by cases e), rfl⟩
  by_cases g2 : (65536 : Int) < (l1 : Int)
  · go_enter Tryd.func5, Tryd.ntmps5
    go_wp2_with fail
    go_ret
    exact ⟨_, rfl, (fun e => by cases e), rfl⟩
  by_cases g3 : (65536 : Int) < (l2 : Int)
  · go_enter Tryd.func5, Tryd.ntmps5
    go_wp2_with fail
    go_ret
    exact ⟨_, rfl, (fun e => by cases e), rfl⟩
  go_enter Tryd.func5, Tryd.ntmps5
  go_wp2_with fail
  go_loop [9, 10] (fun z i => ∃ (k : Nat) (m : Int), k ≤ n ∧ i = .int .i64 k ∧ z = .int .i64 m ∧ 0 ≤ m ∧ m ≤ 1376256) (fun _ i => n - (intOf i).toNat)
  case atStart => exact ⟨0, _, by omega, rfl, rfl, by omega, by omega⟩
  case round =>
    obtain ⟨k, m, hk, rfl, rfl, hn0, hn1⟩ := hrel
    by_cases hlt : k < n
    · obtain ⟨b, off, rfl, hlb, hc⟩ := H1.out.at k hlt
      have hs := Z1.out k hlt
      have hk2 : (k : Int) < (n : Int) := by omega
      by_cases l2 : (1048576 : Int) < m + ((S k).size : Int)
      · go_wp2_with fail
        go_ret
        exact ⟨_, rfl, (fun e => by cases e), rfl⟩
      go_wp2_with fail
      go_round
      case rel => exact ⟨k + 1, _, by omega, by go_num, rfl, by omega, by omega⟩
      case measure => simp [intOf]; omega
    · by_cases g4 : (1048576 : Int) < m
      · go_wp2_with fail
        go_ret
        exact ⟨_, rfl, (fun e => by cases e), rfl⟩
      by_cases g5 : n = 0
      · have h5 : ((n : Int) == 0) = true := by simp; omega
        go_wp2_with fail
        go_ret
        exact ⟨_, rfl, (fun e => by cases e), rfl⟩
      have h5 : ((n : Int) == 0) = false := by simp; omega
      by_cases g6 : l1 = n
      case neg =>
        have h6 : ((l1 : Int) != (n : Int)) = true := by simp; omega
        have h6b : ((l1 : Int) == (n : Int)) = false := by simp; omega
        go_wp2_with fail
        go_ret
        exact ⟨_, rfl, (fun e => by cases e), rfl⟩
      subst g6
      by_cases g7 : l2 = l1
      case neg =>
        have h6 : ((l2 : Int) != (l1 : Int)) = true := by simp; omega
        have h6b : ((l2 : Int) == (l1 : Int)) = false := by simp; omega
        go_wp2_with fail
        go_ret
        exact ⟨_, rfl, (fun e => by cases e), rfl⟩
      subst g7
      by_cases g8 : q < 0
      · go_wp2_with fail
        go_ret
        exact ⟨_, rfl, (fun e => by cases e), rfl⟩
      have hw1 : IntKind.i64.wrap q = q := IntWalk.i64_in _ (by omega)
      by_cases g9 : (l2 : Int) ≤ q
      · go_wp2_with fail
        go_ret
        exact ⟨_, rfl, (fun e => by cases e), rfl⟩
      go_wp2_with fail
      go_loop [12] (fun i => ∃ k : Nat, k ≤ l2 ∧ i = .int .i64 k ∧ Hid (∀ i, i < k → -1 ≤ T i ∧ T i < i)) (fun i => l2 - (intOf i).toNat)
      case atStart => exact ⟨0, by omega, rfl, Lib.hid fun i hi => absurd hi (Nat.not_lt_zero _)⟩
      case round =>
        obtain ⟨k, hk, rfl, HA⟩ := hrel
        by_cases hlt : k < l2
        · obtain ⟨b, off, rfl, hlb, hc⟩ := H2.out.at k hlt
          have hk2 : (k : Int) < (l2 : Int) := by omega
          obtain ⟨t0, t1⟩ := HB.out k hlt
          have hw2 : IntKind.i64.wrap (T k) = T k := IntWalk.i64_in _ (by omega)
          by_cases a1 : T k < -1
          · go_wp2_with fail
            go_ret
            exact ⟨_, rfl, (fun e => by cases e), rfl⟩
          by_cases a2 : (k : Int) ≤ T k
          · go_wp2_with fail
            go_ret
            exact ⟨_, rfl, (fun e => by cases e), rfl⟩
          go_wp2_with fail
          go_round
          case rel => exact ⟨k + 1, by omega, by go_num, Lib.hid fun i hi => by
            by_cases e : i = k
            · subst e; omega
            · exact HA.out i (by omega)⟩
          case measure => simp [intOf]; omega
        · go_wp2_with fail
          go_ret
          exact ⟨_, rfl, fun _ => ⟨by omega, by omega, rfl, rfl, by omega, by omega, fun i hi => HA.out i (by omega)⟩, rfl⟩
def ev (K : Int) (s : ByteArray) : Bool := if K = 0 then (s.toList == [101, 118, 97, 108]) else false
theorem getE (n ob : Nat) (blk : Nat → Nat) (V : Nat → Nat → Value) (j : Nat) (w : World) (h : SM (fun _ => n) 1 ob blk w V) (hj : j < n) (hc : n ≤ 65536) :
    Calls Tryd.prog 15 #[.agg #[.slice (some ⟨ob, 0, none⟩) 1 1], .agg #[.int .u32 0, .int .u32 j]] w fun e w' => e = .returned (.pointer (some ⟨blk 0, j * 10, none⟩)) ∧ Below w.heap.size w w' :=
  getC (fun _ => n) 1 ob blk V 0 j w h (by omega) hj (by omega) hc
/-- FollowSymbols from (0, q), whose chain ends at (0, t). -/
theorem folE (n ob : Nat) (blk : Nat → Nat) (q t : Nat) (V : Nat → Nat → Value) (L : Nat × Nat → Option (Nat × Nat)) (w : World) (hM : SM (fun _ => n) 1 ob blk w V) (hL : Links (fun _ => n) 1 V L) (hG : Gl w) (hq : q < n) (ht : t < n) (hn : n ≤ 65536) (hr : Lk.Root L (0, q) (0, t)) :
    Calls Tryd.prog 16 #[.agg #[.slice (some ⟨ob, 0, none⟩) 1 1], .agg #[.int .u32 0, .int .u32 q]] w fun e w' => e = .returned (.agg #[.int .u32 0, .int .u32 t]) ∧ ∃ V' L', SM (fun _ => n) 1 ob blk w' V' ∧ Links (fun _ => n) 1 V' L' ∧ Lk.Comp L L' ∧ SameBut V V' ∧ Gl w' ∧ Chg (fun b => b = blk 0) w w' := by
  obtain ⟨m, hP⟩ := hr
  refine (follow (fun _ => n) 1 ob blk (by omega) (fun _ _ => hn) m 0 q (0, t) V L w (by omega) hq hM hL hG hP (by show 0 < 1; omega) ht).mono ?_
  rintro e w' ⟨rfl, V', L', a, b, c, _, _, d, f⟩
  have f2 : Chg (fun b => b = blk 0) w w' := f.mono fun i _ ⟨i', hi', e⟩ => by
    have : i' = 0 := by omega
    rw [e, this]
  exact ⟨rfl, V', L', a, b, c, d, hG.chg hM.2.2.1 f, f2⟩
theorem ta92 (b : Addr) (w : World) : (Instr.typeAssert (.iface 92 (.pointer (some b))) 36 92 true).run Tryd.prog w = .ok (.tuple #[.pointer (some b), .bool true]) w := by kernel_rfl
/-- What the question leaves behind. -/
def Ev (n ob : Nat) (blk : Nat → Nat) (V : Nat → Nat → Value) (L : Nat × Nat → Option (Nat × Nat)) (w w' : World) : Prop := ∃ V' L', SM (fun _ => n) 1 ob blk w' V' ∧ Links (fun _ => n) 1 V' L' ∧ Lk.Comp L L' ∧ SameBut V V' ∧ Gl w' ∧ Chg (fun b => b = blk 0) w w'
set_option maxHeartbeats 4000000 in
set_option maxRecDepth 100000 in
theorem evalC (n ob pb eb : Nat) (blk : Nat → Nat) (q t : Nat) (V : Nat → Nat → Value) (L : Nat × Nat → Option (Nat × Nat)) (K : Int) (s : ByteArray) (w : World) (hM : SM (fun _ => n) 1 ob blk w V) (hL : Links (fun _ => n) 1 V L) (hG : Gl w) (hq : q < n) (ht : t < n) (hn : n ≤ 65536) (hr : Lk.Root L (0, q) (0, t))
    (hp : w.cell? ⟨pb, 0, none⟩ = some (.slice (some ⟨ob, 0, none⟩) 1 1)) (e0 : w.cell? ⟨eb, 0, none⟩ = some (.int .u32 0)) (e1 : w.cell? ⟨eb, 1, none⟩ = some (.int .u32 q)) (hpb : pb ≠ blk 0) (heb : eb ≠ blk 0) (hK : V 0 (t * 10 + 8) = .int .u8 K) (hS : V 0 (t * 10 + 1) = .string s) :
    Calls Tryd.prog 14 #[.pointer (some ⟨pb, 0, none⟩), .agg #[.iface 92 (.pointer (some ⟨eb, 0, none⟩)), .int .i32 0]] w fun e w' => e = .returned (.bool (ev K s)) ∧ Ev n ob blk V L w w' := by
  have HM := Lib.hid hM
  have HL := Lib.hid hL
  have HG := Lib.hid hG
  have HR := Lib.hid hr
  have HK := Lib.hid hK
  have HS := Lib.hid hS
  have hpl := World.block_lt_of_cell? w _ hp
  have hel := World.block_lt_of_cell? w _ e0
  have hbl := (hM.2.1 0 (by omega)).lt
  have hta := ta92 ⟨eb, 0, none⟩
  clear hM hL hG hr hK hS
  go_enter Tryd.func14, Tryd.ntmps14
  go_wp2_with fail
  have hb0 : Below w.heap.size w (w.alloc (.cells #[.iface 92 (.pointer (some ⟨eb, 0, none⟩)), .int .i32 0] 40)) := (Below.refl _ _).alloc (Nat.le_refl _) _
  have HB0 := Lib.hid hb0
  have HM1 := Lib.hid (HM.out.keep hb0)
  have HG1 := Lib.hid (HG.out.below hb0)
  have p0 := (hb0.cell (p := ⟨pb, 0, none⟩) hpl).trans hp
  have p1 := (hb0.cell (p := ⟨eb, 0, none⟩) hel).trans e0
  have p2 := (hb0.cell (p := ⟨eb, 1, none⟩) hel).trans e1
  clear hb0 hp e0 e1
  generalize w.alloc (.cells #[.iface 92 (.pointer (some ⟨eb, 0, none⟩)), .int .i32 0] 40) = W at HB0 HM1 HG1 p0 p1 p2 ⊢
  go_region_held3 (fun w' => w'.cell? ⟨pb, 0, none⟩ = some (.slice (some ⟨ob, 0, none⟩) 1 1) ∧ w'.cell? ⟨eb, 0, none⟩ = some (.int .u32 0) ∧ w'.cell? ⟨eb, 1, none⟩ = some (.int .u32 q))
    (first | exact ⟨p0, p1, p2⟩ | exact ⟨g0, g1, g2⟩ | exact ⟨y0, y1, y2⟩ | assumption)
    (first | (go_at_call 16; refine (folE n ob blk q t V L _ (show SM (fun _ => n) 1 ob blk W.drew V from HM1.out.keep (belD (Below.refl _ _))) HL.out (HG1.out.below (belD (Below.refl _ _))) hq ht hn HR.out).mono ?_; rintro e w6 ⟨rfl, V', L', hM6, hL6, hC6, hS6, hG6, hch⟩; have g0 := hch.cell p0 hpb; have g1 := hch.cell p1 heb; have g2 := hch.cell p2 heb; have H6 := Lib.hid (And.intro hM6 (And.intro hL6 (And.intro hC6 (And.intro hS6 (And.intro hG6 hch))))); clear hM6 hL6 hC6 hS6 hG6 hch) | (go_at_call 15; refine (getE n ob blk V' t _ H6.out.1 ht hn).mono ?_; rintro e w7 ⟨rfl, hb7⟩; have y0 := (hb7.cell (p := ⟨pb, 0, none⟩) (World.block_lt_of_cell? _ _ g0)).trans g0; have y1 := (hb7.cell (p := ⟨eb, 0, none⟩) (World.block_lt_of_cell? _ _ g1)).trans g1; have y2 := (hb7.cell (p := ⟨eb, 1, none⟩) (World.block_lt_of_cell? _ _ g2)).trans g2; have H7 := Lib.hid hb7; clear hb7))
  have hM7 := H6.out.1.keep H7.out
  have k8 := (hM7.2.1 0 (by omega)).cell (t * 10 + 8) (by show t * 10 + 8 < n * 10; omega)
  have k1 := (hM7.2.1 0 (by omega)).cell (t * 10 + 1) (by show t * 10 + 1 < n * 10; omega)
  rw [H6.out.2.2.2.1 0 (t * 10 + 8) (by omega) (by omega), HK.out] at k8
  rw [H6.out.2.2.2.1 0 (t * 10 + 1) (by omega) (by omega), HS.out] at k1
  have HE : Hid (Ev n ob blk V L w _) := Lib.hid ⟨V', L', hM7, H6.out.2.1, H6.out.2.2.1, H6.out.2.2.2.1, H6.out.2.2.2.2.1.below H7.out, ((chg_of HB0.out).trans (Chg.drewL H6.out.2.2.2.2.2)).trans (chg_of H7.out)⟩
  clear hM7
  by_cases hK0 : K = 0
  · have hk : (K == 0) = true := by simpa using hK0
    have HEV := Lib.hid (show ev K s = (s.toList == [101, 118, 97, 108]) by unfold ev; rw [if_pos hK0])
    clear hK0
    go_wp2_with fail
    go_ret
    exact ⟨by rw [HEV.out]; rfl, HE.out⟩
  · have hk : (K == 0) = false := by simpa using hK0
    have HEV := Lib.hid (show ev K s = false by unfold ev; rw [if_neg hK0])
    clear hK0
    go_wp2_with fail
    go_ret
    exact ⟨by rw [HEV.out]; rfl, HE.out⟩
set_option maxRecDepth 100000 in
/-- The question through its door. -/
theorem askC (n ob pb eb : Nat) (blk : Nat → Nat) (q t : Nat) (V : Nat → Nat → Value) (L : Nat × Nat → Option (Nat × Nat)) (K : Int) (s : ByteArray) (w : World) (hM : SM (fun _ => n) 1 ob blk w V) (hL : Links (fun _ => n) 1 V L) (hG : Gl w) (hq : q < n) (ht : t < n) (hn : n ≤ 65536) (hr : Lk.Root L (0, q) (0, t))
    (hp : w.cell? ⟨pb, 0, none⟩ = some (.slice (some ⟨ob, 0, none⟩) 1 1)) (e0 : w.cell? ⟨eb, 0, none⟩ = some (.int .u32 0)) (e1 : w.cell? ⟨eb, 1, none⟩ = some (.int .u32 q)) (hpb : pb ≠ blk 0) (heb : eb ≠ blk 0) (hK : V 0 (t * 10 + 8) = .int .u8 K) (hS : V 0 (t * 10 + 1) = .string s) :
    Calls Tryd.prog 12 #[.pointer (some ⟨pb, 0, none⟩), .agg #[.iface 92 (.pointer (some ⟨eb, 0, none⟩)), .int .i32 0]] w fun e w' => e = .returned (.bool (ev K s)) ∧ Ev n ob blk V L w w' := by
  have hb0 : Below w.heap.size w (w.alloc (.cells #[.iface 92 (.pointer (some ⟨eb, 0, none⟩)), .int .i32 0] 40)) := (Below.refl _ _).alloc (Nat.le_refl _) _
  have hpl := World.block_lt_of_cell? w _ hp
  have hel := World.block_lt_of_cell? w _ e0
  have H := Lib.hid (evalC n ob pb eb blk q t V L K s _ (hM.keep hb0) hL (hG.below hb0) hq ht hn hr ((hb0.cell (p := ⟨pb, 0, none⟩) hpl).trans hp) ((hb0.cell (p := ⟨eb, 0, none⟩) hel).trans e0) ((hb0.cell (p := ⟨eb, 1, none⟩) hel).trans e1) hpb heb hK hS)
  have HB := Lib.hid hb0
  clear hM hL hG hr hp e0 e1 hK hS hb0
  go_enter Tryd.func12, Tryd.ntmps12
  go_wp2_with fail
  refine H.out.mono ?_
  rintro e w1 ⟨rfl, V', L', a, b, c, d, g, f⟩
  have HE : Hid (Ev n ob blk V L w w1) := Lib.hid ⟨V', L', a, b, c, d, g, (chg_of HB.out).trans f⟩
  clear a b c d g f
  go_wp2_with fail
  go_ret
  exact ⟨rfl, HE.out⟩
/-- The identifier's node. -/
def Id (q : Nat) (w : World) (e : Ending) (w' : World) : Prop := ∃ eb, e = .returned (.agg #[.iface 92 (.pointer (some ⟨eb, 0, none⟩)), .int .i32 0]) ∧ w.heap.size ≤ eb ∧ w'.cell? ⟨eb, 0, none⟩ = some (.int .u32 0) ∧ w'.cell? ⟨eb, 1, none⟩ = some (.int .u32 q) ∧ Below w.heap.size w w'
set_option maxRecDepth 100000 in
theorem identC (q : Nat) (w : World) : Calls Tryd.prog 11 #[.agg #[.int .u32 0, .int .u32 q]] w (Id q w) := by
  go_enter Tryd.func11, Tryd.ntmps11
  go_wp2_with fail
  obtain ⟨h0, h1, h2, hz⟩ := three_blocks w _ _ _ _ _ _ _ (Below.refl _ (((w.alloc (.cells #[.int .u32 0, .int .u32 q] 44)).alloc (.cells #[.iface 92 (.pointer (some ⟨w.heap.size + 1 + 1, 0, none⟩)), .int .i32 0] 40)).alloc (.cells #[.int .u32 0, .int .u32 q, .bool false, .bool false, .bool false] 94)))
  have q0 := cellsB (i := 0) h1 rfl
  have q1 := cellsB (i := 1) h1 rfl
  refine bodyPost_ret (v := .agg #[.iface 92 (.pointer (some ⟨w.heap.size + 1 + 1, 0, none⟩)), .int .i32 0]) (by simp [results, Tryd.results11, go_sem, q0, q1]) rfl ⟨_, rfl, by omega, cellsB (i := 0) h2 rfl, cellsB (i := 1) h2 rfl, by (repeat' (first | exact Below.refl _ _ | refine Below.drewR ?_ | (refine Below.alloc ?_ (by simp; omega) _) | (refine Below.alloc ?_ (by simp) _) | (refine Below.setCell ?_ (by simp; omega) _) | (refine Below.setCell ?_ (by simp) _)))⟩
theorem info83 : (Tryd.prog.info? 83).map (fun i => match i.zero with | some (.agg cs) => cs.size | _ => 0) = some 139 := by kernel_rfl
theorem zero83 : ∃ Z : Array Value, (∀ w : World, (zeroValue 83).run Tryd.prog w = .ok (.agg Z) w) ∧ Z.size = 139 := by
  have h := info83
  cases hi : Tryd.prog.info? 83 with
  | none => rw [hi] at h; cases h
  | some i =>
    rw [hi] at h
    simp only [Option.map_some, Option.some.injEq] at h
    split at h
    · rename_i cs hz
      exact ⟨cs, fun w => by simp [zeroValue, typeInfo, hi, hz], h⟩
    · cases h
/-- The printer that holds the map. -/
def Pr (ob : Nat) (w : World) (e : Ending) (w' : World) : Prop := ∃ pb, e = .returned (.pointer (some ⟨pb, 0, none⟩)) ∧ w.heap.size ≤ pb ∧ w'.cell? ⟨pb, 0, none⟩ = some (.slice (some ⟨ob, 0, none⟩) 1 1) ∧ Below w.heap.size w w'
set_option maxRecDepth 100000 in
theorem printerC (ob : Nat) (w : World) : Calls Tryd.prog 9 #[.agg #[.slice (some ⟨ob, 0, none⟩) 1 1]] w (Pr ob w) := by
  obtain ⟨Z, hz, hsz⟩ := zero83
  have hne : ¬ Z = #[] := by intro e; rw [e] at hsz; cases hsz
  go_enter Tryd.func9, Tryd.ntmps9
  go_wp2_with fail
  have hrow := heap_alloc_new (w.alloc (.cells #[.slice (some ⟨ob, 0, none⟩) 1 1] 33)) (.cells (Z.setIfInBounds 0 (.slice (some ⟨ob, 0, none⟩) 1 1)) 83)
  have he : (w.alloc (.cells #[.slice (some ⟨ob, 0, none⟩) 1 1] 33)).heap.size = w.heap.size + 1 := by simp
  rw [he] at hrow
  exact bodyPost_ret (v := .pointer (some ⟨w.heap.size + 1, 0, none⟩)) (by simp [results, Tryd.results9, go_sem]) rfl ⟨w.heap.size + 1, rfl, by omega, cellsB (i := 0) hrow (by simp [hsz]), by (repeat' (first | exact Below.refl _ _ | refine Below.drewR ?_ | (refine Below.alloc ?_ (by simp; omega) _) | (refine Below.alloc ?_ (by simp) _) | (refine Below.setCell ?_ (by simp; omega) _) | (refine Below.setCell ?_ (by simp) _)))⟩
/-- The links, place by place. -/
def LT (T : Nat → Int) : Nat × Nat → Option (Nat × Nat) := fun p => if T p.2 < 0 then none else some (0, (T p.2).toNat)
theorem LT.path {T : Nat → Int} {x r m : Nat} (h : Lk.Path (Lt T) x r m) : Lk.Path (LT T) (0, x) (0, r) m := by
  induction h with
  | @done x hx =>
    refine .done ?_
    unfold Lt at hx
    unfold LT
    by_cases e : T x < 0
    · exact if_pos e
    · rw [if_neg e] at hx; cases hx
  | @step x y t m hx _ ih =>
    refine .step ?_ ih
    unfold Lt at hx
    unfold LT
    by_cases e : T x < 0
    · rw [if_pos e] at hx; cases hx
    · rw [if_neg e] at hx
      injection hx with hx
      subst hx
      exact if_neg e
/-- The row under way: the symbols below k are laid. -/
def Bs (n z : Nat) (S : Nat → ByteArray) (K T : Nat → Int) (k : Nat) (w wr : World) : Prop :=
  (∃ V, Fblk wr (z + 1) 91 (n * 10) V ∧ ∀ j, j < k → V (j * 10 + 1) = .string (S j) ∧ V (j * 10 + 8) = .int .u8 (K j) ∧ V (j * 10 + 2) = (if T j < 0 then .int .u32 4294967295 else .int .u32 0) ∧ V (j * 10 + 3) = (if T j < 0 then .int .u32 4294967295 else .int .u32 (T j))) ∧
    Below w.heap.size w wr ∧ wr.heap[z]? = some (.cells #[.slice none 0 0] 33 (0, 0))
theorem Bs.step {n z : Nat} {S : Nat → ByteArray} {K T : Nat → Int} {k : Nat} {w wr : World} (h : Bs n z S K T k w wr) (hz : w.heap.size ≤ z) {a b c d : Value} (ha : a = .string (S k)) (hb : b = .int .u8 (K k)) (hc : c = (if T k < 0 then .int .u32 4294967295 else .int .u32 0)) (hd : d = (if T k < 0 then .int .u32 4294967295 else .int .u32 (T k))) :
    Bs n z S K T (k + 1) w ((((wr.setCell ⟨z + 1, k * 10 + 1, none⟩ a).setCell ⟨z + 1, k * 10 + 8, none⟩ b).setCell ⟨z + 1, k * 10 + 2, none⟩ c).setCell ⟨z + 1, k * 10 + 2 + 1, none⟩ d) := by
  obtain ⟨⟨V, h1, h2⟩, h3, h4⟩ := h
  have hlt := (Array.getElem?_eq_some_iff.1 h4).1
  refine ⟨⟨_, (((h1.set _ a).set _ b).set _ c).set _ d, fun j hj => ?_⟩, (((h3.setCell (show w.heap.size ≤ z + 1 by omega) _).setCell (show w.heap.size ≤ z + 1 by omega) _).setCell (show w.heap.size ≤ z + 1 by omega) _).setCell (show w.heap.size ≤ z + 1 by omega) _, ?_⟩
  · by_cases e : j = k
    · subst e
      refine ⟨?_, ?_, ?_, ?_⟩
      · rw [upd_other _ _ _ _ (by omega), upd_other _ _ _ _ (by omega), upd_other _ _ _ _ (by omega), upd_same, ha]
      · rw [upd_other _ _ _ _ (by omega), upd_other _ _ _ _ (by omega), upd_same, hb]
      · rw [upd_other _ _ _ _ (by omega), upd_same, hc]
      · rw [show j * 10 + 3 = j * 10 + 2 + 1 from rfl, upd_same, hd]
    · obtain ⟨q1, q2, q3, q4⟩ := h2 j (by omega)
      have hu : ∀ y, y < 10 → upd (upd (upd (upd V (k * 10 + 1) a) (k * 10 + 8) b) (k * 10 + 2) c) (k * 10 + 2 + 1) d (j * 10 + y) = V (j * 10 + y) := fun y hy => by
        rw [upd_other _ _ _ _ (by omega), upd_other _ _ _ _ (by omega), upd_other _ _ _ _ (by omega), upd_other _ _ _ _ (by omega)]
      rw [hu 1 (by omega), hu 8 (by omega), hu 2 (by omega), hu 3 (by omega)]
      exact ⟨q1, q2, q3, q4⟩
  · rw [heap_setCell_other _ _ _ _ (by show z ≠ z + 1; omega), heap_setCell_other _ _ _ _ (by show z ≠ z + 1; omega), heap_setCell_other _ _ _ _ (by show z ≠ z + 1; omega), heap_setCell_other _ _ _ _ (by show z ≠ z + 1; omega)]
    exact h4
def SmR (n : Nat) (S : Nat → ByteArray) (K T : Nat → Int) (w : World) (e : Ending) (w' : World) : Prop :=
  ∃ ob blk V, e = .returned (.agg #[.slice (some ⟨ob, 0, none⟩) 1 1]) ∧ SM (fun _ => n) 1 ob blk w' V ∧ Links (fun _ => n) 1 V (LT T) ∧ (∀ j, j < n → V 0 (j * 10 + 8) = .int .u8 (K j) ∧ V 0 (j * 10 + 1) = .string (S j)) ∧ w.heap.size ≤ blk 0 ∧ w.heap.size ≤ ob ∧ Below w.heap.size w w'
set_option maxHeartbeats 4000000 in
set_option maxRecDepth 100000 in
theorem buildC (a0 : Option Addr) (n c0 : Nat) (S : Nat → ByteArray) (a1 : Option Addr) (c1 : Nat) (K : Nat → Int) (a2 : Option Addr) (c2 : Nat) (T : Nat → Int) (w : World) (h0 : Fsl w a0 n (fun i => .string (S i))) (h1 : Fsl w a1 n (fun i => .int .u8 (K i))) (h2 : Fsl w a2 n (fun i => .int .i32 (T i)))
    (hT : ∀ i, i < n → -1 ≤ T i ∧ T i < i) (hn0 : 0 < n) (hn : n ≤ 65536) :
    Calls Tryd.prog 10 #[.slice a0 n c0, .slice a1 n c1, .slice a2 n c2] w (SmR n S K T w) := by
  obtain ⟨z, bytes, hbz, hz1, hi⟩ := symInfo
  obtain ⟨cs, hcs⟩ : ∃ cs, z.cells = cs := ⟨_, rfl⟩
  have hmk := run_make_many (P := Tryd.prog) Tryd.underlying84 hi hcs hbz n (by omega)
  have H0 := Lib.hid h0
  have H1 := Lib.hid h1
  have H2 := Lib.hid h2
  have HT := Lib.hid hT
  clear hi hcs hbz hz1 h0 h1 h2 hT
  go_enter Tryd.func10, Tryd.ntmps10
  go_wp2_with fail
  go_loopw [9] (fun i wr => ∃ k : Nat, k ≤ n ∧ i = .int .i64 k ∧ Hid (Bs n w.heap.size S K T k w wr)) (fun i _ => n - (intOf i).toNat)
  case atStart =>
    refine ⟨0, Nat.zero_le _, rfl, Lib.hid ⟨⟨_, Fblk.madeManyAt (by simp), fun j hj => absurd hj (Nat.not_lt_zero _)⟩, by (repeat' (first | exact Below.refl _ _ | refine Below.drewR ?_ | (refine Below.alloc ?_ (by simp; omega) _) | (refine Below.alloc ?_ (by simp) _) | (refine Below.setCell ?_ (by simp; omega) _) | (refine Below.setCell ?_ (by simp) _))), ?_⟩⟩
    rw [Below.heap_alloc _ _ _ (by simp)]; exact heap_alloc_new _ _
  case round =>
    obtain ⟨k, hk, rfl, HB⟩ := hrel
    by_cases hlt : k < n
    · obtain ⟨b, off, rfl, hb0, d0⟩ := (H0.out.below HB.out.2.1).at k hlt
      obtain ⟨b1, off1, rfl, hb1, d1⟩ := (H1.out.below HB.out.2.1).at k hlt
      obtain ⟨b2, off2, rfl, hb2, d2⟩ := (H2.out.below HB.out.2.1).at k hlt
      obtain ⟨y0, y1⟩ := And.intro ((H0.out.at k hlt)) ((And.intro (H1.out.at k hlt) (H2.out.at k hlt)))
      obtain ⟨t0, t1⟩ := HT.out k hlt
      obtain ⟨V, hV, _⟩ := HB.out.1
      have s1 := hV.cell (k * 10 + 1) (by omega)
      have s8 := hV.cell (k * 10 + 8) (by omega)
      have s2 := hV.cell (k * 10 + 2) (by omega)
      have s3 := hV.cell (k * 10 + 3) (by omega)
      have f1 := hV.frozen (k * 10 + 1)
      have f8 := hV.frozen (k * 10 + 8)
      have f2 := hV.frozen (k * 10 + 2)
      have f3 := hV.frozen (k * 10 + 3)
      have hl0 : b < w.heap.size := by obtain ⟨x, y, e, hx, _⟩ := y0; injection e with e; injection e with e; omega
      have hl1 : b1 < w.heap.size := by obtain ⟨x, y, e, hx, _⟩ := y1.1; injection e with e; injection e with e; omega
      have hl2 : b2 < w.heap.size := by obtain ⟨x, y, e, hx, _⟩ := y1.2; injection e with e; injection e with e; omega
      have n0 : ¬ b = w.heap.size + 1 := by omega
      have n1 : ¬ b1 = w.heap.size + 1 := by omega
      have n2 : ¬ b2 = w.heap.size + 1 := by omega
      have n3 : ¬ w.heap.size + 1 = b2 := by omega
      have n4 : ¬ w.heap.size + 1 = b1 := by omega
      have hk2 : (k : Int) < (n : Int) := by omega
      clear y0 y1 hV
      by_cases hneg : T k < 0
      · have hg : decide (T k < 0) = true := by simpa using hneg
        have HN := Lib.hid (And.intro (show (Value.int .u32 4294967295) = (if T k < 0 then .int .u32 4294967295 else .int .u32 0) by rw [if_pos hneg]) (show (Value.int .u32 4294967295) = (if T k < 0 then .int .u32 4294967295 else .int .u32 (T k)) by rw [if_pos hneg]))
        go_wp2_with fail
        go_roundw
        case rel => exact ⟨k + 1, by omega, by go_num, Lib.hid (HB.out.step (Nat.le_refl _) rfl rfl HN.out.1 HN.out.2)⟩
        case measure => simp [intOf]; omega
      · have hg : decide (T k < 0) = false := by simpa using hneg
        have hw : IntKind.u32.wrap (T k) = T k := by rw [IntKind.wrap_u32]; omega
        have HN := Lib.hid (And.intro (show (Value.int .u32 0) = (if T k < 0 then .int .u32 4294967295 else .int .u32 0) by rw [if_neg hneg]) (show (Value.int .u32 (T k)) = (if T k < 0 then .int .u32 4294967295 else .int .u32 (T k)) by rw [if_neg hneg]))
        go_wp2_with fail
        go_roundw
        case rel => exact ⟨k + 1, by omega, by go_num, Lib.hid (HB.out.step (Nat.le_refl _) rfl rfl HN.out.1 HN.out.2)⟩
        case measure => simp [intOf]; omega
    · obtain rfl : k = n := by omega
      have hrow := HB.out.2.2
      have c0 := cellsB (i := 0) hrow rfl
      have cf := frozen_of_row _ w.heap.size 0 _ 33 hrow
      have hsz := HB.out.2.1.size
      have hlt0 := (Array.getElem?_eq_some_iff.1 hrow).1
      go_wp2_with fail
      obtain ⟨V, hV, hV2⟩ := HB.out.1
      have hss : (wr.setCell ⟨w.heap.size, 0, none⟩ (.slice (some ⟨wr.heap.size, 0, none⟩) 1 1)).heap.size = wr.heap.size := by simp [World.setCell]
      have hob : Fblk ((wr.setCell ⟨w.heap.size, 0, none⟩ (.slice (some ⟨wr.heap.size, 0, none⟩) 1 1)).alloc (.cells #[.slice (some ⟨w.heap.size + 1, 0, none⟩) k k] 84)) wr.heap.size 84 1 (fun i => .slice (some ⟨w.heap.size + 1, 0, none⟩) k k) := by
        have h := Fblk.of_cells (wr.setCell ⟨w.heap.size, 0, none⟩ (.slice (some ⟨wr.heap.size, 0, none⟩) 1 1)) 84 #[.slice (some ⟨w.heap.size + 1, 0, none⟩) k k]
        rw [hss] at h
        refine h.congr fun i hi => ?_
        have : i = 0 := by simp at hi; omega
        subst this; rfl
      have hbx : ((wr.setCell ⟨w.heap.size, 0, none⟩ (.slice (some ⟨wr.heap.size, 0, none⟩) 1 1)).alloc (.cells #[.slice (some ⟨w.heap.size + 1, 0, none⟩) k k] 84)).cell? ⟨w.heap.size, 0, none⟩ = some (.slice (some ⟨wr.heap.size, 0, none⟩) 1 1) := by
        have hr := heap_setCell_same _ _ 0 _ _ (.slice (some ⟨wr.heap.size, 0, none⟩) 1 1) hrow
        refine (World.cell?_alloc_lt _ _ _ (by rw [hss]; exact hlt0)).trans ?_
        exact cellsB (i := 0) hr rfl
      have hT := HT.out
      refine bodyPost_ret (v := .agg #[.slice (some ⟨wr.heap.size, 0, none⟩) 1 1]) (by simp [results, Tryd.results10, go_sem, hbx]) rfl ⟨wr.heap.size, fun _ => w.heap.size + 1, fun _ => V, rfl, ⟨hob, fun i _ => (hV.other (by show w.heap.size ≠ w.heap.size + 1; omega) _).alloc _, fun i _ => ⟨by show w.heap.size + 1 ≠ wr.heap.size; have := hV.lt; omega, by show 0 < w.heap.size + 1; omega⟩, fun i j h1 h2 => absurd h2 (by omega)⟩, ?_, fun j hj => ⟨(hV2 j hj).2.1, (hV2 j hj).1⟩, by show w.heap.size ≤ w.heap.size + 1; omega, hsz, (HB.out.2.1.setCell (Nat.le_refl _) _).alloc (by rw [hss]; exact hsz) _⟩
      intro s j hs hj
      have hs0 : s = 0 := by omega
      subst hs0
      have hj : j < k := hj
      obtain ⟨_, _, q2, q3⟩ := hV2 j hj
      unfold LT
      by_cases e : T j < 0
      · rw [if_pos e] at q2 q3
        exact .inl ⟨if_pos e, q2, q3⟩
      · rw [if_neg e] at q2 q3
        have ht := hT j hj
        refine .inr ⟨_, if_neg e, by show 0 < 1; omega, by show (T j).toNat < k; omega, q2, ?_⟩
        refine q3.trans ?_
        show Value.int .u32 (T j) = .int .u32 (((T j).toNat : Nat) : Int)
        rw [Int.toNat_of_nonneg (by omega)]
theorem ci32_info : (Tryd.prog.info? 21).map (fun i => (i.zero, i.size, i.bytes)) = some (some (.int .i32 0), 1, 4) := by kernel_rfl
theorem ci32 (a : Option Addr) (len cap : Nat) (S : Nat → Int) (w : World) (h : Fsl w a len (fun i => .int .i32 (S i))) (hlen : len ≤ 137438953472) :
    Calls Tryd.prog 8 #[.slice a len cap] w (Cop w a len 21 (fun i => .int .i32 (S i))) := by
  have hnil : ∀ w : World, (binOp .eql 24 (.slice a len cap) (.slice none 0 0)).run Tryd.prog w = .ok (.bool a.isNone) w := fun w => Lib.run_eql_slice_nil w 24 21 _ _ _ _ _ Tryd.underlying24
  have hmk := run_make_one (P := Tryd.prog) Tryd.underlying24 ci32_info rfl (by omega) len hlen
  cases a with
  | none =>
    have H := Lib.hid (Cop.nil (t := 21) h)
    go_enter Tryd.func8, Tryd.ntmps8
    go_wp2
    go_ret
    exact H.out
  | some x =>
    go_enter Tryd.func8, Tryd.ntmps8
    go_wp2
    go_loopw [4] (fun i wr => ∃ k : Nat, k ≤ len ∧ i = .int .i64 k ∧ Fblk wr w.heap.size 21 len (parV (fun i => .int .i32 (S i)) (.int .i32 0) k) ∧ Below w.heap.size w wr) (fun i _ => len - (intOf i).toNat)
    case atStart => exact ⟨0, by omega, rfl, by rw [parV_zero]; exact Fblk.made _ _ _ _, (Below.refl _ _).alloc (Nat.le_refl _) _⟩
    case round =>
      obtain ⟨k, hk, rfl, hb, hl⟩ := hrel
      have HB := Lib.hid hb
      by_cases hlt : k < len
      · obtain ⟨b, off, e, hlb, hc⟩ := h.at k hlt
        injection e with e
        subst e
        have hc' : wr.cell? ⟨b, off + k, none⟩ = some (.int .i32 (S k)) := by rw [hl.cell (p := ⟨b, off + k, none⟩) hlb]; exact hc
        have hd := hb.cell k hlt
        have hz := hb.frozen k
        have hk2 : (k : Int) < (len : Int) := by omega
        clear hc hb
        go_wp2
        go_roundw
        case rel => exact ⟨k + 1, by omega, by go_num, by rw [← parV_set]; exact HB.out.set k _, hl.setCell (Nat.le_refl _) _⟩
        case measure => simp [intOf]; omega
      · obtain rfl : k = len := by omega
        clear hb
        go_wp2
        go_ret
        exact Cop.mk (HB.out.congr fun i hi => by simp [parV, hi]) hl (Nat.le_refl _)
theorem c8_info : (Tryd.prog.info? 5).map (fun i => (i.zero, i.size, i.bytes)) = some (some (.int .u8 0), 1, 1) := by kernel_rfl
theorem c8 (a : Option Addr) (len cap : Nat) (S : Nat → Int) (w : World) (h : Fsl w a len (fun i => .int .u8 (S i))) (hlen : len ≤ 137438953472) :
    Calls Tryd.prog 7 #[.slice a len cap] w (Cop w a len 5 (fun i => .int .u8 (S i))) := by
  have hnil : ∀ w : World, (binOp .eql 23 (.slice a len cap) (.slice none 0 0)).run Tryd.prog w = .ok (.bool a.isNone) w := fun w => Lib.run_eql_slice_nil w 23 5 _ _ _ _ _ Tryd.underlying23
  have hmk := run_make_one (P := Tryd.prog) Tryd.underlying23 c8_info rfl (by omega) len hlen
  cases a with
  | none =>
    have H := Lib.hid (Cop.nil (t := 5) h)
    go_enter Tryd.func7, Tryd.ntmps7
    go_wp2
    go_ret
    exact H.out
  | some x =>
    go_enter Tryd.func7, Tryd.ntmps7
    go_wp2
    go_loopw [4] (fun i wr => ∃ k : Nat, k ≤ len ∧ i = .int .i64 k ∧ Fblk wr w.heap.size 5 len (parV (fun i => .int .u8 (S i)) (.int .u8 0) k) ∧ Below w.heap.size w wr) (fun i _ => len - (intOf i).toNat)
    case atStart => exact ⟨0, by omega, rfl, by rw [parV_zero]; exact Fblk.made _ _ _ _, (Below.refl _ _).alloc (Nat.le_refl _) _⟩
    case round =>
      obtain ⟨k, hk, rfl, hb, hl⟩ := hrel
      have HB := Lib.hid hb
      by_cases hlt : k < len
      · obtain ⟨b, off, e, hlb, hc⟩ := h.at k hlt
        injection e with e
        subst e
        have hc' : wr.cell? ⟨b, off + k, none⟩ = some (.int .u8 (S k)) := by rw [hl.cell (p := ⟨b, off + k, none⟩) hlb]; exact hc
        have hd := hb.cell k hlt
        have hz := hb.frozen k
        have hk2 : (k : Int) < (len : Int) := by omega
        clear hc hb
        go_wp2
        go_roundw
        case rel => exact ⟨k + 1, by omega, by go_num, by rw [← parV_set]; exact HB.out.set k _, hl.setCell (Nat.le_refl _) _⟩
        case measure => simp [intOf]; omega
      · obtain rfl : k = len := by omega
        clear hb
        go_wp2
        go_ret
        exact Cop.mk (HB.out.congr fun i hi => by simp [parV, hi]) hl (Nat.le_refl _)
theorem cst_info : (Tryd.prog.info? 9).map (fun i => (i.zero, i.size, i.bytes)) = some (some (.string ⟨#[]⟩), 1, 16) := by kernel_rfl
theorem cst (a : Option Addr) (len cap : Nat) (S : Nat → ByteArray) (w : World) (h : Fsl w a len (fun i => .string (S i))) (hlen : len ≤ 137438953472) :
    Calls Tryd.prog 6 #[.slice a len cap] w (Cop w a len 9 (fun i => .string (S i))) := by
  have hnil : ∀ w : World, (binOp .eql 22 (.slice a len cap) (.slice none 0 0)).run Tryd.prog w = .ok (.bool a.isNone) w := fun w => Lib.run_eql_slice_nil w 22 9 _ _ _ _ _ Tryd.underlying22
  have hmk := run_make_one (P := Tryd.prog) Tryd.underlying22 cst_info rfl (by omega) len hlen
  cases a with
  | none =>
    have H := Lib.hid (Cop.nil (t := 9) h)
    go_enter Tryd.func6, Tryd.ntmps6
    go_wp2
    go_ret
    exact H.out
  | some x =>
    go_enter Tryd.func6, Tryd.ntmps6
    go_wp2
    go_loopw [4] (fun i wr => ∃ k : Nat, k ≤ len ∧ i = .int .i64 k ∧ Fblk wr w.heap.size 9 len (parV (fun i => .string (S i)) (.string ⟨#[]⟩) k) ∧ Below w.heap.size w wr) (fun i _ => len - (intOf i).toNat)
    case atStart => exact ⟨0, by omega, rfl, by rw [parV_zero]; exact Fblk.made _ _ _ _, (Below.refl _ _).alloc (Nat.le_refl _) _⟩
    case round =>
      obtain ⟨k, hk, rfl, hb, hl⟩ := hrel
      have HB := Lib.hid hb
      by_cases hlt : k < len
      · obtain ⟨b, off, e, hlb, hc⟩ := h.at k hlt
        injection e with e
        subst e
        have hc' : wr.cell? ⟨b, off + k, none⟩ = some (.string (S k)) := by rw [hl.cell (p := ⟨b, off + k, none⟩) hlb]; exact hc
        have hd := hb.cell k hlt
        have hz := hb.frozen k
        have hk2 : (k : Int) < (len : Int) := by omega
        clear hc hb
        go_wp2
        go_roundw
        case rel => exact ⟨k + 1, by omega, by go_num, by rw [← parV_set]; exact HB.out.set k _, hl.setCell (Nat.le_refl _) _⟩
        case measure => simp [intOf]; omega
      · obtain rfl : k = len := by omega
        clear hb
        go_wp2
        go_ret
        exact Cop.mk (HB.out.congr fun i hi => by simp [parV, hi]) hl (Nat.le_refl _)
theorem fsl_chg {S : Nat → Prop} {w w' : World} {a : Option Addr} {l : Nat} {V : Nat → Value} (h : Fsl w a l V) (hc : Chg S w w') (hn : ∀ x, a = some x → 0 < l → ¬ S x.block) : Fsl w' a l V := by
  refine ⟨h.1, fun i hi => ?_⟩
  obtain ⟨b, off, e, hb, hv⟩ := h.2 i hi
  exact ⟨b, off, e, Nat.lt_of_lt_of_le hb hc.size, hc.cell hv (show ¬ S b from hn ⟨b, off, none⟩ e (by omega))⟩

/-- A cloned slice lies apart from a block. -/
def Off (a : Option Addr) (b : Nat) : Prop := ∀ x, a = some x → x.block ≠ b
/-- What stands while the printer with the map ob is asked. -/
def St (n ob pb : Nat) (blk : Nat → Nat) (V : Nat → Nat → Value) (a0 a1 a2 : Option Addr) (S : Nat → ByteArray) (K T : Nat → Int) (w0 w : World) : Prop :=
  (∃ V' L', SM (fun _ => n) 1 ob blk w V' ∧ Links (fun _ => n) 1 V' L' ∧ Lk.Comp (LT T) L' ∧ SameBut V V') ∧ Gl w ∧ w.cell? ⟨pb, 0, none⟩ = some (.slice (some ⟨ob, 0, none⟩) 1 1) ∧ Fsl w a0 n (fun i => .string (S i)) ∧ Fsl w a1 n (fun i => .int .u8 (K i)) ∧ Fsl w a2 n (fun i => .int .i32 (T i)) ∧ Below w0.heap.size w0 w
/-- What does not change meanwhile. -/
def Ap (n pb : Nat) (blk : Nat → Nat) (V : Nat → Nat → Value) (a0 a1 a2 : Option Addr) (S : Nat → ByteArray) (K : Nat → Int) (w0 : World) : Prop :=
  pb ≠ blk 0 ∧ w0.heap.size ≤ blk 0 ∧ Off a0 (blk 0) ∧ Off a1 (blk 0) ∧ Off a2 (blk 0) ∧ ∀ j, j < n → V 0 (j * 10 + 8) = .int .u8 (K j) ∧ V 0 (j * 10 + 1) = .string (S j)
section
variable {n ob pb q r eb : Nat} {blk : Nat → Nat} {V : Nat → Nat → Value} {a0 a1 a2 : Option Addr} {S : Nat → ByteArray} {K T : Nat → Int} {w0 w w' : World}
theorem St.below (h : St n ob pb blk V a0 a1 a2 S K T w0 w) (hb : Below w.heap.size w w') : St n ob pb blk V a0 a1 a2 S K T w0 w' := by
  obtain ⟨⟨V', L', h1, h2, h3, h4⟩, h5, h6, h7, h8, h9, h10⟩ := h
  exact ⟨⟨V', L', h1.keep hb, h2, h3, h4⟩, h5.below hb, (hb.cell (p := ⟨pb, 0, none⟩) (World.block_lt_of_cell? w _ h6)).trans h6, h7.below hb, h8.below hb, h9.below hb, h10.trans (hb.mono h10.size)⟩
theorem St.blkLt (h : St n ob pb blk V a0 a1 a2 S K T w0 w) : blk 0 < w.heap.size := by
  obtain ⟨⟨V', L', h1, _⟩, _⟩ := h
  exact (h1.2.1 0 (by omega)).lt
theorem St.ask (h : St n ob pb blk V a0 a1 a2 S K T w0 w) (hA : Ap n pb blk V a0 a1 a2 S K w0) (hn : n ≤ 65536) (hq : q < n) (hr : r < n) (hp : ∃ m, Lk.Path (Lt T) q r m) (e0 : w.cell? ⟨eb, 0, none⟩ = some (.int .u32 0)) (e1 : w.cell? ⟨eb, 1, none⟩ = some (.int .u32 q)) (heb : eb ≠ blk 0) :
    Calls Tryd.prog 12 #[.pointer (some ⟨pb, 0, none⟩), .agg #[.iface 92 (.pointer (some ⟨eb, 0, none⟩)), .int .i32 0]] w fun e w' => e = .returned (.bool (ev (K r) (S r))) ∧ Hid (St n ob pb blk V a0 a1 a2 S K T w0 w') ∧ w'.cell? ⟨eb, 0, none⟩ = some (.int .u32 0) ∧ w'.cell? ⟨eb, 1, none⟩ = some (.int .u32 q) ∧ Hid (∀ b, b < w.heap.size → b ≠ blk 0 → w'.heap[b]? = w.heap[b]?) := by
  obtain ⟨⟨V', L', h1, h2, h3, h4⟩, h5, h6, h7, h8, h9, h10⟩ := h
  obtain ⟨g1, g2, g3, g4, g5, g6⟩ := hA
  obtain ⟨m, hm⟩ := hp
  obtain ⟨k8, k1⟩ := g6 r hr
  refine (askC n ob pb eb blk q r V' L' (K r) (S r) w h1 h2 h5 hq hr hn (h3.root ⟨m, LT.path hm⟩) h6 e0 e1 g1 heb ((h4 0 (r * 10 + 8) (by omega) (by omega)).trans k8) ((h4 0 (r * 10 + 1) (by omega) (by omega)).trans k1)).mono ?_
  rintro e w' ⟨rfl, V2, L2, b1, b2, b3, b4, b5, b6⟩
  refine ⟨rfl, Lib.hid ⟨⟨V2, L2, b1, b2, h3.trans b3, h4.trans b4⟩, b5, b6.cell h6 g1, fsl_chg h7 b6 (fun x hx _ => g3 x hx), fsl_chg h8 b6 (fun x hx _ => g4 x hx), fsl_chg h9 b6 (fun x hx _ => g5 x hx), h10.trans (b6.below h10.size (fun i hi => by rw [hi]; exact g2))⟩, b6.cell e0 heb, b6.cell e1 heb, Lib.hid fun b hb hn => b6.block b hb hn⟩
end
theorem Cop.off {w w' : World} {a : Option Addr} {n : Nat} {t : TypeId} {V : Nat → Value} {e : Ending} (h : Cop w a n t V e w') : ∃ a' c', e = .returned (.slice a' n c') ∧ Fsl w' a' n V ∧ Below w.heap.size w w' ∧ ∀ x, a' = some x → x.block < w'.heap.size := by
  obtain ⟨a', c', rfl, _, hf, hb, _, h2⟩ := h
  refine ⟨a', c', rfl, hf, hb, fun x hx => ?_⟩
  rcases h2 with ⟨rfl, _⟩ | ⟨b, _, rfl, hblk, _⟩
  · cases hx
  · injection hx with hx
    subst hx
    exact hblk.lt
set_option maxHeartbeats 8000000 in
set_option maxRecDepth 100000 in
theorem main (a0 : Option Addr) (n c0 : Nat) (S : Nat → ByteArray) (a1 : Option Addr) (l1 c1 : Nat) (K : Nat → Int) (a2 : Option Addr) (l2 c2 : Nat) (T : Nat → Int) (q : Int) (w : World)
    (h0 : Fsl w a0 n (fun i => .string (S i))) (hS : ∀ i, i < n → (S i).size ≤ maxLen) (h1 : Fsl w a1 l1 (fun i => .int .u8 (K i)))
    (h2 : Fsl w a2 l2 (fun i => .int .i32 (T i))) (hT : ∀ i, i < l2 → -2147483648 ≤ T i ∧ T i ≤ 2147483647) (hq : -2147483648 ≤ q ∧ q ≤ 2147483647) (hG : Gl w) (m0 : n ≤ maxLen) (m1 : l1 ≤ maxLen) (m2 : l2 ≤ maxLen) :
    Calls Tryd.prog 3 #[.slice a0 n c0, .slice a1 l1 c1, .slice a2 l2 c2, .int .i32 q] w fun e w' => e = .returned (.bool true) ∧ Below w.heap.size w w' := by
  have HZ := Lib.hid (zb a0 n c0 S a1 l1 c1 a2 l2 c2 q w h0 m0 m1 m2 hS)
  have HF := Lib.hid (fun z => fit a0 n c0 S a1 l1 c1 a2 l2 c2 T q w h0 h2 m0 m1 m2 z hq hT)
  have H0 := Lib.hid h0
  have H1 := Lib.hid h1
  have H2 := Lib.hid h2
  have HG := Lib.hid hG
  clear h0 h1 h2 hS hT hq hG m0 m1 m2
  go_enter Tryd.func3, Tryd.ntmps3
  go_wp2_with fail
  refine HZ.out.mono ?_
  rintro e w1 ⟨v, rfl, hz, rfl⟩
  have hz := Lib.hid hz
  cases v
  · go_wp2_with fail
    go_ret
    exact ⟨rfl, Below.refl _ _⟩
  go_wp2_with fail
  refine (HF.out (hz.out (by first | exact trivial | rfl))).mono ?_
  rintro e w1 ⟨v, rfl, hf, rfl⟩
  have hf := Lib.hid hf
  cases v
  · go_wp2_with fail
    go_ret
    exact ⟨rfl, Below.refl _ _⟩
  obtain ⟨hn0, hn, rfl, rfl, q0, q1, hT⟩ := hf.out (by first | exact trivial | rfl)
  obtain ⟨qi, rfl⟩ := Int.eq_ofNat_of_zero_le q0
  have hq : qi < l2 := by omega
  have HT := Lib.hid hT
  clear hf hz HZ HF hT q0 q1
  go_wp2_with fail
  refine (cst a0 l2 c0 S _ H0.out (by omega)).mono ?_
  rintro e w2 hc
  obtain ⟨b0, d0, rfl, hf2, hb2, ho0⟩ := Cop.off hc
  have F2 := Lib.hid hf2
  have B2 := Lib.hid hb2
  clear hf2 hb2 hc
  go_wp2_with fail
  refine (c8 a1 l2 c1 K _ (H1.out.below B2.out) (by omega)).mono ?_
  rintro e w3 hc
  obtain ⟨b1, d1, rfl, hf3, hb3, ho1⟩ := Cop.off hc
  have E3 := Lib.hid hf3
  have F3 := Lib.hid (F2.out.below hb3)
  have B3 := Lib.hid (B2.out.trans (hb3.mono B2.out.size))
  have z3 := hb3.size
  clear hf3 hb3 hc F2
  go_wp2_with fail
  refine (ci32 a2 l2 c2 T _ (H2.out.below B3.out) (by omega)).mono ?_
  rintro e w4 hc
  obtain ⟨b2, d2, rfl, hf4, hb4, ho2⟩ := Cop.off hc
  have D4 := Lib.hid hf4
  have E4 := Lib.hid (E3.out.below hb4)
  have F4 := Lib.hid (F3.out.below hb4)
  have B4 := Lib.hid (B3.out.trans (hb4.mono B3.out.size))
  have z4 := hb4.size
  clear hf4 hb4 hc E3 F3 B2 B3
  obtain ⟨bt, offt, rfl, _⟩ := D4.out.at 0 hn0
  have HO : Hid (∀ b, w4.heap.size ≤ b → Off b0 b ∧ Off b1 b ∧ Off (some ⟨bt, offt, none⟩) b) := Lib.hid fun b hb => ⟨fun x hx => by have := ho0 x hx; omega, fun x hx => by have := ho1 x hx; omega, fun x hx => by have := ho2 x hx; omega⟩
  clear ho0 ho1 ho2 z3 z4
  go_wp2_with fail
  refine (buildC b0 l2 d0 S b1 d1 K (some ⟨bt, offt, none⟩) d2 T _ F4.out E4.out D4.out HT.out hn0 hn).mono ?_
  rintro e w5 ⟨ob, blk, V, rfl, hM, hL, hV, hbl, hob, hb5⟩
  have M5 := Lib.hid (show ∃ V' L', SM (fun _ => l2) 1 ob blk w5 V' ∧ Links (fun _ => l2) 1 V' L' ∧ Lk.Comp (LT T) L' ∧ SameBut V V' from ⟨V, LT T, hM, hL, Lk.Comp.refl _, SameBut.refl V⟩)
  have HV := Lib.hid hV
  have D5 := Lib.hid (D4.out.below hb5)
  have E5 := Lib.hid (E4.out.below hb5)
  have F5 := Lib.hid (F4.out.below hb5)
  have B5 := Lib.hid (B4.out.trans (hb5.mono B4.out.size))
  have hbk : blk 0 < w5.heap.size := (hM.2.1 0 (by omega)).lt
  have z5 := B4.out.size
  clear hM hL hV hb5 D4 E4 F4
  go_wp2_with fail
  refine (printerC ob _).mono ?_
  rintro e w6 ⟨pb, rfl, hpb, hpc, hb6⟩
  have HST : Hid (St l2 ob pb blk V b0 b1 (some ⟨bt, offt, none⟩) S K T w w6) := Lib.hid (by
    obtain ⟨V', L', h1, h2, h3, h4⟩ := M5.out
    exact ⟨⟨V', L', h1.keep hb6, h2, h3, h4⟩, (HG.out.below B5.out).below hb6, hpc, F5.out.below hb6, E5.out.below hb6, D5.out.below hb6, B5.out.trans (hb6.mono B5.out.size)⟩)
  have HAP : Hid (Ap l2 pb blk V b0 b1 (some ⟨bt, offt, none⟩) S K w) := Lib.hid ⟨by omega, by omega, (HO.out _ hbl).1, (HO.out _ hbl).2.1, (HO.out _ hbl).2.2, HV.out⟩
  have z6 := hb6.size
  clear hpc hb6 M5 D5 E5 F5 HV
  go_wp2_with fail
  refine (identC qi _).mono ?_
  rintro e w7 ⟨eb, rfl, heb, e0, e1, hb7⟩
  have S7 := Lib.hid (HST.out.below hb7)
  have z7 := hb7.size
  have hne : eb ≠ blk 0 := by omega
  clear hb7 HST
  go_wp2_with fail
  have hb8 : Below w7.heap.size w7 (w7.alloc (.cells #[.iface 92 (.pointer (some ⟨eb, 0, none⟩)), .int .i32 0] 40)) := (Below.refl _ _).alloc (Nat.le_refl _) _
  have x0 := (hb8.cell (p := ⟨eb, 0, none⟩) (World.block_lt_of_cell? w7 _ e0)).trans e0
  have x1 := (hb8.cell (p := ⟨eb, 1, none⟩) (World.block_lt_of_cell? w7 _ e1)).trans e1
  have S8 := Lib.hid (S7.out.below hb8)
  have R8 := Lib.hid (heap_alloc_new w7 (.cells #[.iface 92 (.pointer (some ⟨eb, 0, none⟩)), .int .i32 0] 40))
  have z8 : w7.heap.size < (w7.alloc (.cells #[.iface 92 (.pointer (some ⟨eb, 0, none⟩)), .int .i32 0] 40)).heap.size := by simp
  have nb7 : w7.heap.size ≠ blk 0 := by omega
  clear hb8 e0 e1 S7
  generalize w7.heap.size = xb at R8 z8 nb7 ⊢
  generalize w7.alloc (.cells #[.iface 92 (.pointer (some ⟨eb, 0, none⟩)), .int .i32 0] 40) = w8 at x0 x1 S8 R8 z8 ⊢
  obtain ⟨r, m, hpath, hr⟩ : ∃ r m, Lk.Path (Lt T) qi r m ∧ r < l2 := by
    have hall : ∀ k x, x < k → x < l2 → ∃ r m, Lk.Path (Lt T) x r m ∧ r < l2 := by
      intro k
      induction k with
      | zero => intro x h; exact absurd h (Nat.not_lt_zero _)
      | succ k ih =>
        intro x hx hl
        obtain ⟨t0, t1⟩ := HT.out x hl
        by_cases e : T x < 0
        · exact ⟨x, 0, .done (by unfold Lt; exact if_pos e), hl⟩
        · obtain ⟨r, m, h1, h2⟩ := ih (T x).toNat (by omega) (by omega)
          exact ⟨r, m + 1, .step (by unfold Lt; exact if_neg e) h1, h2⟩
    exact hall (qi + 1) qi (Nat.lt_succ_self _) hq
  have HP := Lib.hid hpath
  clear hpath
  have b0' := cellsB (i := 0) R8.out rfl
  have b1' := cellsB (i := 1) R8.out rfl
  refine (St.ask S8.out HAP.out hn hq hr ⟨m, HP.out⟩ x0 x1 hne).mono ?_
  rintro e w9 ⟨rfl, S9, y0, y1, hk9⟩
  have R9 := Lib.hid ((hk9.out xb z8 nb7).trans R8.out)
  clear b0' b1' x0 x1 S8 R8 hk9
  have b0' := cellsB (i := 0) R9.out rfl
  have b1' := cellsB (i := 1) R9.out rfl
  go_wp2_with fail
  refine (St.ask S9.out HAP.out hn hq hr ⟨m, HP.out⟩ y0 y1 hne).mono ?_
  rintro e w10 ⟨rfl, S10, _, _, _⟩
  clear b0' b1' y0 y1 S9 R9
  go_wp2_with fail
  refine (rootC bt offt d2 l2 T qi _ S10.out.2.2.2.2.2.1 HT.out hq hn).mono ?_
  rintro e w11 ⟨⟨r', m', rfl, hp', hr'⟩, rfl⟩
  obtain rfl : r' = r := (hp'.det HP.out).1
  have HPR := Lib.hid (Lk.Path.done hp'.last)
  clear hp'
  go_wp2_with fail
  refine (identC r' _).mono ?_
  rintro e w12 ⟨eb2, rfl, heb2, e0, e1, hb12⟩
  have S12 := Lib.hid (S10.out.below hb12)
  have hne2 : eb2 ≠ blk 0 := by have := S10.out.blkLt; omega
  clear hb12 S10
  go_wp2_with fail
  refine (St.ask S12.out HAP.out hn hr' hr' ⟨0, HPR.out⟩ e0 e1 hne2).mono ?_
  rintro e w13 ⟨rfl, S13, _, _, _⟩
  clear e0 e1 S12
  go_wp2_with fail
  refine (buildC b0 l2 d0 S b1 d1 K (some ⟨bt, offt, none⟩) d2 T _ S13.out.2.2.2.1 S13.out.2.2.2.2.1 S13.out.2.2.2.2.2.1 HT.out hn0 hn).mono ?_
  rintro e w14 ⟨ob2, blk2, V2, rfl, hM, hL, hV, hbl2, hob2, hb14⟩
  have z13 := S13.out.2.2.2.2.2.2.size
  have B14 := Lib.hid (S13.out.2.2.2.2.2.2.trans (hb14.mono z13))
  have G14 := Lib.hid (S13.out.2.1.below hb14)
  have hoff : Off b0 (blk2 0) ∧ Off b1 (blk2 0) ∧ Off (some ⟨bt, offt, none⟩) (blk2 0) := by
    have hlt : ∀ (A : Option Addr) (V : Nat → Value), Fsl w13 A l2 V → Off A (blk2 0) := fun A V hF x hx => by
      obtain ⟨b, off, e, hb, _⟩ := hF.at 0 hn0
      rw [hx] at e
      injection e with e
      subst e
      show b ≠ blk2 0
      omega
    exact ⟨hlt _ _ S13.out.2.2.2.1, hlt _ _ S13.out.2.2.2.2.1, hlt _ _ S13.out.2.2.2.2.2.1⟩
  have M14 := Lib.hid (show ∃ V' L', SM (fun _ => l2) 1 ob2 blk2 w14 V' ∧ Links (fun _ => l2) 1 V' L' ∧ Lk.Comp (LT T) L' ∧ SameBut V2 V' from ⟨V2, LT T, hM, hL, Lk.Comp.refl _, SameBut.refl V2⟩)
  have HV2 := Lib.hid hV
  have F14 := Lib.hid (And.intro (S13.out.2.2.2.1.below hb14) (And.intro (S13.out.2.2.2.2.1.below hb14) (S13.out.2.2.2.2.2.1.below hb14)))
  have hbk2 : blk2 0 < w14.heap.size := (hM.2.1 0 (by omega)).lt
  clear hM hL hV hb14 S13
  go_wp2_with fail
  refine (printerC ob2 _).mono ?_
  rintro e w15 ⟨pb2, rfl, hpb2, hpc, hb15⟩
  have HST : Hid (St l2 ob2 pb2 blk2 V2 b0 b1 (some ⟨bt, offt, none⟩) S K T w w15) := Lib.hid (by
    obtain ⟨V', L', h1, h2, h3, h4⟩ := M14.out
    exact ⟨⟨V', L', h1.keep hb15, h2, h3, h4⟩, G14.out.below hb15, hpc, F14.out.1.below hb15, F14.out.2.1.below hb15, F14.out.2.2.below hb15, B14.out.trans (hb15.mono B14.out.size)⟩)
  have HAP2 : Hid (Ap l2 pb2 blk2 V2 b0 b1 (some ⟨bt, offt, none⟩) S K w) := Lib.hid ⟨by omega, by omega, hoff.1, hoff.2.1, hoff.2.2, HV2.out⟩
  have z15 := hb15.size
  clear hpc hb15 M14 F14 HV2 hoff
  go_wp2_with fail
  refine (identC r' _).mono ?_
  rintro e w16 ⟨eb3, rfl, heb3, e0, e1, hb16⟩
  have S16 := Lib.hid (HST.out.below hb16)
  have hne3 : eb3 ≠ blk2 0 := by omega
  clear hb16 HST
  go_wp2_with fail
  refine (St.ask S16.out HAP2.out hn hr' hr' ⟨0, HPR.out⟩ e0 e1 hne3).mono ?_
  rintro e w17 ⟨rfl, S17, _, _, _⟩
  generalize ev (K r') (S r') = v
  go_wp2_with fail
  go_ret
  exact ⟨by simp, S17.out.2.2.2.2.2.2⟩
theorem walk (a0 : Option Addr) (len0 cap0 : Nat) (z0 : List ByteArray) (a1 : Option Addr) (len1 cap1 : Nat) (z1 : List Int) (a2 : Option Addr) (len2 cap2 : Nat) (z2 : List Int) (a3 : Int) (w : World) (w0 : Aid.IsStrs w a0 len0 cap0 z0) (w1 : Aid.IsRow .u8 w a1 len1 cap1 z1) (w2 : Aid.IsRow .i32 w a2 len2 cap2 z2) (w3 : (Lit.int .i32 a3).wf = true) (hG : Gl w) :
    Calls Tryd.prog 3 #[.slice a0 len0 cap0, .slice a1 len1 cap1, .slice a2 len2 cap2, .int .i32 a3] w fun e w' => e = .returned (.bool true) ∧ Below w.heap.size w w' := by
  obtain ⟨S, hF0, hS, m0, _⟩ := Fl.of_strs w0
  obtain ⟨K, hF1, hK, m1, _⟩ := Fl.of_ints w1
  obtain ⟨T, hF2, hT, m2, _⟩ := Fl.of_ints w2
  exact main a0 len0 cap0 S a1 len1 cap1 K a2 len2 cap2 T a3 w hF0 hS hF1 hF2 (fun i hi => Aid.i32_of (hT i hi)) (Aid.i32_of w3) hG m0 m1 m2

def laid : List (String × DataW Unit) := [("github.com/evanw/esbuild/internal/ast.InvalidRef", Rows.laid_github_com_evanw_esbuild_internal_ast_InvalidRef)]
theorem gName : Tryd.prog.globalNamed "github.com/evanw/esbuild/internal/ast.InvalidRef" = some 0 := by kernel_rfl
theorem gType : (Tryd.prog.globals[0]?).map (·.type) = some 44 := by kernel_rfl
theorem glVar {W : World} (h : laidMet Tryd.prog laid W) : W.var? Tryd.prog "github.com/evanw/esbuild/internal/ast.InvalidRef" = some #[.int .u32 4294967295, .int .u32 4294967295] := by
  obtain ⟨g, t, cs, fuel, p, hg, ht, hv, hd⟩ := Lib.laidMet.reads h (.head _)
  obtain rfl := Option.some.inj (gName.symm.trans hg)
  obtain rfl := Option.some.inj (gType.symm.trans ht)
  have hc := Lib.ints_of_struct (k := .u32) (zs := [4294967295, 4294967295]) Tryd.underlying44 (fun i fd hi => by
    match i, hi with
    | 0, hi => cases hi; exact ⟨by kernel_rfl, rfl, by kernel_rfl⟩
    | 1, hi => cases hi; exact ⟨by kernel_rfl, rfl, by kernel_rfl⟩
    | n + 2, hi => simp at hi) (by kernel_rfl) hd
  rw [hv]
  obtain ⟨l⟩ := cs
  simp only at hc
  rw [hc]
  rfl
theorem gl_of {W : World} (h : laidMet Tryd.prog laid W) : Gl W := ⟨World.var?_cell gName (glVar h) 0, World.var?_cell gName (glVar h) 1⟩

set_option maxRecDepth 100000 in
theorem lifted (os : Os) (started : os.Started) (H : Type) (enc : TypeId × Value → H) :
    ReturnsInHanded {} Tryd.checked os 3 .any (fun w args => (Rows.fnIsUnboundEvalIdentifierStableSpec.pre enc Tryd.prog Tryd.f3 [] false w args ∧ laidMetH Tryd.prog laid w) ∧ sizedMet enc Tryd.prog Tryd.f3 (OpenSpec.ofChange Rows.fnIsUnboundEvalIdentifierStableSpec) false w args)
      (Rows.fnIsUnboundEvalIdentifierStableSpec.post enc Tryd.prog Tryd.f3 false true false false) := by
  refine returnsInHanded_of_change_and (C := Tryd.checked) (X := fun w _ => laidMetH Tryd.prog laid w) (fun _ _ _ hh h => h.of_heap hh) own started (by kernel_rfl) Tryd.func3
    (ChangeSpec.witness_shaped (enc := enc) (C := Tryd.checked) (os := os) (X := fun w _ => laidMetH Tryd.prog laid w) false (World.laidAll Tryd.prog os laid) #[.slice none 0 0, .slice none 0 0, .slice none 0 0, .int .i32 0] 8 (World.laidAll_os _ _ _)
      (World.shaped_of_ZipB (by kernel_rfl) (by kernel_rfl)) (by kernel_rfl) (by kernel_rfl) (by kernel_rfl)
      (by rw [MakeChecks.laidMetH_plain _ _ _ (by kernel_rfl)]; exact laidMet_laidAll _ (by kernel_rfl) (by kernel_rfl))) ?_
  intro W base args ds gs before hval0 hW _ _ hL _
  have hval : ∀ (j : Nat) t v, Tryd.f3.params[j]? = some t → args[j]? = some v → Value.okWide Tryd.prog W .any base t v := hval0
  have hL' : laidMet Tryd.prog laid W := by rw [MakeChecks.laidMetH_plain _ _ _ (by kernel_rfl)] at hL; exact hL
  have hG := gl_of hL'
  have hW' := hW
  obtain ⟨p, q, hA0, hV, rfl, hfz, hnd⟩ := hW
  have hA : DataW.TrodAll enc Tryd.prog W 0 (fun _ => true) true Tryd.f3.params.toList args.toList ds p := hA0
  rw [Tryd.params3] at hA hval
  obtain ⟨v0, vs0, d0, ds0, p0, q0, hargs, rfl, rfl, h0, r0⟩ := trodAll_cons hA
  obtain ⟨v1, vs1, d1, ds1, p1, q1, rfl, rfl, rfl, h1, r1⟩ := trodAll_cons r0
  obtain ⟨v2, vs2, d2, ds2, p2, q2, rfl, rfl, rfl, h2, r2⟩ := trodAll_cons r1
  obtain ⟨v3, vs3, d3, ds3, p3, q3, rfl, rfl, rfl, h3, r3⟩ := trodAll_cons r2
  obtain ⟨rfl, rfl, rfl⟩ := trodAll_nil r3
  obtain rfl : args = #[v0, v1, v2, v3] := by cases args; simp_all
  obtain ⟨g, t, cs, fuel, dg, pg, rfl, hg, ht, hcs, htr, rfl⟩ := trodVars_one hV
  obtain rfl := Option.some.inj (gName.symm.trans hg)
  obtain rfl := Option.some.inj (gType.symm.trans ht)
  obtain ⟨a0, len0, cap0, rfl⟩ := okWide_slice Tryd.underlying22 (hval 0 22 v0 rfl rfl)
  have k0 := h0
  have lt0 : ∀ x ∈ p0, x.block < W.heap.size := by obtain ⟨m, hm⟩ := k0; exact DataW.trod_lt m _ _ _ hm
  obtain ⟨z0, w0⟩ := Aid.open_strs Tryd.underlying22 Tryd.underlying9 (by kernel_rfl) h0
  obtain ⟨a1, len1, cap1, rfl⟩ := okWide_slice Tryd.underlying23 (hval 1 23 v1 rfl rfl)
  have k1 := h1
  have lt1 : ∀ x ∈ p1, x.block < W.heap.size := by obtain ⟨m, hm⟩ := k1; exact DataW.trod_lt m _ _ _ hm
  obtain ⟨z1, w1⟩ := Aid.open_row Tryd.underlying23 Tryd.underlying5 (by kernel_rfl) h1
  obtain ⟨a2, len2, cap2, rfl⟩ := okWide_slice Tryd.underlying24 (hval 2 24 v2 rfl rfl)
  have k2 := h2
  have lt2 : ∀ x ∈ p2, x.block < W.heap.size := by obtain ⟨m, hm⟩ := k2; exact DataW.trod_lt m _ _ _ hm
  obtain ⟨z2, w2⟩ := Aid.open_row Tryd.underlying24 Tryd.underlying21 (by kernel_rfl) h2
  obtain ⟨a3, rfl, rfl, rfl, w3⟩ := open_int Tryd.underlying21 (hval 3 21 v3 rfl rfl) h3
  clear hA0 hval0
  refine (walk a0 len0 cap0 z0 a1 len1 cap1 z1 a2 len2 cap2 z2 a3 W w0 w1 w2 w3 hG).mono fun e W' ⟨he, bel⟩ => ?_
  subst he
  have hlv : ∀ x ∈ pg, x.block < W.heap.size := DataW.trod_lt _ _ _ _ htr
  obtain ⟨fuel', htr'⟩ := Below.trod laidOut (t := 44) (v := .agg cs) (by kernel_rfl) (of_decide_eq_true (by kernel_rfl)) ⟨fuel, htr⟩ bel hlv
  have hvar : W'.var? Tryd.prog "github.com/evanw/esbuild/internal/ast.InvalidRef" = some cs := by
    have h0 : (0 : Nat) < W.heap.size := Fl.lt_of_cell hG.1
    have hb := bel.block 0 h0
    simp only [World.var?, gName, Option.bind_some, hb] at hcs ⊢
    exact hcs
  exact ⟨_, rfl, _, _, _, [], _, _, hW', trodAll_mk1 (shut_bool Tryd.underlying4 _), (trodAll_cons_mk (Below.trod laidOut (by kernel_rfl) (of_decide_eq_true (by kernel_rfl)) k0 bel lt0) (trodAll_cons_mk (Below.trod laidOut (by kernel_rfl) (of_decide_eq_true (by kernel_rfl)) k1 bel lt1) (trodAll_cons_mk (Below.trod laidOut (by kernel_rfl) (of_decide_eq_true (by kernel_rfl)) k2 bel lt2) (trodAll_cons_mk (shut_int Tryd.underlying21 w3) trodAll_mk0)))), trodVars_mk1 gName gType hvar htr', bel.frame _, fun h => by cases h⟩
theorem over : Rows.FnIsUnboundEvalIdentifierStableSaid :=
  OpenClaim.holds_of_wide 3 Tryd.f3 rfl rfl rfl rfl rfl rfl rfl ⟨rfl, rfl, rfl, rfl, rfl⟩ rfl rfl rfl rfl rfl (by kernel_rfl) Tryd.func3 (by kernel_rfl)
    (of_decide_eq_true (by kernel_rfl)) (by unfold Func.isWrapper; first | (rw [if_pos (by decide +kernel)]; kernel_rfl) | (rw [if_neg (by decide +kernel)]; exact ⟨rfl, rfl⟩))
    (fun os started H enc _ => lifted os started H enc)
theorem proved : Rows.FnIsUnboundEvalIdentifierStableCardSaid :=
  Claim7.holds_tied_plain_at .later [] [.data] true (true, "28371353afd5889bfa6e5715b2a7803cb5d467a3a413a80b6e50679348c3287f") true
    over (fun _ h => by cases h) (by kernel_rfl) (fun _ h => by cases h) fnIsUnboundEvalIdentifierStable_row_tie rfl ⟨rfl, rfl⟩ (by kernel_rfl) rfl
    (fun f fn hf hfn => by
      obtain rfl : f = 3 := Option.some.inj ((show Tryd.prog.funcNamed "github.com/evanw/esbuild/n011_88.FnIsUnboundEvalIdentifierStable" = some 3 by kernel_rfl).symm.trans hf) |>.symm
      obtain rfl : fn = Tryd.f3 := (Option.some.inj (Tryd.func3.symm.trans hfn)).symm
      exact ⟨by kernel_rfl, fun j t ht => by
        rw [Tryd.params3] at ht
        have hm : t ∈ [22, 23, 24, 21] := by simpa using Array.mem_of_getElem? ht
        have hall : ([22, 23, 24, 21].all fun u => !Tryd.prog.wantsStandIn u) = true := by kernel_rfl
        exact (show Tryd.prog.wantsStandIn t = false by simpa using List.all_eq_true.1 hall t hm)⟩)
    (by kernel_rfl)
#print axioms proved
end Go.Proofs.YtbjgakgenclopaaDoor.fnIsUnboundEvalIdentifierStable
