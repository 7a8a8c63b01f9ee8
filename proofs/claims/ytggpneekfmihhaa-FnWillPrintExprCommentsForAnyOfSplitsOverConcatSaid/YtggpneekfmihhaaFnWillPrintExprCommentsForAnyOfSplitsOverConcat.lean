/- Whether any of the expressions has a comment to print, asked of a followed by b, is the 'or' of the answers for a and for b, and the same for b followed by a. No condition. -/
import Derived.Test.YtggpneekfmihhaaRows
import Derived.WalkKit
import Derived.ProofKit
import Derived.OpenShut
import Derived.ShutString
import Derived.Test.YtggpneekfmihhaaFacts
import Derived.Test.YtggpneekfmihhaaAid
import Derived.Test.YtggpneekfmihhaaFl
import Derived.Test.YtggpneekfmihhaaPb
import Derived.Test.YtggpneekfmihhaaQd
import Derived.Test.YtggpneekfmihhaaMp
import Derived.DeepKeys4
import Derived.ArgAppend
import Derived.WalkSpells
import Derived.LoopTactic
import Derived.IntWalk
import Derived.Outline
import Derived.Deep.QuietTactic
import Derived.BigQuiet
import Derived.Deep.RegionHeld3
import Derived.StillTailTactics
namespace Go.Proofs.Ytggpneekfmihhaa.fnWillPrintExprCommentsForAnyOfSplitsOverConcat
open Go.ChangeShapes Go.WideShapes Go.ChangeAt Go.RowKit
open Go.ChangeMaps (open_string shut_string)
set_option linter.unusedVariables false

theorem own : ownKnob Try.prog.godebug = none := by kernel_rfl
theorem laidOut : laidOutB Try.prog = true := by kernel_rfl

open Fl Pb Qd Mp
theorem belD {B : Nat} {a w : World} (h : Below B a w) : Below B a w.drew := h.trans ⟨rfl, rfl, rfl, Nat.le_refl _, fun _ _ => rfl⟩
def Bl (w : World) (e : Ending) (w' : World) : Prop := w' = w ∧ ∃ v, e = .returned (.bool v)
theorem zb (a0 : Option Addr) (l0 c0 : Nat) (a1 : Option Addr) (l1 c1 : Nat) (a2 : Option Addr) (l2 c2 : Nat) (a3 : Option Addr) (l3 c3 : Nat) (x4 : Bool) (w : World) : Calls Try.prog 4 #[.slice a0 l0 c0, .slice a1 l1 c1, .slice a2 l2 c2, .slice a3 l3 c3, .bool x4] w (Bl w) := by
  by_cases h0 : (1048576 : Int) < (l0 : Int)
  · go_enter Try.func4, Try.ntmps4
    go_wp2_with fail
    go_ret
    exact ⟨rfl, _, rfl⟩
  have e0 : IntKind.i64.wrap ((l0 : Int)) = (l0 : Int) := IntWalk.i64_in _ (by omega)
  by_cases h1 : (1048576 : Int) < (l1 : Int)
  · go_enter Try.func4, Try.ntmps4
    go_wp2_with fail
    go_ret
    exact ⟨rfl, _, rfl⟩
  have e1 : IntKind.i64.wrap ((l0 : Int) + (l1 : Int)) = (l0 : Int) + (l1 : Int) := IntWalk.i64_in _ (by omega)
  by_cases g1 : (1048576 : Int) < (l0 : Int) + (l1 : Int)
  · go_enter Try.func4, Try.ntmps4
    go_wp2_with fail
    go_ret
    exact ⟨rfl, _, rfl⟩
  by_cases h2 : (1048576 : Int) < (l2 : Int)
  · go_enter Try.func4, Try.ntmps4
    go_wp2_with fail
    go_ret
    exact ⟨rfl, _, rfl⟩
  have e2 : IntKind.i64.wrap ((l0 : Int) + (l1 : Int) + (l2 : Int)) = (l0 : Int) + (l1 : Int) + (l2 : Int) := IntWalk.i64_in _ (by omega)
  by_cases g2 : (1048576 : Int) < (l0 : Int) + (l1 : Int) + (l2 : Int)
  · go_enter Try.func4, Try.ntmps4
    go_wp2_with fail
    go_ret
    exact ⟨rfl, _, rfl⟩
  by_cases h3 : (1048576 : Int) < (l3 : Int)
  · go_enter Try.func4, Try.ntmps4
    go_wp2_with fail
    go_ret
    exact ⟨rfl, _, rfl⟩
  have e3 : IntKind.i64.wrap ((l0 : Int) + (l1 : Int) + (l2 : Int) + (l3 : Int)) = (l0 : Int) + (l1 : Int) + (l2 : Int) + (l3 : Int) := IntWalk.i64_in _ (by omega)
  by_cases g3 : (1048576 : Int) < (l0 : Int) + (l1 : Int) + (l2 : Int) + (l3 : Int)
  · go_enter Try.func4, Try.ntmps4
    go_wp2_with fail
    go_ret
    exact ⟨rfl, _, rfl⟩
  go_enter Try.func4, Try.ntmps4
  go_wp2_with fail
  go_ret
  exact ⟨rfl, _, rfl⟩
theorem ci32_info : (Try.prog.info? 21).map (fun i => (i.zero, i.size, i.bytes)) = some (some (.int .i32 0), 1, 4) := by kernel_rfl
theorem ci32 (a : Option Addr) (len cap : Nat) (S : Nat → Int) (w : World) (h : Fsl w a len (fun i => .int .i32 (S i))) (hlen : len ≤ 137438953472) :
    Calls Try.prog 5 #[.slice a len cap] w (Cop w a len 21 (fun i => .int .i32 (S i))) := by
  have hnil : ∀ w : World, (binOp .eql 22 (.slice a len cap) (.slice none 0 0)).run Try.prog w = .ok (.bool a.isNone) w := fun w => Lib.run_eql_slice_nil w 22 21 _ _ _ _ _ Try.underlying22
  have hmk := run_make_one (P := Try.prog) Try.underlying22 ci32_info rfl (by omega) len hlen
  cases a with
  | none =>
    have H := Lib.hid (Cop.nil (t := 21) h)
    go_enter Try.func5, Try.ntmps5
    go_wp2
    go_ret
    exact H.out
  | some x =>
    go_enter Try.func5, Try.ntmps5
    go_wp2
    go_loopw [4] (fun i wr => ∃ k : Nat, k ≤ len ∧ i = .int .i64 k ∧ Fblk wr w.heap.size 21 len (parV (fun i => .int .i32 (S i)) (.int .i32 0) k) ∧ Below w.heap.size w wr) (fun i _ => len - (intOf i).toNat)
    case atStart => exact ⟨0, by omega, rfl, by rw [parV_zero]; exact Fblk.made _ _ _ _, (Below.refl _ _).alloc (Nat.le_refl _) _⟩
    case round =>
      obtain ⟨k, hk, rfl, hb, hl⟩ := hrel
      have HB := Lib.hid hb
      by_cases hlt : k < len
      · obtain ⟨b, off, e, hlb, hc⟩ := h.at k hlt
        injection e with e
        subst e
        have hc' : wr.cell? ⟨b, off + k, none⟩ = some (.int .i32 (S k)) := by rw [hl.cell (p := ⟨b, off + k, none⟩) hlb]; exact hc
        have hd := hb.cell k hlt
        have hz := hb.frozen k
        have hk2 : (k : Int) < (len : Int) := by omega
        clear hc hb
        go_wp2
        go_roundw
        case rel => exact ⟨k + 1, by omega, by go_num, by rw [← parV_set]; exact HB.out.set k _, hl.setCell (Nat.le_refl _) _⟩
        case measure => simp [intOf]; omega
      · obtain rfl : k = len := by omega
        clear hb
        go_wp2
        go_ret
        exact Cop.mk (HB.out.congr fun i hi => by simp [parV, hi]) hl (Nat.le_refl _)
/-- make([]int32, 0, c). -/
theorem mk0 (c : Nat) (hc : c ≤ 1048577) (w : World) : (Instr.makeSlice 22 (.int .i64 0) (.int .i64 c)).run Try.prog w = .ok (.slice (some ⟨w.heap.size, 0, none⟩) 0 c) (w.alloc (.cells (madeCells #[.int .i32 0] c) 21)) := by
  obtain ⟨i0, hi, hz0, hz1, hz2⟩ := info_parts ci32_info
  have h := run_make (P := Try.prog) w 22 21 i0 _ Try.underlying22 hi hz0 .i64 .i64 0 (c : Int) (Int.le_refl _) (by omega) (by rw [hz2]; omega) (by omega)
  rw [hz1] at h
  simpa [Value.cells] using h
theorem cell_new1 (w : World) (x : Value) (t : TypeId) : ∀ j u, [x][j]? = some u → (w.alloc (.cells #[x] t)).cell? ((⟨w.heap.size, 0, none⟩ : Addr).add j) = some u := by
  intro j u h
  cases j with
  | zero =>
    simp at h; subst h
    rw [show ((⟨w.heap.size, 0, none⟩ : Addr).add 0) = ⟨w.heap.size, 0, none⟩ from rfl, cell_of_row _ _ 0 _ t _ (heap_alloc_new _ _)]; rfl
  | succ j => simp at h
/-- s = append(s, x), where there is room. -/
theorem pathApp (z m n : Nat) (Q : Nat → Value) (x : Int) (w : World) (h : Fblk w z 21 n Q) (hm : m < n) (hn : n ≤ 1048576) :
    ∃ v' w', (Builtin.append_ #[22, 22] 22 #[.slice (some ⟨z, 0, none⟩) m n, .slice (some ⟨w.heap.size, 0, none⟩) 1 1]).run Try.prog (w.alloc (.cells #[.int .i32 x] 21)) = .ok v' w' ∧
      (v' = .slice (some ⟨z, 0, none⟩) (m + 1) n ∧ w' = (w.alloc (.cells #[.int .i32 x] 21)).setCell ⟨z, m, none⟩ (.int .i32 x)) := by
  obtain ⟨i0, hi, hz0, hz1, hz2⟩ := info_parts ci32_info
  have h2 := h.alloc (.cells #[.int .i32 x] 21)
  have hr := run_append_room_cells (P := Try.prog) (w.alloc (.cells #[.int .i32 x] 21)) 22 22 21 i0 Try.underlying22 hi z 0 m n ⟨w.heap.size, 0, none⟩ 1 1 [.int .i32 x] (by rw [hz1]; rfl) (cell_new1 w _ _) (by intro u hu; simp at hu; subst hu; rfl) (by omega)
    (fun j hj => by
      obtain rfl : j = 0 := by simpa using hj
      rw [hz1]
      simp [h2.cell m hm]) (fun j hj => by
      obtain rfl : j = 0 := by simpa using hj
      exact h2.frozen _)
  rw [hz1] at hr
  exact ⟨_, _, by simpa [World.setCells] using hr, rfl, rfl⟩
/-- x is among the first n. -/
def hit (C : Nat → Int) (n : Nat) (x : Int) : Bool := (List.range n).any (fun i => C i == x)
theorem hit_succ (C : Nat → Int) (n : Nat) (x : Int) : hit C (n + 1) x = (hit C n x || C n == x) := by
  unfold hit
  rw [List.range_succ]
  simp
/-- The answer. -/
def ansF (mf : Bool) (C : Nat → Int) (nc : Nat) (D : Nat → Int) (nd : Nat) (x : Int) : Bool := !mf && hit C nc x && !hit D nd x
def ans (mf : Bool) (C : Nat → Int) (nc : Nat) (D : Nat → Int) (nd : Nat) (X : Nat → Int) (n : Nat) : Bool := (List.range n).any (fun i => ansF mf C nc D nd (X i))
theorem ans_succ {mf : Bool} {C D X : Nat → Int} {nc nd n : Nat} : ans mf C nc D nd X (n + 1) = (ans mf C nc D nd X n || ansF mf C nc D nd (X n)) := by
  unfold ans
  rw [List.range_succ]
  simp
theorem ans_congr {mf : Bool} {C D X Y : Nat → Int} {nc nd n : Nat} (h : ∀ i, i < n → X i = Y i) : ans mf C nc D nd X n = ans mf C nc D nd Y n := by
  induction n with
  | zero => rfl
  | succ n ih => rw [ans_succ, ans_succ, ih (fun i hi => h i (by omega)), h n (by omega)]
theorem ans_cat {mf : Bool} {C D X A : Nat → Int} {nc nd n m : Nat} (h : ∀ i, i < m → X (n + i) = A i) : ans mf C nc D nd X (n + m) = (ans mf C nc D nd X n || ans mf C nc D nd A m) := by
  induction m with
  | zero => simp [ans]
  | succ m ih => rw [← Nat.add_assoc, ans_succ, ih (fun i hi => h i (by omega)), ans_succ, h m (by omega), Bool.or_assoc]
theorem laidOutK : laidOutB Try.prog = true := by kernel_rfl
theorem lawLoc : Go.WideMaps.KeyLaw Try.prog 29 := deep_law_laid laidOutK (m := 3) (by omega) (of_decide_eq_true (by kernel_rfl)) (by kernel_rfl) (by rw [Try.underlying29])
theorem KL : Go.Maps.Keyed Try.prog 29 := Go.Maps.Keyed.of_law lawLoc
def lc (x : Int) : Value := .agg #[.int .i32 x]
theorem lc_inj {x y : Int} (h : lc x = lc y) : x = y := by
  unfold lc at h
  injection h with h
  have := congrArg (fun a => a[0]?) h
  simpa using this
theorem keyLoc (b : Int) (hb : -2147483648 ≤ b ∧ b ≤ 2147483647) : ∃ l, keyOf Try.prog 29 (.agg #[.int .i32 b]) = some l := by
  have hb : (Lit.int .i32 b).wf = true := by rw [Lit.wf_int_iff, IntKind.min_i32, IntKind.max_i32]; omega
  have cR : Try.prog.cellsOf 29 = 1 := by kernel_rfl
  have cU : Try.prog.cellsOf 21 = 1 := by kernel_rfl
  have kt : Try.prog.keyType 29 = true := by kernel_rfl
  have hfm : (Value.agg #[.int .i32 b]).formed Try.prog 29 = true := by simp [Value.formed, Try.underlying29, cR]
  have hs : 0 < Try.prog.types.size := of_decide_eq_true (by kernel_rfl)
  obtain ⟨m, hm⟩ : ∃ m, Try.prog.types.size = m + 1 := ⟨Try.prog.types.size - 1, by omega⟩
  unfold keyOf
  simp only [Try.underlying29]
  rw [if_pos (by simp [kt, hfm]), hm]
  simp [Program.keyLits, Try.underlying29, Try.underlying21, cR, cU, Value.cells, hb]
/-- The map of comments after k of them. -/
def Cm (C : Nat → Int) (k : Nat) (M : Value → Option Value) : Prop := ∀ x, (hit C k x = false ∧ M (lc x) = none) ∨ (hit C k x = true ∧ ∃ a, M (lc x) = some (.slice (some a) 1 1))
def Dm (C : Nat → Int) (k : Nat) (M : Value → Option Value) : Prop := ∀ x, (hit C k x = false ∧ M (lc x) = none) ∨ (hit C k x = true ∧ M (lc x) = some (.bool true))
theorem hit_zero (C : Nat → Int) (x : Int) : hit C 0 x = false := rfl
theorem Cm.step {C : Nat → Int} {k : Nat} {M : Value → Option Value} (h : Cm C k M) (a : Addr) : Cm C (k + 1) (setM M (.agg #[.int .i32 (C k)]) (.slice (some a) 1 1)) := fun x => by
  rw [hit_succ]
  by_cases e : C k = x
  · subst e
    exact .inr ⟨by simp, a, setM_same _ _ _⟩
  · have hne : lc x ≠ .agg #[.int .i32 (C k)] := fun h => e (lc_inj (x := x) (y := C k) h).symm
    have hb : (C k == x) = false := by simpa using e
    rw [setM_other _ _ _ _ hne, hb, Bool.or_false]
    exact h x
theorem Dm.step {C : Nat → Int} {k : Nat} {M : Value → Option Value} (h : Dm C k M) : Dm C (k + 1) (setM M (.agg #[.int .i32 (C k)]) (.bool true)) := fun x => by
  rw [hit_succ]
  by_cases e : C k = x
  · subst e
    exact .inr ⟨by simp, setM_same _ _ _⟩
  · have hne : lc x ≠ .agg #[.int .i32 (C k)] := fun h => e (lc_inj (x := x) (y := C k) h).symm
    have hb : (C k == x) = false := by simpa using e
    rw [setM_other _ _ _ _ hne, hb, Bool.or_false]
    exact h x
/-- What the printer that is asked holds. -/
def Pq (pb m1 m2 : Nat) (mf : Bool) (M1 M2 : Value → Option Value) (w : World) : Prop := w.cell? ⟨pb, 5, none⟩ = some (.map (some m1)) ∧ w.cell? ⟨pb, 6, none⟩ = some (.map (some m2)) ∧ w.cell? ⟨pb, 28, none⟩ = some (.bool mf) ∧ MapIs Try.prog 29 w m1 M1 ∧ MapIs Try.prog 29 w m2 M2
theorem Pq.below {pb m1 m2 : Nat} {mf : Bool} {M1 M2 : Value → Option Value} {w w' : World} (h : Pq pb m1 m2 mf M1 M2 w) (hb : Below w.heap.size w w') : Pq pb m1 m2 mf M1 M2 w' := by
  obtain ⟨h1, h2, h3, h4, h5⟩ := h
  have hl := World.block_lt_of_cell? w _ h1
  exact ⟨(hb.cell (p := ⟨pb, 5, none⟩) hl).trans h1, (hb.cell (p := ⟨pb, 6, none⟩) hl).trans h2, (hb.cell (p := ⟨pb, 28, none⟩) hl).trans h3, h4.below hb h4.lt, h5.below hb h5.lt⟩
set_option maxHeartbeats 4000000 in
set_option maxRecDepth 100000 in
theorem atC (pb m1 m2 : Nat) (mf : Bool) (C D : Nat → Int) (nc nd : Nat) (M1 M2 : Value → Option Value) (x : Int) (w : World) (h : Pq pb m1 m2 mf M1 M2 w) (h1 : Cm C nc M1) (h2 : Dm D nd M2) (hx : -2147483648 ≤ x ∧ x ≤ 2147483647) :
    Calls Try.prog 10 #[.pointer (some ⟨pb, 0, none⟩), .agg #[.int .i32 x]] w fun e w' => e = .returned (.bool (ansF mf C nc D nd x)) ∧ Below w.heap.size w w' := by
  have hb0 : Below w.heap.size w (w.alloc (.cells #[.int .i32 x] 29)) := (Below.refl _ _).alloc (Nat.le_refl _) _
  have hP := h.below hb0
  have hrow := heap_alloc_new w (.cells #[.int .i32 x] 29)
  have x0 : (w.alloc (.cells #[.int .i32 x] 29)).cell? ⟨w.heap.size, 0, none⟩ = some (.int .i32 x) := by rw [cell_of_row _ w.heap.size 0 _ _ _ hrow]; rfl
  obtain ⟨kl, hkl⟩ := keyLoc x hx
  have HX := Lib.hid hx
  have HB0 := Lib.hid hb0
  clear h hx hrow hb0
  have hnz : ∀ (a : Addr) (w : World), (binOp .neq 27 (.slice (some a) 1 1) (.slice none 0 0)).run Try.prog w = .ok (.bool true) w := fun a w => by
    have := run_neq_slice_nil_any (P := Try.prog) w 27 9 (some a) 1 1 0 0 Try.underlying27
    simpa using this
  have hnn : ∀ (w : World), (binOp .neq 27 (.slice none 0 0) (.slice none 0 0)).run Try.prog w = .ok (.bool false) w := fun w => by
    have := run_neq_slice_nil_any (P := Try.prog) w 27 9 none 0 0 0 0 Try.underlying27
    simpa using this
  go_enter Try.func10, Try.ntmps10
  go_wp2_with fail
  generalize w.alloc (.cells #[.int .i32 x] 29) = W at hP x0 HB0 ⊢
  obtain ⟨c5, c6, c7, hM1, hM2⟩ := hP
  have HL1 : ∀ (k : Nat) (r : Value), ((∃ v, M1 (lc x) = some v ∧ r = v) ∨ (M1 (lc x) = none ∧ r = .slice none 0 0)) → (Instr.lookup 26 (.map (some m1)) (.agg #[.int .i32 x]) false).run Try.prog (W.drewN k) = .ok r (W.drewN k) := fun k r hr => by
    have hz : (zeroValue 27).run Try.prog (W.drewN k) = .ok (.slice none 0 0) (W.drewN k) := by kernel_rfl
    rcases hr with ⟨v, hv, rfl⟩ | ⟨hv, rfl⟩
    · have := (show MapIs Try.prog 29 (W.drewN k) m1 M1 from hM1).look KL Try.underlying26 hkl hv false
      simpa using this
    · have := (show MapIs Try.prog 29 (W.drewN k) m1 M1 from hM1).look_no KL Try.underlying26 hkl hv hz false
      simpa using this
  have HL2 : ∀ (k : Nat) (r : Bool), ((M2 (lc x) = some (.bool true) ∧ r = true) ∨ (M2 (lc x) = none ∧ r = false)) → (Instr.lookup 30 (.map (some m2)) (.agg #[.int .i32 x]) false).run Try.prog (W.drewN k) = .ok (.bool r) (W.drewN k) := fun k r hr => by
    have hz : (zeroValue 4).run Try.prog (W.drewN k) = .ok (.bool false) (W.drewN k) := by kernel_rfl
    rcases hr with ⟨hv, rfl⟩ | ⟨hv, rfl⟩
    · have := (show MapIs Try.prog 29 (W.drewN k) m2 M2 from hM2).look KL Try.underlying30 hkl hv false
      simpa using this
    · have := (show MapIs Try.prog 29 (W.drewN k) m2 M2 from hM2).look_no KL Try.underlying30 hkl hv hz false
      simpa using this
  have HQ1 := h1 x
  have HQ2 := h2 x
  clear hM1 hM2 h1 h2 hkl
  cases mf
  · rcases HQ1 with ⟨hh, hn⟩ | ⟨hh, a, hn⟩
    · have hl1 := fun k => HL1 k _ (.inr ⟨hn, rfl⟩)
      have hl10 := hl1 0
      have HA := Lib.hid (show ansF false C nc D nd x = false by unfold ansF; rw [hh]; rfl)
      clear HL1 HL2 hn hh HQ2
      go_quiet (fail)
      go_wp2_with fail
      go_ret
      exact ⟨by rw [HA.out]; rfl, Qd.below_drewN HB0.out _⟩
    · have hl1 := fun k => HL1 k _ (.inl ⟨_, hn, rfl⟩)
      have hl10 := hl1 0
      have hnz := hnz a
      clear HL1 hn
      rcases HQ2 with ⟨hd, hn⟩ | ⟨hd, hn⟩
      · have hl2 := fun k => HL2 k _ (.inr ⟨hn, rfl⟩)
        have hl20 := hl2 0
        have HA := Lib.hid (show ansF false C nc D nd x = true by unfold ansF; rw [hh, hd]; rfl)
        clear HL2 hn hh hd
        go_quiet (fail)
        go_wp2_with fail
        go_ret
        exact ⟨by rw [HA.out]; rfl, Qd.below_drewN HB0.out _⟩
      · have hl2 := fun k => HL2 k _ (.inl ⟨hn, rfl⟩)
        have hl20 := hl2 0
        have HA := Lib.hid (show ansF false C nc D nd x = false by unfold ansF; rw [hh, hd]; rfl)
        clear HL2 hn hh hd
        go_quiet (fail)
        go_wp2_with fail
        go_ret
        exact ⟨by rw [HA.out]; rfl, Qd.below_drewN HB0.out _⟩
  · have HA := Lib.hid (show ansF true C nc D nd x = false by unfold ansF; rfl)
    clear HL1 HL2 HQ1 HQ2
    go_quiet (fail)
    go_wp2_with fail
    go_ret
    exact ⟨by rw [HA.out]; rfl, Qd.below_drewN HB0.out _⟩
set_option maxHeartbeats 4000000 in
set_option maxRecDepth 100000 in
theorem anyC (pb m1 m2 xb n : Nat) (mf : Bool) (C D X : Nat → Int) (nc nd : Nat) (M1 M2 : Value → Option Value) (V : Nat → Value) (w : World) (h : Pq pb m1 m2 mf M1 M2 w) (h1 : Cm C nc M1) (h2 : Dm D nd M2) (hV : Fblk w xb 35 (n * 2) V) (hx : ∀ i, i < n → V (i * 2) = .nilIface ∧ V (i * 2 + 1) = .int .i32 (X i) ∧ -2147483648 ≤ X i ∧ X i ≤ 2147483647) (hn : n ≤ 1048576) :
    Calls Try.prog 9 #[.pointer (some ⟨pb, 0, none⟩), .slice (some ⟨xb, 0, none⟩) n n] w fun e w' => e = .returned (.bool (ans mf C nc D nd X n)) ∧ Below w.heap.size w w' := by
  have HP := Lib.hid h
  have H1 := Lib.hid h1
  have H2 := Lib.hid h2
  have HV := Lib.hid hV
  have HX := Lib.hid hx
  clear h h1 h2 hV hx
  go_enter Try.func9, Try.ntmps9
  go_wp2_with fail
  go_loopw [9] (fun i wr => ∃ k : Nat, k ≤ n ∧ i = .int .i64 k ∧ Hid (ans mf C nc D nd X k = false) ∧ Hid (Below w.heap.size w wr)) (fun i _ => n - (intOf i).toNat)
  case atStart => exact ⟨0, Nat.zero_le _, rfl, Lib.hid rfl, Lib.hid (Below.refl _ _)⟩
  case round =>
    obtain ⟨k, hk, rfl, HN, HB⟩ := hrel
    by_cases hlt : k < n
    · obtain ⟨v0, v1, x0, x1⟩ := HX.out k hlt
      have hk2 : (k : Int) < (n : Int) := by omega
      have hVr := HV.out.below HB.out HV.out.lt
      have c0 := hVr.cell (k * 2) (by omega)
      have c1 := hVr.cell (k * 2 + 1) (by omega)
      rw [v0] at c0
      rw [v1] at c1
      have hb2 : Below wr.heap.size wr (wr.alloc (.cells #[.nilIface, .int .i32 (X k)] 35)) := (Below.refl _ _).alloc (Nat.le_refl _) _
      have HB2 := Lib.hid (HB.out.trans (hb2.mono HB.out.size))
      have hxl := hVr.lt
      clear hVr v0 v1 hb2
      go_wp2_with fail
      refine (atC pb m1 m2 mf C D nc nd M1 M2 (X k) _ (HP.out.below HB2.out) H1.out H2.out ⟨x0, x1⟩).mono ?_
      rintro e w2 ⟨rfl, hb⟩
      have HB3 := Lib.hid (HB2.out.trans (hb.mono HB2.out.size))
      clear hb
      cases hv : ansF mf C nc D nd (X k)
      · have HN2 : Hid (ans mf C nc D nd X (k + 1) = false) := Lib.hid (by rw [ans_succ, HN.out, hv]; rfl)
        clear hv
        go_wp2_with fail
        go_roundw
        case rel => exact ⟨k + 1, by omega, by go_num, HN2, HB3⟩
        case measure => simp [intOf]; omega
      · have HN2 : Hid (ans mf C nc D nd X n = true) := Lib.hid (by
          unfold ans
          rw [List.any_eq_true]
          exact ⟨k, List.mem_range.2 hlt, hv⟩)
        clear hv
        go_wp2_with fail
        go_ret
        exact ⟨by rw [HN2.out]; rfl, HB3.out⟩
    · obtain rfl : k = n := by omega
      go_wp2_with fail
      go_ret
      exact ⟨by rw [HN.out]; rfl, HB.out⟩
theorem doorC (pb m1 m2 xb n : Nat) (mf : Bool) (C D X : Nat → Int) (nc nd : Nat) (M1 M2 : Value → Option Value) (V : Nat → Value) (w : World) (h : Pq pb m1 m2 mf M1 M2 w) (h1 : Cm C nc M1) (h2 : Dm D nd M2) (hV : Fblk w xb 35 (n * 2) V) (hx : ∀ i, i < n → V (i * 2) = .nilIface ∧ V (i * 2 + 1) = .int .i32 (X i) ∧ -2147483648 ≤ X i ∧ X i ≤ 2147483647) (hn : n ≤ 1048576) :
    Calls Try.prog 8 #[.pointer (some ⟨pb, 0, none⟩), .slice (some ⟨xb, 0, none⟩) n n] w fun e w' => e = .returned (.bool (ans mf C nc D nd X n)) ∧ Below w.heap.size w w' := by
  have H := Lib.hid (anyC pb m1 m2 xb n mf C D X nc nd M1 M2 V w h h1 h2 hV hx hn)
  clear h h1 h2 hV hx
  go_enter Try.func8, Try.ntmps8
  go_wp2_with fail
  refine H.out.mono ?_
  rintro e w2 ⟨rfl, hb⟩
  have HB := Lib.hid hb
  clear hb
  go_wp2_with fail
  go_ret
  exact ⟨rfl, HB.out⟩
theorem infoP : (Try.prog.info? 80).map (fun i => match i.zero with | some (.agg cs) => cs.size | _ => 0) = some 139 := by kernel_rfl
theorem zeroP : ∃ Z : Array Value, (∀ w : World, (zeroValue 80).run Try.prog w = .ok (.agg Z) w) ∧ Z.size = 139 := by
  have h := infoP
  cases hi : Try.prog.info? 80 with
  | none => rw [hi] at h; cases h
  | some i =>
    rw [hi] at h
    simp only [Option.map_some, Option.some.injEq] at h
    split at h
    · rename_i cs hz
      exact ⟨cs, fun w => by simp [zeroValue, typeInfo, hi, hz], h⟩
    · cases h
theorem infoO : (Try.prog.info? 55).map (fun i => match i.zero with | some (.agg cs) => cs.size | _ => 0) = some 25 := by kernel_rfl
theorem zeroO : ∃ Z : Array Value, (∀ w : World, (zeroValue 55).run Try.prog w = .ok (.agg Z) w) ∧ Z.size = 25 := by
  have h := infoO
  cases hi : Try.prog.info? 55 with
  | none => rw [hi] at h; cases h
  | some i =>
    rw [hi] at h
    simp only [Option.map_some, Option.some.injEq] at h
    split at h
    · rename_i cs hz
      exact ⟨cs, fun w => by simp [zeroValue, typeInfo, hi, hz], h⟩
    · cases h
theorem ov_list (vs : List Value) : ∀ (k : Nat) (base : Array Value), ((vs.zipIdx k).foldl (fun cs x => cs.setIfInBounds (12 + x.2) x.1) base).size = base.size ∧ ∀ i, ((vs.zipIdx k).foldl (fun cs x => cs.setIfInBounds (12 + x.2) x.1) base)[i]? = if 12 + k ≤ i ∧ i < 12 + k + vs.length ∧ i < base.size then vs[i - (12 + k)]? else base[i]? := by
  induction vs with
  | nil => intro k base; refine ⟨rfl, fun i => ?_⟩; rw [if_neg (by simp; omega)]; rfl
  | cons v r ih =>
    intro k base
    rw [List.zipIdx_cons, List.foldl_cons]
    obtain ⟨h1, h2⟩ := ih (k + 1) (base.setIfInBounds (12 + k) v)
    refine ⟨by rw [h1]; simp, fun i => ?_⟩
    rw [h2, Array.size_setIfInBounds]
    by_cases e : i = 12 + k
    · subst e
      rw [if_neg (by omega)]
      by_cases hb : 12 + k < base.size
      · rw [if_pos ⟨by omega, by simp, hb⟩]
        simp [hb]
      · rw [if_neg (by omega)]
        simp [hb]
    · rw [Array.getElem?_setIfInBounds_ne (by omega)]
      by_cases hc : 12 + (k + 1) ≤ i ∧ i < 12 + (k + 1) + r.length ∧ i < base.size
      · rw [if_pos hc, if_pos ⟨by omega, by simp; omega, hc.2.2⟩, show i - (12 + k) = (i - (12 + (k + 1))) + 1 by omega, List.getElem?_cons_succ]
      · rw [if_neg hc, if_neg (by simp; omega)]
theorem ov_get (Y base : Array Value) (n : Nat) (hn : n = Y.size) (i : Nat) : (Array.foldl (fun cs x => cs.setIfInBounds (12 + x.snd) x.fst) base Y.zipIdx 0 n)[i]? = if 12 ≤ i ∧ i < 12 + Y.size ∧ i < base.size then Y[i - 12]? else base[i]? := by
  have e : n = Y.zipIdx.size := by simp [hn]
  rw [e, ← Array.foldl_toList, Array.toList_zipIdx]
  have := (ov_list Y.toList 0 base).2 i
  simpa using this
theorem cellsB {w : World} {b i : Nat} {t : TypeId} {cs : Array Value} {v : Value} (h : w.heap[b]? = some (.cells cs t (0, 0))) (hv : cs[i]? = some v) : w.cell? ⟨b, i, none⟩ = some v := by
  rw [cell_of_row w b i cs t _ h, hv]
def PrR (mf : Bool) (m1 m2 : Nat) (w : World) (e : Ending) (w' : World) : Prop := ∃ pb, e = .returned (.pointer (some ⟨pb, 0, none⟩)) ∧ w'.cell? ⟨pb, 5, none⟩ = some (.map (some m1)) ∧ w'.cell? ⟨pb, 6, none⟩ = some (.map (some m2)) ∧ w'.cell? ⟨pb, 28, none⟩ = some (.bool mf) ∧ Below w.heap.size w w'
set_option maxHeartbeats 4000000 in
set_option maxRecDepth 100000 in
theorem printerC (mf : Bool) (m1 m2 : Nat) (w : World) : Calls Try.prog 7 #[.bool mf, .map (some m1), .map (some m2)] w (PrR mf m1 m2 w) := by
  obtain ⟨Z, hz, hsz⟩ := zeroP
  obtain ⟨Y, hy, hyz⟩ := zeroO
  have hne : ¬ Z = #[] := by intro e; rw [e] at hsz; cases hsz
  have hne2 : ¬ Y = #[] := by intro e; rw [e] at hyz; cases hyz
  go_enter Try.func7, Try.ntmps7
  go_wp2_with fail
  have hC := fun i => ov_get (Y.setIfInBounds 16 (.bool mf)) ((Z.setIfInBounds 5 (.map (some m1))).setIfInBounds 6 (.map (some m2))) 25 (by simp [hyz]) i
  have q5 := hC 5
  have q6 := hC 6
  have q28 := hC 28
  rw [if_neg (by omega)] at q5 q6
  rw [if_pos (by simp [hyz, hsz])] at q28
  simp [hsz] at q5 q6
  simp [hyz] at q28
  clear hC
  generalize Array.foldl (fun (cs : Array Value) (x : Value × Nat) => cs.setIfInBounds (12 + x.snd) x.fst) ((Z.setIfInBounds 5 (.map (some m1))).setIfInBounds 6 (.map (some m2))) (Y.setIfInBounds 16 (.bool mf)).zipIdx 0 25 = C at q5 q6 q28 ⊢
  have hr := heap_alloc_new w (.cells C 80)
  go_ret
  exact ⟨w.heap.size, rfl, cellsB (i := 5) hr q5, cellsB (i := 6) hr q6, cellsB (i := 28) hr q28, by (repeat' (first | exact Below.refl _ _ | refine Below.drewR ?_ | (refine Below.alloc ?_ (by simp; omega) _) | (refine Below.alloc ?_ (by simp) _) | (refine Below.setCell ?_ (by simp; omega) _) | (refine Below.setCell ?_ (by simp) _)))⟩
theorem infoE : ∃ z bytes, bytes ≤ 1024 ∧ (Try.prog.info? 35).map (fun i => (i.zero, i.size, i.bytes)) = some (some z, 2, bytes) := ⟨.agg #[.nilIface, .int .i32 0], 24, by omega, by kernel_rfl⟩
set_option maxHeartbeats 4000000 in
set_option maxRecDepth 100000 in
/-- The whole question. -/
theorem askC (a0 : Option Addr) (n c0 : Nat) (X : Nat → Int) (a1 : Option Addr) (nc c1 : Nat) (C : Nat → Int) (a2 : Option Addr) (nd c2 : Nat) (D : Nat → Int) (mf : Bool) (w : World) (h0 : Fsl w a0 n (fun i => .int .i32 (X i))) (h1 : Fsl w a1 nc (fun i => .int .i32 (C i))) (h2 : Fsl w a2 nd (fun i => .int .i32 (D i)))
    (hX : ∀ i, i < n → -2147483648 ≤ X i ∧ X i ≤ 2147483647) (hC : ∀ i, i < nc → -2147483648 ≤ C i ∧ C i ≤ 2147483647) (hD : ∀ i, i < nd → -2147483648 ≤ D i ∧ D i ≤ 2147483647) (b0 : n ≤ 8192) (b1 : nc ≤ 4096) (b2 : nd ≤ 4096) :
    Calls Try.prog 6 #[.slice a0 n c0, .slice a1 nc c1, .slice a2 nd c2, .bool mf] w fun e w' => e = .returned (.bool (ans mf C nc D nd X n)) ∧ Below w.heap.size w w' := by
  obtain ⟨z, bytes, hbz, hi⟩ := infoE
  obtain ⟨cs, hcs⟩ : ∃ cs, z.cells = cs := ⟨_, rfl⟩
  have hmk := run_make_many (P := Try.prog) Try.underlying31 hi hcs hbz n (by omega)
  have hmm : ∀ w : World, (Instr.makeMap 26 none).run Try.prog w = .ok (.map (some w.heap.size)) (w.alloc (.map #[] 0)) := fun w => run_makeMap 26 w
  have hmm2 : ∀ w : World, (Instr.makeMap 30 none).run Try.prog w = .ok (.map (some w.heap.size)) (w.alloc (.map #[] 0)) := fun w => run_makeMap 30 w
  have H0 := Lib.hid h0
  have H1 := Lib.hid h1
  have H2 := Lib.hid h2
  have HX := Lib.hid hX
  have HC := Lib.hid hC
  have HD := Lib.hid hD
  clear hi hcs hbz h0 h1 h2 hX hC hD
  go_enter Try.func6, Try.ntmps6
  go_wp2_with fail
  go_loopw [10] (fun i wr => ∃ (k : Nat) (M : Value → Option Value), k ≤ nc ∧ i = .int .i64 k ∧ Hid (MapIs Try.prog 29 wr w.heap.size M) ∧ Hid (Cm C k M) ∧ Hid (Below w.heap.size w wr)) (fun i _ => nc - (intOf i).toNat)
  case atStart => exact ⟨0, noneM, Nat.zero_le _, rfl, Lib.hid (MapIs.made _ _ _), Lib.hid (fun x => .inl ⟨rfl, rfl⟩), Lib.hid (by (repeat' (first | exact Below.refl _ _ | refine Below.drewR ?_ | (refine Below.alloc ?_ (by simp; omega) _) | (refine Below.alloc ?_ (by simp) _) | (refine Below.setCell ?_ (by simp; omega) _) | (refine Below.setCell ?_ (by simp) _))))⟩
  case round =>
    obtain ⟨k, M, hk, rfl, HM, HS, HB⟩ := hrel
    by_cases hlt : k < nc
    · obtain ⟨b, off, rfl, hb0, d0⟩ := H1.out.at k hlt
      have hk2 : (k : Int) < (nc : Int) := by omega
      have d0' := (HB.out.cell (p := ⟨b, off + k, none⟩) hb0).trans d0
      obtain ⟨kl, hkl⟩ := keyLoc (C k) (HC.out k hlt)
      obtain ⟨o, hrun, hm⟩ := (HM.out.alloc (.cells #[.string ⟨#[47, 42, 32, 99, 32, 42, 47]⟩] 9)).update KL Try.underlying26 hkl (.slice (some ⟨wr.heap.size, 0, none⟩) 1 1)
      have HM2 := Lib.hid hm
      have hb1 : Below wr.heap.size wr (wr.alloc (.cells #[.string ⟨#[47, 42, 32, 99, 32, 42, 47]⟩] 9)) := (Below.refl _ _).alloc (Nat.le_refl _) _
      have HB2 := Lib.hid (setBlock_below (HB.out.trans (hb1.mono HB.out.size)) (Nat.le_refl _) o)
      clear d0 hkl hm hb1
      go_wp2_with fail
      go_roundw
      case rel => exact ⟨k + 1, _, by omega, by go_num, HM2, Lib.hid (HS.out.step _), HB2⟩
      case measure => simp [intOf]; omega
    · obtain rfl : k = nc := by omega
      obtain ⟨wo, rfl⟩ : ∃ wo : World, wo = wr := ⟨_, rfl⟩
      have hlo := HB.out.size
      go_wp2_with fail
      go_loopw [12] (fun i wr => ∃ (j : Nat) (N : Value → Option Value), j ≤ nd ∧ i = .int .i64 j ∧ Hid (MapIs Try.prog 29 wr wo.heap.size N) ∧ Hid (Dm D j N) ∧ Hid (Below wo.heap.size wo wr)) (fun i _ => nd - (intOf i).toNat)
      case atStart => exact ⟨0, noneM, Nat.zero_le _, rfl, Lib.hid (MapIs.made _ _ _), Lib.hid (fun x => .inl ⟨rfl, rfl⟩), Lib.hid (by (repeat' (first | exact Below.refl _ _ | refine Below.drewR ?_ | (refine Below.alloc ?_ (by simp; omega) _) | (refine Below.alloc ?_ (by simp) _) | (refine Below.setCell ?_ (by simp; omega) _) | (refine Below.setCell ?_ (by simp) _))))⟩
      case round =>
        obtain ⟨j, N, hj, rfl, HN, HT, HE⟩ := hrel
        have HBE := Lib.hid (HB.out.trans (HE.out.mono hlo))
        by_cases hjl : j < nd
        · obtain ⟨b, off, rfl, hb0, d0⟩ := H2.out.at j hjl
          have hj2 : (j : Int) < (nd : Int) := by omega
          have d0' := (HBE.out.cell (p := ⟨b, off + j, none⟩) hb0).trans d0
          obtain ⟨kl, hkl⟩ := keyLoc (D j) (HD.out j hjl)
          obtain ⟨o, hrun, hm⟩ := HN.out.update KL Try.underlying30 hkl (.bool true)
          have HN2 := Lib.hid hm
          have HE2 := Lib.hid (setBlock_below HE.out (Nat.le_refl _) o)
          clear d0 hkl hm
          go_wp2_with fail
          go_roundw
          case rel => exact ⟨j + 1, _, by omega, by go_num, HN2, Lib.hid HT.out.step, HE2⟩
          case measure => simp [intOf]; omega
        · obtain rfl : j = nd := by omega
          obtain ⟨ws, rfl⟩ : ∃ ws : World, ws = wr := ⟨_, rfl⟩
          have HM1 := Lib.hid (HM.out.below HE.out HM.out.lt)
          have hls := HBE.out.size
          go_wp2_with fail
          go_loopw [14] (fun i wr => ∃ (l : Nat) (V : Nat → Value), l ≤ n ∧ i = .int .i64 l ∧ Hid (Fblk wr ws.heap.size 35 (n * 2) V) ∧ Hid (∀ i, i < l → V (i * 2) = .nilIface ∧ V (i * 2 + 1) = .int .i32 (X i)) ∧ Hid (Below ws.heap.size ws wr)) (fun i _ => n - (intOf i).toNat)
          case atStart => exact ⟨0, _, Nat.zero_le _, rfl, Lib.hid (Fblk.madeMany _ _ _ _), Lib.hid (fun i hi => absurd hi (Nat.not_lt_zero _)), Lib.hid (by (repeat' (first | exact Below.refl _ _ | refine Below.drewR ?_ | (refine Below.alloc ?_ (by simp; omega) _) | (refine Below.alloc ?_ (by simp) _) | (refine Below.setCell ?_ (by simp; omega) _) | (refine Below.setCell ?_ (by simp) _))))⟩
          case round =>
            obtain ⟨l, V, hl, rfl, HV, HVX, HF⟩ := hrel
            have HBF := Lib.hid (HBE.out.trans (HF.out.mono hls))
            by_cases hll : l < n
            · obtain ⟨b, off, rfl, hb0, d0⟩ := H0.out.at l hll
              have hl2 : (l : Int) < (n : Int) := by omega
              have d0' := (HBF.out.cell (p := ⟨b, off + l, none⟩) hb0).trans d0
              have y0 := HV.out.cell (l * 2) (by omega)
              have y1 := HV.out.cell (l * 2 + 1) (by omega)
              have f0 := HV.out.frozen (l * 2)
              have f1 := HV.out.frozen (l * 2 + 1)
              clear d0
              go_wp2_with fail
              go_roundw
              case rel => exact ⟨l + 1, _, by omega, by go_num, Lib.hid ((HV.out.set (l * 2) .nilIface).set (l * 2 + 1) (.int .i32 (X l))), Lib.hid (fun i hi => by
                by_cases e : i = l
                · subst e
                  exact ⟨by rw [upd_other _ _ _ _ (by omega), upd_same], upd_same _ _ _⟩
                · obtain ⟨p0, p1⟩ := HVX.out i (by omega)
                  exact ⟨by rw [upd_other _ _ _ _ (by omega), upd_other _ _ _ _ (by omega)]; exact p0, by rw [upd_other _ _ _ _ (by omega), upd_other _ _ _ _ (by omega)]; exact p1⟩), Lib.hid ((HF.out.setCell (Nat.le_refl _) _).setCell (Nat.le_refl _) _)⟩
              case measure => simp [intOf]; omega
            · obtain rfl : l = n := by omega
              obtain ⟨wt, rfl⟩ : ∃ wt : World, wt = wr := ⟨_, rfl⟩
              have HM2 := Lib.hid (HM1.out.below HF.out HM1.out.lt)
              have HN2 := Lib.hid (HN.out.below HF.out HN.out.lt)
              go_wp2_with fail
              refine (printerC mf w.heap.size wo.heap.size _).mono ?_
              rintro e w9 ⟨pb, rfl, p5, p6, p28, hb9⟩
              have HPQ := Lib.hid (show Pq pb w.heap.size wo.heap.size mf M N w9 from ⟨p5, p6, p28, HM2.out.below hb9 HM2.out.lt, HN2.out.below hb9 HN2.out.lt⟩)
              have HV9 := Lib.hid (HV.out.below hb9 HV.out.lt)
              have HB9 := Lib.hid (HBF.out.trans (hb9.mono HBF.out.size))
              clear p5 p6 p28 hb9
              go_wp2_with fail
              refine (doorC pb w.heap.size wo.heap.size ws.heap.size l mf C D X k j M N V _ HPQ.out HS.out HT.out HV9.out (fun i hi => ⟨(HVX.out i hi).1, (HVX.out i hi).2, HX.out i hi⟩) (by omega)).mono ?_
              rintro e w10 ⟨rfl, hb10⟩
              have HB10 := Lib.hid (HB9.out.trans (hb10.mono HB9.out.size))
              clear hb10
              go_wp2_with fail
              go_ret
              exact ⟨rfl, HB10.out⟩
def updI (S : Nat → Int) (i : Nat) (v : Int) : Nat → Int := fun j => if j = i then v else S j
theorem updI_same (S : Nat → Int) (i : Nat) (v : Int) : updI S i v i = v := by simp [updI]
theorem updI_other (S : Nat → Int) (i j : Nat) (v : Int) (h : j ≠ i) : updI S i v j = S j := by simp [updI, h]
theorem updI_of (S : Nat → Int) (i : Nat) (v : Int) (q : Nat) : upd (fun q => Value.int .i32 (S q)) i (.int .i32 v) q = .int .i32 (updI S i v q) := by
  unfold upd updI
  by_cases e : q = i <;> simp [e]
/-- The two rows under way. -/
def Qs (z N : Nat) (P R : Nat → Int) (w0 w : World) : Prop := Fblk w z 21 N (fun q => .int .i32 (P q)) ∧ Fblk w (z + 1) 21 N (fun q => .int .i32 (R q)) ∧ Below w0.heap.size w0 w ∧ w0.heap.size ≤ z
theorem Qs.app1 {z N m : Nat} {P R : Nat → Int} {w0 w : World} (h : Qs z N P R w0 w) (hm : m < N) (hN : N ≤ 1048576) (x : Int) :
    ∃ v' w', (Builtin.append_ #[22, 22] 22 #[.slice (some ⟨z, 0, none⟩) m N, .slice (some ⟨w.heap.size, 0, none⟩) 1 1]).run Try.prog (w.alloc (.cells #[.int .i32 x] 21)) = .ok v' w' ∧
      (v' = .slice (some ⟨z, 0, none⟩) (m + 1) N ∧ Hid (Qs z N (updI P m x) R w0 w')) := by
  obtain ⟨h1, h2, h3, h4⟩ := h
  obtain ⟨v', w', hr, rfl, rfl⟩ := pathApp z m N _ x w h1 hm hN
  refine ⟨_, _, hr, rfl, Lib.hid ⟨((h1.alloc _).set m (.int .i32 x)).congr fun q _ => updI_of _ _ _ _, (h2.alloc _).other (by show z ≠ z + 1; omega) _, (h3.alloc h3.size _).setCell h4 _, h4⟩⟩
theorem Qs.app2 {z N m : Nat} {P R : Nat → Int} {w0 w : World} (h : Qs z N P R w0 w) (hm : m < N) (hN : N ≤ 1048576) (x : Int) :
    ∃ v' w', (Builtin.append_ #[22, 22] 22 #[.slice (some ⟨z + 1, 0, none⟩) m N, .slice (some ⟨w.heap.size, 0, none⟩) 1 1]).run Try.prog (w.alloc (.cells #[.int .i32 x] 21)) = .ok v' w' ∧
      (v' = .slice (some ⟨z + 1, 0, none⟩) (m + 1) N ∧ Hid (Qs z N P (updI R m x) w0 w')) := by
  obtain ⟨h1, h2, h3, h4⟩ := h
  obtain ⟨v', w', hr, rfl, rfl⟩ := pathApp (z + 1) m N _ x w h2 hm hN
  refine ⟨_, _, hr, rfl, Lib.hid ⟨(h1.alloc _).other (by show z + 1 ≠ z; omega) _, ((h2.alloc _).set m (.int .i32 x)).congr fun q _ => updI_of _ _ _ _, (h3.alloc h3.size _).setCell (by show w0.heap.size ≤ z + 1; omega) _, h4⟩⟩
theorem Cop.off {w w' : World} {a : Option Addr} {n : Nat} {t : TypeId} {V : Nat → Value} {e : Ending} (h : Cop w a n t V e w') : ∃ a' c', e = .returned (.slice a' n c') ∧ Fsl w' a' n V ∧ Below w.heap.size w w' := by
  obtain ⟨a', c', rfl, _, hf, hb, _, _⟩ := h
  exact ⟨a', c', rfl, hf, hb⟩
set_option maxHeartbeats 8000000 in
set_option maxRecDepth 100000 in
theorem main (a0 : Option Addr) (la c0 : Nat) (A : Nat → Int) (a1 : Option Addr) (lb c1 : Nat) (B : Nat → Int) (a2 : Option Addr) (nc c2 : Nat) (C : Nat → Int) (a3 : Option Addr) (nd c3 : Nat) (D : Nat → Int) (mf : Bool) (w : World)
    (h0 : Fsl w a0 la (fun i => .int .i32 (A i))) (h1 : Fsl w a1 lb (fun i => .int .i32 (B i))) (h2 : Fsl w a2 nc (fun i => .int .i32 (C i))) (h3 : Fsl w a3 nd (fun i => .int .i32 (D i)))
    (hA : ∀ i, i < la → -2147483648 ≤ A i ∧ A i ≤ 2147483647) (hB : ∀ i, i < lb → -2147483648 ≤ B i ∧ B i ≤ 2147483647) (hC : ∀ i, i < nc → -2147483648 ≤ C i ∧ C i ≤ 2147483647) (hD : ∀ i, i < nd → -2147483648 ≤ D i ∧ D i ≤ 2147483647) (m0 : la ≤ maxLen) (m1 : lb ≤ maxLen) (m2 : nc ≤ maxLen) (m3 : nd ≤ maxLen) :
    Calls Try.prog 3 #[.slice a0 la c0, .slice a1 lb c1, .slice a2 nc c2, .slice a3 nd c3, .bool mf] w fun e w' => e = .returned (.bool true) ∧ Below w.heap.size w w' := by
  unfold maxLen at m0 m1 m2 m3
  have H0 := Lib.hid h0
  have H1 := Lib.hid h1
  have H2 := Lib.hid h2
  have H3 := Lib.hid h3
  have HA := Lib.hid hA
  have HB := Lib.hid hB
  have HC := Lib.hid hC
  have HD := Lib.hid hD
  clear h0 h1 h2 h3 hA hB hC hD
  go_enter Try.func3, Try.ntmps3
  go_wp2_with fail
  refine (zb a0 la c0 a1 lb c1 a2 nc c2 a3 nd c3 mf _).mono ?_
  rintro e w1 ⟨rfl, v, rfl⟩
  cases v
  · go_wp2_with fail
    go_ret
    exact ⟨rfl, Below.refl _ _⟩
  by_cases g0 : (4096 : Int) < (la : Int)
  · go_wp2_with fail
    all_goals
      go_ret
      exact ⟨rfl, Below.refl _ _⟩
  by_cases g1 : (4096 : Int) < (lb : Int)
  · go_wp2_with fail
    all_goals
      go_ret
      exact ⟨rfl, Below.refl _ _⟩
  by_cases g2 : (4096 : Int) < (nc : Int)
  · go_wp2_with fail
    all_goals
      go_ret
      exact ⟨rfl, Below.refl _ _⟩
  by_cases g3 : (4096 : Int) < (nd : Int)
  · go_wp2_with fail
    all_goals
      go_ret
      exact ⟨rfl, Below.refl _ _⟩
  go_wp2_with fail
  refine (ci32 a0 la c0 A _ H0.out (by omega)).mono ?_
  rintro e w2 hc
  obtain ⟨e0, d0, rfl, hf2, hb2⟩ := Cop.off hc
  have F2 := Lib.hid hf2
  have B2 := Lib.hid hb2
  clear hf2 hb2 hc
  go_wp2_with fail
  refine (ci32 a1 lb c1 B _ (H1.out.below B2.out) (by omega)).mono ?_
  rintro e w3 hc
  obtain ⟨e1, d1, rfl, hf3, hb3⟩ := Cop.off hc
  have E3 := Lib.hid hf3
  have F3 := Lib.hid (F2.out.below hb3)
  have B3 := Lib.hid (B2.out.trans (hb3.mono B2.out.size))
  clear hf3 hb3 hc F2
  go_wp2_with fail
  refine (ci32 a2 nc c2 C _ (H2.out.below B3.out) (by omega)).mono ?_
  rintro e w4 hc
  obtain ⟨e2, d2, rfl, hf4, hb4⟩ := Cop.off hc
  have D4 := Lib.hid hf4
  have E4 := Lib.hid (E3.out.below hb4)
  have F4 := Lib.hid (F3.out.below hb4)
  have B4 := Lib.hid (B3.out.trans (hb4.mono B3.out.size))
  clear hf4 hb4 hc E3 F3 B2
  go_wp2_with fail
  refine (ci32 a3 nd c3 D _ (H3.out.below B4.out) (by omega)).mono ?_
  rintro e w5 hc
  obtain ⟨e3, d3, rfl, hf5, hb5⟩ := Cop.off hc
  have C5 := Lib.hid hf5
  have D5 := Lib.hid (D4.out.below hb5)
  have E5 := Lib.hid (E4.out.below hb5)
  have F5 := Lib.hid (F4.out.below hb5)
  have B5 := Lib.hid (B4.out.trans (hb5.mono B4.out.size))
  clear hf5 hb5 hc D4 E4 F4 B3 B4
  have hmk := mk0 (la + lb) (by omega)
  have hN : la + lb ≤ 1048576 := by omega
  have hcast : ((la + lb : Nat) : Int) = (la : Int) + (lb : Int) := by omega
  rw [hcast] at hmk
  have HQ : Hid (Qs w5.heap.size (la + lb) (fun _ => 0) (fun _ => 0) w5 ((w5.alloc (.cells (madeCells #[.int .i32 0] (la + lb)) 21)).alloc (.cells (madeCells #[.int .i32 0] (la + lb)) 21))) :=
    Lib.hid ⟨(Fblk.made _ _ _ _).alloc _, Fblk.madeAt (by simp), by (repeat' (first | exact Below.refl _ _ | refine Below.drewR ?_ | (refine Below.alloc ?_ (by simp; omega) _) | (refine Below.alloc ?_ (by simp) _) | (refine Below.setCell ?_ (by simp; omega) _) | (refine Below.setCell ?_ (by simp) _))), Nat.le_refl _⟩
  clear hcast
  go_wp2_with fail
  go_loopw [11, 13] (fun v i wr => ∃ (k : Nat) (P R : Nat → Int), k ≤ la ∧ i = .int .i64 k ∧ v = .slice (some ⟨w5.heap.size, 0, none⟩) k (la + lb) ∧ Hid (Qs w5.heap.size (la + lb) P R w5 wr) ∧ Hid (∀ q, q < k → P q = A q)) (fun _ i _ => la - (intOf i).toNat)
  case atStart => exact ⟨0, _, _, Nat.zero_le _, rfl, rfl, HQ, Lib.hid fun q hq => absurd hq (Nat.not_lt_zero _)⟩
  case round =>
    obtain ⟨k, P, R, hk, rfl, rfl, HQ, HPA⟩ := hrel
    by_cases hlt : k < la
    · obtain ⟨b, off, rfl, hb0, d0⟩ := F5.out.at k hlt
      have hk2 : (k : Int) < (la : Int) := by omega
      have d0' := (HQ.out.2.2.1.cell (p := ⟨b, off + k, none⟩) hb0).trans d0
      have HA1 := Lib.hid (HQ.out.app1 (m := k) (by omega) hN (A k))
      clear d0
      go_wp2_with (at_builtin; refine wpList_app rfl _ _ #[22, 22] rfl rfl rfl HA1.out ?_; rintro v' w1 ⟨rfl, HQ1⟩)
      go_roundw
      case rel => exact ⟨k + 1, _, _, by omega, by go_num, rfl, HQ1, Lib.hid fun q hq => by
        by_cases e : q = k
        · rw [e, updI_same]
        · rw [updI_other _ _ _ _ e]; exact HPA.out q (by omega)⟩
      case measure => simp [intOf]; omega
    · obtain rfl : k = la := by omega
      go_wp2_with fail
      go_loopw [11, 12, 14] (fun v u i wr => ∃ (j : Nat) (P R : Nat → Int), j ≤ lb ∧ i = .int .i64 j ∧ v = .slice (some ⟨w5.heap.size, 0, none⟩) (k + j) (k + lb) ∧ u = .slice (some ⟨w5.heap.size + 1, 0, none⟩) j (k + lb) ∧ Hid (Qs w5.heap.size (k + lb) P R w5 wr) ∧ Hid (∀ q, q < k → P q = A q) ∧ Hid (∀ q, q < j → P (k + q) = B q ∧ R q = B q)) (fun _ _ i _ => lb - (intOf i).toNat)
      case atStart => exact ⟨0, P, R, Nat.zero_le _, rfl, rfl, rfl, HQ, HPA, Lib.hid fun q hq => absurd hq (Nat.not_lt_zero _)⟩
      case round =>
        obtain ⟨j, P, R, hj, rfl, rfl, rfl, HQ, HPA, HPB⟩ := hrel
        by_cases hjl : j < lb
        · obtain ⟨b, off, rfl, hb0, d0⟩ := E5.out.at j hjl
          have hj2 : (j : Int) < (lb : Int) := by omega
          have d0' := (HQ.out.2.2.1.cell (p := ⟨b, off + j, none⟩) hb0).trans d0
          have HA1 := Lib.hid (HQ.out.app1 (m := k + j) (by omega) hN (B j))
          have HD0 := Lib.hid d0
          clear d0
          go_wp2_with (first | (at_builtin; refine wpList_app rfl _ _ #[22, 22] rfl rfl rfl HA1.out ?_; rintro v' w1 ⟨rfl, HQ1⟩; have d1' := (HQ1.out.2.2.1.cell (p := ⟨b, off + j, none⟩) hb0).trans HD0.out; have HA2 := Lib.hid (HQ1.out.app2 (m := j) (by omega) hN (B j)); clear HA1) | (at_builtin; refine wpList_app rfl _ _ #[22, 22] rfl rfl rfl HA2.out ?_; rintro v' w2 ⟨rfl, HQ2⟩))
          go_roundw
          case rel => exact ⟨j + 1, _, _, by omega, by go_num, rfl, rfl, HQ2, Lib.hid (fun q hq => by rw [updI_other _ _ _ _ (by omega)]; exact HPA.out q hq), Lib.hid fun q hq => by
            by_cases e : q = j
            · rw [e, updI_same, updI_same]; exact ⟨rfl, rfl⟩
            · rw [updI_other _ _ _ _ (by omega), updI_other _ _ _ _ e]; exact HPB.out q (by omega)⟩
          case measure => simp [intOf]; omega
        · obtain rfl : j = lb := by omega
          go_wp2_with fail
          go_loopw [12, 15] (fun u i wr => ∃ (l : Nat) (R : Nat → Int), l ≤ k ∧ i = .int .i64 l ∧ u = .slice (some ⟨w5.heap.size + 1, 0, none⟩) (j + l) (k + j) ∧ Hid (Qs w5.heap.size (k + j) P R w5 wr) ∧ Hid (∀ q, q < j → R q = B q) ∧ Hid (∀ q, q < l → R (j + q) = A q)) (fun _ i _ => k - (intOf i).toNat)
          case atStart => exact ⟨0, R, Nat.zero_le _, rfl, rfl, HQ, Lib.hid (fun q hq => (HPB.out q hq).2), Lib.hid fun q hq => absurd hq (Nat.not_lt_zero _)⟩
          case round =>
            obtain ⟨l, R, hl, rfl, rfl, HQ, HRB, HRA⟩ := hrel
            by_cases hll : l < k
            · obtain ⟨b, off, rfl, hb0, d0⟩ := F5.out.at l hll
              have hl2 : (l : Int) < (k : Int) := by omega
              have d0' := (HQ.out.2.2.1.cell (p := ⟨b, off + l, none⟩) hb0).trans d0
              have HA1 := Lib.hid (HQ.out.app2 (m := j + l) (by omega) hN (A l))
              clear d0
              go_wp2_with (at_builtin; refine wpList_app rfl _ _ #[22, 22] rfl rfl rfl HA1.out ?_; rintro v' w1 ⟨rfl, HQ1⟩)
              go_roundw
              case rel => exact ⟨l + 1, _, by omega, by go_num, rfl, HQ1, Lib.hid (fun q hq => by rw [updI_other _ _ _ _ (by omega)]; exact HRB.out q hq), Lib.hid fun q hq => by
                by_cases e : q = l
                · rw [e, updI_same]
                · rw [updI_other _ _ _ _ (by omega)]; exact HRA.out q (by omega)⟩
              case measure => simp [intOf]; omega
            · obtain rfl : l = k := by omega
              obtain ⟨ws, rfl⟩ : ∃ ws : World, ws = wr := ⟨_, rfl⟩
              have B6 := Lib.hid (B5.out.trans (HQ.out.2.2.1.mono B5.out.size))
              have HZ := Lib.hid (fun (w' : World) (hb : Below ws.heap.size ws w') => (HQ.out.2.2.1.trans (hb.mono HQ.out.2.2.1.size)))
              have HPA2 := Lib.hid (show ans mf C nc D nd P (l + j) = (ans mf C nc D nd A l || ans mf C nc D nd B j) by
                rw [ans_cat (n := l) (m := j) (A := B) (fun q hq => (HPB.out q hq).1), ans_congr (X := P) (Y := A) HPA.out])
              have HRA2 := Lib.hid (show ans mf C nc D nd R (j + l) = (ans mf C nc D nd B j || ans mf C nc D nd A l) by
                rw [ans_cat (n := j) (m := l) (A := A) HRA.out, ans_congr (X := R) (Y := B) HRB.out])
              have HXP := Lib.hid (show ∀ i, i < l + j → -2147483648 ≤ P i ∧ P i ≤ 2147483647 from fun i hi => by
                by_cases e : i < l
                · rw [HPA.out i e]; exact HA.out i e
                · have := (HPB.out (i - l) (by omega)).1
                  rw [show l + (i - l) = i by omega] at this
                  rw [this]; exact HB.out _ (by omega))
              have HXR := Lib.hid (show ∀ i, i < j + l → -2147483648 ≤ R i ∧ R i ≤ 2147483647 from fun i hi => by
                by_cases e : i < j
                · rw [HRB.out i e]; exact HB.out i e
                · have := HRA.out (i - j) (by omega)
                  rw [show j + (i - j) = i by omega] at this
                  rw [this]; exact HA.out _ (by omega))
              clear HPA HPB HRA HRB
              go_wp2_with fail
              refine (askC e0 l d0 A e2 nc d2 C e3 nd d3 D mf _ (F5.out.below HQ.out.2.2.1) (D5.out.below HQ.out.2.2.1) (C5.out.below HQ.out.2.2.1) HA.out HC.out HD.out (by omega) (by omega) (by omega)).mono ?_
              rintro e x1 ⟨rfl, hb1⟩
              have X1 := Lib.hid hb1
              clear hb1
              go_wp2_with fail
              refine (askC e1 j d1 B e2 nc d2 C e3 nd d3 D mf _ (E5.out.below (HZ.out _ X1.out)) (D5.out.below (HZ.out _ X1.out)) (C5.out.below (HZ.out _ X1.out)) HB.out HC.out HD.out (by omega) (by omega) (by omega)).mono ?_
              rintro e x2 ⟨rfl, hb2⟩
              have X2 := Lib.hid (X1.out.trans (hb2.mono X1.out.size))
              clear hb2
              go_wp2_with fail
              refine (askC (some ⟨w5.heap.size, 0, none⟩) (l + j) (l + j) P e2 nc d2 C e3 nd d3 D mf _ ((HQ.out.1.below X2.out HQ.out.1.lt).sl) (D5.out.below (HZ.out _ X2.out)) (C5.out.below (HZ.out _ X2.out)) HXP.out HC.out HD.out (by omega) (by omega) (by omega)).mono ?_
              rintro e x3 ⟨rfl, hb3⟩
              have X3 := Lib.hid (X2.out.trans (hb3.mono X2.out.size))
              clear hb3
              go_wp2_with fail
              refine (askC (some ⟨w5.heap.size + 1, 0, none⟩) (j + l) (l + j) R e2 nc d2 C e3 nd d3 D mf _ ((HQ.out.2.1.below X3.out HQ.out.2.1.lt).sl.fewer (Nat.le_of_eq (Nat.add_comm j l))) (D5.out.below (HZ.out _ X3.out)) (C5.out.below (HZ.out _ X3.out)) HXR.out HC.out HD.out (by omega) (by omega) (by omega)).mono ?_
              rintro e x4 ⟨rfl, hb4⟩
              have X4 := Lib.hid (X3.out.trans (hb4.mono X3.out.size))
              clear hb4
              rw [HPA2.out, HRA2.out]
              generalize ans mf C nc D nd A l = ra
              generalize ans mf C nc D nd B j = rb
              cases ra <;> cases rb
              all_goals
                go_wp2_with fail
                go_ret
                exact ⟨by simp, B6.out.trans (X4.out.mono B6.out.size)⟩

set_option maxHeartbeats 2000000 in
theorem walk (a0 : Option Addr) (len0 cap0 : Nat) (z0 : List Int) (a1 : Option Addr) (len1 cap1 : Nat) (z1 : List Int) (a2 : Option Addr) (len2 cap2 : Nat) (z2 : List Int) (a3 : Option Addr) (len3 cap3 : Nat) (z3 : List Int) (a4 : Bool) (w : World) (w0 : Aid.IsRow .i32 w a0 len0 cap0 z0) (w1 : Aid.IsRow .i32 w a1 len1 cap1 z1) (w2 : Aid.IsRow .i32 w a2 len2 cap2 z2) (w3 : Aid.IsRow .i32 w a3 len3 cap3 z3) :
    Calls Try.prog 3 #[.slice a0 len0 cap0, .slice a1 len1 cap1, .slice a2 len2 cap2, .slice a3 len3 cap3, .bool a4] w fun e w' => e = .returned (.bool true) ∧ Below w.heap.size w w' := by
  obtain ⟨A, hF0, hA, m0, _⟩ := Fl.of_ints w0
  obtain ⟨B, hF1, hB, m1, _⟩ := Fl.of_ints w1
  obtain ⟨C, hF2, hC, m2, _⟩ := Fl.of_ints w2
  obtain ⟨D, hF3, hD, m3, _⟩ := Fl.of_ints w3
  exact main a0 len0 cap0 A a1 len1 cap1 B a2 len2 cap2 C a3 len3 cap3 D a4 w hF0 hF1 hF2 hF3 (fun i hi => Aid.i32_of (hA i hi)) (fun i hi => Aid.i32_of (hB i hi)) (fun i hi => Aid.i32_of (hC i hi)) (fun i hi => Aid.i32_of (hD i hi)) m0 m1 m2 m3

set_option maxRecDepth 100000 in
theorem lifted (os : Os) (started : os.Started) (H : Type) (enc : TypeId × Value → H) :
    ReturnsInHanded {} Try.checked os 3 .any (Rows.fnWillPrintExprCommentsForAnyOfSplitsOverConcatSpec.pre6 enc Try.prog Try.f3 Rows.fnWillPrintExprCommentsForAnyOfSplitsOverConcatRow.domain false) (Rows.fnWillPrintExprCommentsForAnyOfSplitsOverConcatSpec.post enc Try.prog Try.f3 false true false false) := by
  refine returnsInHanded_of_change (C := Try.checked) own started (by kernel_rfl) Try.func3
    (ChangeSpec.witness6 (enc := enc) (C := Try.checked) false ⟨#[], #[.slice none 0 0, .slice none 0 0, .slice none 0 0, .slice none 0 0, .bool false], []⟩ 8 (by kernel_rfl) (by kernel_rfl) (by kernel_rfl) (by kernel_rfl)) ?_
  intro W base args ds gs before hval0 hW hcnd _
  have hval : ∀ (j : Nat) t v, Try.f3.params[j]? = some t → args[j]? = some v → Value.okWide Try.prog W .any base t v := hval0
  have hW' := hW
  obtain ⟨p, q, hA0, hV, rfl, hfz, hnd⟩ := hW
  have hA : DataW.TrodAll enc Try.prog W 0 (fun _ => true) true Try.f3.params.toList args.toList ds p := hA0
  rw [Try.params3] at hA hval
  obtain ⟨v0, vs0, d0, ds0, p0, q0, hargs, rfl, rfl, h0, r0⟩ := trodAll_cons hA
  obtain ⟨v1, vs1, d1, ds1, p1, q1, rfl, rfl, rfl, h1, r1⟩ := trodAll_cons r0
  obtain ⟨v2, vs2, d2, ds2, p2, q2, rfl, rfl, rfl, h2, r2⟩ := trodAll_cons r1
  obtain ⟨v3, vs3, d3, ds3, p3, q3, rfl, rfl, rfl, h3, r3⟩ := trodAll_cons r2
  obtain ⟨v4, vs4, d4, ds4, p4, q4, rfl, rfl, rfl, h4, r4⟩ := trodAll_cons r3
  obtain ⟨rfl, rfl, rfl⟩ := trodAll_nil r4
  obtain rfl : args = #[v0, v1, v2, v3, v4] := by cases args; simp_all
  obtain ⟨rfl, rfl⟩ := trodVars_none hV
  obtain ⟨a0, len0, cap0, rfl⟩ := okWide_slice Try.underlying22 (hval 0 22 v0 rfl rfl)
  have k0 := h0
  have lt0 : ∀ x ∈ p0, x.block < W.heap.size := by obtain ⟨m, hm⟩ := k0; exact DataW.trod_lt m _ _ _ hm
  obtain ⟨z0, w0⟩ := Aid.open_row Try.underlying22 Try.underlying21 (by kernel_rfl) h0
  obtain ⟨a1, len1, cap1, rfl⟩ := okWide_slice Try.underlying22 (hval 1 22 v1 rfl rfl)
  have k1 := h1
  have lt1 : ∀ x ∈ p1, x.block < W.heap.size := by obtain ⟨m, hm⟩ := k1; exact DataW.trod_lt m _ _ _ hm
  obtain ⟨z1, w1⟩ := Aid.open_row Try.underlying22 Try.underlying21 (by kernel_rfl) h1
  obtain ⟨a2, len2, cap2, rfl⟩ := okWide_slice Try.underlying22 (hval 2 22 v2 rfl rfl)
  have k2 := h2
  have lt2 : ∀ x ∈ p2, x.block < W.heap.size := by obtain ⟨m, hm⟩ := k2; exact DataW.trod_lt m _ _ _ hm
  obtain ⟨z2, w2⟩ := Aid.open_row Try.underlying22 Try.underlying21 (by kernel_rfl) h2
  obtain ⟨a3, len3, cap3, rfl⟩ := okWide_slice Try.underlying22 (hval 3 22 v3 rfl rfl)
  have k3 := h3
  have lt3 : ∀ x ∈ p3, x.block < W.heap.size := by obtain ⟨m, hm⟩ := k3; exact DataW.trod_lt m _ _ _ hm
  obtain ⟨z3, w3⟩ := Aid.open_row Try.underlying22 Try.underlying21 (by kernel_rfl) h3
  obtain ⟨a4, rfl, rfl, rfl⟩ := open_bool Try.underlying4 (hval 4 4 v4 rfl rfl) h4
  clear hA0 hval0
  refine (walk a0 len0 cap0 z0 a1 len1 cap1 z1 a2 len2 cap2 z2 a3 len3 cap3 z3 a4 W w0 w1 w2 w3).mono fun e W' ⟨he, bel⟩ => ?_
  subst he
  exact ⟨_, rfl, _, _, _, [], _, [], hW', trodAll_mk1 (shut_bool Try.underlying4 _), (trodAll_cons_mk (Below.trod laidOut (by kernel_rfl) (of_decide_eq_true (by kernel_rfl)) k0 bel lt0) (trodAll_cons_mk (Below.trod laidOut (by kernel_rfl) (of_decide_eq_true (by kernel_rfl)) k1 bel lt1) (trodAll_cons_mk (Below.trod laidOut (by kernel_rfl) (of_decide_eq_true (by kernel_rfl)) k2 bel lt2) (trodAll_cons_mk (Below.trod laidOut (by kernel_rfl) (of_decide_eq_true (by kernel_rfl)) k3 bel lt3) (trodAll_cons_mk (shut_bool Try.underlying4 _) trodAll_mk0))))), rfl, bel.frame _, fun h => by cases h⟩

theorem joined : joinedFacts Try.prog 3 Try.f3 Rows.fnWillPrintExprCommentsForAnyOfSplitsOverConcatSpec Rows.fnWillPrintExprCommentsForAnyOfSplitsOverConcatRow = true := by
  unfold joinedFacts
  rw [Facts.enter, Facts.lifts, Facts.make]
  kernel_rfl

theorem over : Rows.fnWillPrintExprCommentsForAnyOfSplitsOverConcatRow.holds Try.pinned (OpenSpec.ofChange Rows.fnWillPrintExprCommentsForAnyOfSplitsOverConcatSpec) :=
  OpenClaim.holds_of_wide 3 Try.f3 rfl rfl rfl rfl rfl rfl rfl ⟨rfl, rfl, rfl, rfl, rfl⟩ rfl rfl rfl rfl rfl (by kernel_rfl) Try.func3 joined
    (of_decide_eq_true (by kernel_rfl)) (by unfold Func.isWrapper; first | (rw [if_pos (by decide +kernel)]; kernel_rfl) | (rw [if_neg (by decide +kernel)]; exact ⟨rfl, rfl⟩))
    (fun os started H enc _ => lifted os started H enc)

theorem proved : Rows.FnWillPrintExprCommentsForAnyOfSplitsOverConcatSaid :=
  over
#print axioms proved
end Go.Proofs.Ytggpneekfmihhaa.fnWillPrintExprCommentsForAnyOfSplitsOverConcat
