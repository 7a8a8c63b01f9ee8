/- Contracts of functions that the law of this seat reaches, and plain facts; no condition. -/
import Derived.Test.YtfoejbnbmmdmfaaProg
import Derived.WalkKit
import Derived.ProofKit
import Derived.OpenShut
import Derived.ShutString
import Derived.Test.YtfoejbnbmmdmfaaAid
import Derived.Test.YtfoejbnbmmdmfaaFl
import Derived.Test.YtfoejbnbmmdmfaaPb
import Derived.Test.YtfoejbnbmmdmfaaQd
import Derived.Test.YtfoejbnbmmdmfaaAm
import Derived.ArgAppend
import Derived.WalkSpells
import Derived.LoopTactic
import Derived.IntWalk
import Derived.Outline
import Derived.Deep.QuietTactic
import Derived.BigQuiet
import Derived.Deep.RegionHeld3
import Derived.Deep.RegionLaw
import Derived.StillTailTactics
namespace Go.Proofs.Ytfoejbnbmmdmfaa.Aux
open Go.ChangeShapes Go.WideShapes Go.ChangeAt Go.RowKit
open Go.ChangeMaps (open_string shut_string)
set_option linter.unusedVariables false
open Fl Pb Qd
theorem belD {B : Nat} {a w : World} (h : Below B a w) : Below B a w.drew := h.trans ⟨rfl, rfl, rfl, Nat.le_refl _, fun _ _ => rfl⟩
def Bl (w : World) (e : Ending) (w' : World) : Prop := w' = w ∧ ∃ v, e = .returned (.bool v)
theorem zb (a0 : Option Addr) (l0 c0 : Nat) (a1 : Option Addr) (l1 c1 : Nat) (a2 : Option Addr) (l2 c2 : Nat) (w : World) : Calls Try.prog 4 #[.slice a0 l0 c0, .slice a1 l1 c1, .slice a2 l2 c2] w (Bl w) := by
  by_cases h0 : (1048576 : Int) < (l0 : Int)
  · go_enter Try.func4, Try.ntmps4
    go_wp2_with fail
    go_ret
    exact ⟨rfl, _, rfl⟩
  have e0 : IntKind.i64.wrap ((l0 : Int)) = (l0 : Int) := IntWalk.i64_in _ (by omega)
  by_cases h1 : (1048576 : Int) < (l1 : Int)
  · go_enter Try.func4, Try.ntmps4
    go_wp2_with fail
    go_ret
    exact ⟨rfl, _, rfl⟩
  have e1 : IntKind.i64.wrap ((l0 : Int) + (l1 : Int)) = (l0 : Int) + (l1 : Int) := IntWalk.i64_in _ (by omega)
  by_cases g1 : (1048576 : Int) < (l0 : Int) + (l1 : Int)
  · go_enter Try.func4, Try.ntmps4
    go_wp2_with fail
    go_ret
    exact ⟨rfl, _, rfl⟩
  by_cases h2 : (1048576 : Int) < (l2 : Int)
  · go_enter Try.func4, Try.ntmps4
    go_wp2_with fail
    go_ret
    exact ⟨rfl, _, rfl⟩
  have e2 : IntKind.i64.wrap ((l0 : Int) + (l1 : Int) + (l2 : Int)) = (l0 : Int) + (l1 : Int) + (l2 : Int) := IntWalk.i64_in _ (by omega)
  by_cases g2 : (1048576 : Int) < (l0 : Int) + (l1 : Int) + (l2 : Int)
  · go_enter Try.func4, Try.ntmps4
    go_wp2_with fail
    go_ret
    exact ⟨rfl, _, rfl⟩
  go_enter Try.func4, Try.ntmps4
  go_wp2_with fail
  go_ret
  exact ⟨rfl, _, rfl⟩
theorem c8_info : (Try.prog.info? 5).map (fun i => (i.zero, i.size, i.bytes)) = some (some (.int .u8 0), 1, 1) := by kernel_rfl
theorem c8 (a : Option Addr) (len cap : Nat) (S : Nat → Int) (w : World) (h : Fsl w a len (fun i => .int .u8 (S i))) (hlen : len ≤ 137438953472) :
    Calls Try.prog 6 #[.slice a len cap] w (Cop w a len 5 (fun i => .int .u8 (S i))) := by
  have hnil : ∀ w : World, (binOp .eql 22 (.slice a len cap) (.slice none 0 0)).run Try.prog w = .ok (.bool a.isNone) w := fun w => Lib.run_eql_slice_nil w 22 5 _ _ _ _ _ Try.underlying22
  have hmk := run_make_one (P := Try.prog) Try.underlying22 c8_info rfl (by omega) len hlen
  cases a with
  | none =>
    have H := Lib.hid (Cop.nil (t := 5) h)
    go_enter Try.func6, Try.ntmps6
    go_wp2
    go_ret
    exact H.out
  | some x =>
    go_enter Try.func6, Try.ntmps6
    go_wp2
    go_loopw [4] (fun i wr => ∃ k : Nat, k ≤ len ∧ i = .int .i64 k ∧ Fblk wr w.heap.size 5 len (parV (fun i => .int .u8 (S i)) (.int .u8 0) k) ∧ Below w.heap.size w wr) (fun i _ => len - (intOf i).toNat)
    case atStart => exact ⟨0, by omega, rfl, by rw [parV_zero]; exact Fblk.made _ _ _ _, (Below.refl _ _).alloc (Nat.le_refl _) _⟩
    case round =>
      obtain ⟨k, hk, rfl, hb, hl⟩ := hrel
      have HB := Lib.hid hb
      by_cases hlt : k < len
      · obtain ⟨b, off, e, hlb, hc⟩ := h.at k hlt
        injection e with e
        subst e
        have hc' : wr.cell? ⟨b, off + k, none⟩ = some (.int .u8 (S k)) := by rw [hl.cell (p := ⟨b, off + k, none⟩) hlb]; exact hc
        have hd := hb.cell k hlt
        have hz := hb.frozen k
        have hk2 : (k : Int) < (len : Int) := by omega
        clear hc hb
        go_wp2
        go_roundw
        case rel => exact ⟨k + 1, by omega, by go_num, by rw [← parV_set]; exact HB.out.set k _, hl.setCell (Nat.le_refl _) _⟩
        case measure => simp [intOf]; omega
      · obtain rfl : k = len := by omega
        clear hb
        go_wp2
        go_ret
        exact Cop.mk (HB.out.congr fun i hi => by simp [parV, hi]) hl (Nat.le_refl _)

theorem cb_info : (Try.prog.info? 4).map (fun i => (i.zero, i.size, i.bytes)) = some (some (.bool false), 1, 1) := by kernel_rfl
theorem cb (a : Option Addr) (len cap : Nat) (S : Nat → Bool) (w : World) (h : Fsl w a len (fun i => .bool (S i))) (hlen : len ≤ 137438953472) :
    Calls Try.prog 7 #[.slice a len cap] w (Cop w a len 4 (fun i => .bool (S i))) := by
  have hnil : ∀ w : World, (binOp .eql 23 (.slice a len cap) (.slice none 0 0)).run Try.prog w = .ok (.bool a.isNone) w := fun w => Lib.run_eql_slice_nil w 23 4 _ _ _ _ _ Try.underlying23
  have hmk := run_make_one (P := Try.prog) Try.underlying23 cb_info rfl (by omega) len hlen
  cases a with
  | none =>
    have H := Lib.hid (Cop.nil (t := 4) h)
    go_enter Try.func7, Try.ntmps7
    go_wp2
    go_ret
    exact H.out
  | some x =>
    go_enter Try.func7, Try.ntmps7
    go_wp2
    go_loopw [4] (fun i wr => ∃ k : Nat, k ≤ len ∧ i = .int .i64 k ∧ Fblk wr w.heap.size 4 len (parV (fun i => .bool (S i)) (.bool false) k) ∧ Below w.heap.size w wr) (fun i _ => len - (intOf i).toNat)
    case atStart => exact ⟨0, by omega, rfl, by rw [parV_zero]; exact Fblk.made _ _ _ _, (Below.refl _ _).alloc (Nat.le_refl _) _⟩
    case round =>
      obtain ⟨k, hk, rfl, hb, hl⟩ := hrel
      have HB := Lib.hid hb
      by_cases hlt : k < len
      · obtain ⟨b, off, e, hlb, hc⟩ := h.at k hlt
        injection e with e
        subst e
        have hc' : wr.cell? ⟨b, off + k, none⟩ = some (.bool (S k)) := by rw [hl.cell (p := ⟨b, off + k, none⟩) hlb]; exact hc
        have hd := hb.cell k hlt
        have hz := hb.frozen k
        have hk2 : (k : Int) < (len : Int) := by omega
        clear hc hb
        go_wp2
        go_roundw
        case rel => exact ⟨k + 1, by omega, by go_num, by rw [← parV_set]; exact HB.out.set k _, hl.setCell (Nat.le_refl _) _⟩
        case measure => simp [intOf]; omega
      · obtain rfl : k = len := by omega
        clear hb
        go_wp2
        go_ret
        exact Cop.mk (HB.out.congr fun i hi => by simp [parV, hi]) hl (Nat.le_refl _)

/-- The sum of the first k. -/
def sum (D : Nat → Int) : Nat → Int
  | 0 => 0
  | k + 1 => sum D k + D k
theorem sum_le (D : Nat → Int) (n : Nat) (h : ∀ i, i < n → 0 ≤ D i ∧ D i ≤ 255) : ∀ k, k ≤ n → 0 ≤ sum D k ∧ sum D k ≤ 255 * k
  | 0, _ => ⟨Int.le_refl _, Int.le_refl _⟩
  | k + 1, hk => by
    have := sum_le D n h k (by omega)
    have := h k (by omega)
    simp only [sum]
    omega
theorem sum_mono (D : Nat → Int) (n : Nat) (h : ∀ i, i < n → 0 ≤ D i ∧ D i ≤ 255) : ∀ k j, j + k ≤ n → sum D j ≤ sum D (j + k)
  | 0, j, _ => Int.le_refl _
  | k + 1, j, hk => by
    have := sum_mono D n h k j (by omega)
    have := h (j + k) (by omega)
    rw [← Nat.add_assoc]
    simp only [sum]
    omega
/-- What the law's guard says. -/
def Gd (n0 n1 n2 : Nat) (D : Nat → Int) (w : World) (e : Ending) (w' : World) : Prop := w' = w ∧ ∃ v, e = .returned (.bool v) ∧ (v = true → n0 ≤ 65536 ∧ n1 = n0 ∧ n2 = n0 ∧ sum D n0 ≤ 65536)
theorem gd (a0 : Option Addr) (n0 c0 : Nat) (a1 : Option Addr) (n1 c1 : Nat) (a2 : Option Addr) (n2 c2 : Nat) (D : Nat → Int) (w : World) (h2 : Fsl w a2 n2 (fun i => .int .u8 (D i))) (hD : ∀ i, i < n2 → 0 ≤ D i ∧ D i ≤ 255) :
    Calls Try.prog 5 #[.slice a0 n0 c0, .slice a1 n1 c1, .slice a2 n2 c2] w (Gd n0 n1 n2 D w) := by
  by_cases g0 : (65536 : Int) < (n0 : Int)
  · go_enter Try.func5, Try.ntmps5
    go_wp2_with fail
    go_ret
    exact ⟨rfl, _, rfl, fun e => by cases e⟩
  by_cases g1 : (65536 : Int) < (n1 : Int)
  · go_enter Try.func5, Try.ntmps5
    go_wp2_with fail
    go_ret
    exact ⟨rfl, _, rfl, fun e => by cases e⟩
  by_cases g2 : (65536 : Int) < (n2 : Int)
  · go_enter Try.func5, Try.ntmps5
    go_wp2_with fail
    go_ret
    exact ⟨rfl, _, rfl, fun e => by cases e⟩
  have g3 : ¬ (1048576 : Int) < (n0 : Int) + (n1 : Int) + (n2 : Int) := by omega
  by_cases g4 : n1 = n0
  · by_cases g5 : n2 = n0
    · subst g4
      subst g5
      have HD := Lib.hid hD
      have HS := Lib.hid (sum_le D n2 hD)
      clear hD
      go_enter Try.func5, Try.ntmps5
      go_wp2_with fail
      go_loop [7, 8] (fun z i => ∃ k : Nat, k ≤ n2 ∧ i = .int .i64 k ∧ z = .int .i64 (sum D k)) (fun _ i => n2 - (intOf i).toNat)
      case atStart => exact ⟨0, by omega, rfl, rfl⟩
      case round =>
        obtain ⟨k, hk, rfl, rfl⟩ := hrel
        have hs := HS.out k hk
        by_cases hlt : k < n2
        · obtain ⟨b, off, rfl, hlb, hc⟩ := h2.at k hlt
          have hd := HD.out k hlt
          have hk2 : (k : Int) < (n2 : Int) := by omega
          go_wp2_with fail
          go_round
          case rel => exact ⟨k + 1, by omega, by go_num, rfl⟩
          case measure => simp [intOf]; omega
        · obtain rfl : k = n2 := by omega
          by_cases hs2 : sum D k ≤ 65536
          · go_wp2_with fail
            go_ret
            exact ⟨rfl, _, rfl, fun _ => ⟨by omega, rfl, rfl, hs2⟩⟩
          · have hs3 : decide (sum D k ≤ 65536) = false := by simpa using hs2
            go_wp2_with fail
            go_ret
            exact ⟨rfl, _, rfl, fun e => by cases e⟩
    · have g6 : ((n2 : Int) != (n0 : Int)) = true := by simp; omega
      have g7 : ((n2 : Int) == (n0 : Int)) = false := by simp; omega
      subst g4
      go_enter Try.func5, Try.ntmps5
      go_wp2_with fail
      go_ret
      exact ⟨rfl, _, rfl, fun e => by cases e⟩
  · have g6 : ((n1 : Int) != (n0 : Int)) = true := by simp; omega
    have g7 : ((n1 : Int) == (n0 : Int)) = false := by simp; omega
    go_enter Try.func5, Try.ntmps5
    go_wp2_with fail
    go_ret
    exact ⟨rfl, _, rfl, fun e => by cases e⟩
/-- Each of the first n values fills one cell. -/
def OneV (n : Nat) (V : Nat → Value) : Prop := ∀ i, i < n → (V i).oneCell' = true
theorem OneV.upd {n : Nat} {V : Nat → Value} (h : OneV n V) (i : Nat) (v : Value) (hv : v.oneCell' = true) : OneV n (upd V i v) := fun j hj => by
  unfold Fl.upd
  split
  · exact hv
  · exact h j hj
theorem oneMade {cs : Array Value} (h : ∀ v ∈ cs.toList, v.oneCell' = true) (h0 : 0 < cs.size) (n : Nat) : OneV n (fun i => (madeCells cs n).getD i undef) := by
  intro q hq
  have hm : q % cs.size < cs.size := Nat.mod_lt _ h0
  have e : (madeCells cs n).getD q undef = cs[q % cs.size] := by
    simp [madeCells, Array.getD, hq, hm]
  show ((madeCells cs n).getD q undef).oneCell' = true
  rw [e]
  exact h _ (by simp)
/-- A local statement, its blocks from lo on. -/
def LocAt (w : World) (lo : Nat) (kd : Int) (ex : Bool) (nd f : Nat) (b : Nat) : Prop :=
  lo ≤ b ∧ ∃ d V, lo ≤ d ∧ w.heap[b]? = some (.cells #[.slice (some ⟨d, 0, none⟩) nd nd, .int .u8 kd, .bool ex, .bool false] 48 (0, 0)) ∧ Fblk w d 60 (nd * 4) V ∧ OneV (nd * 4) V ∧
    ∀ k, k < nd → ∃ e, lo ≤ e ∧ V (k * 4) = .iface 49 (.pointer (some ⟨e, 0, none⟩)) ∧ w.heap[e]? = some (.cells #[.int .u32 0, .int .u32 ((f + k : Nat) : Int)] 64 (0, 0))
theorem lt_of_blk {w : World} {b : Nat} {o : Obj} (h : w.heap[b]? = some o) : b < w.heap.size := (Array.getElem?_eq_some_iff.1 h).1
theorem LocAt.of_blocks {w w' : World} {lo : Nat} {kd : Int} {ex : Bool} {nd f b : Nat} (h : LocAt w lo kd ex nd f b) (hb : ∀ k, k < w.heap.size → lo ≤ k → w'.heap[k]? = w.heap[k]?) : LocAt w' lo kd ex nd f b := by
  obtain ⟨h0, d, V, h1, h2, h3, h4, h5⟩ := h
  refine ⟨h0, d, V, h1, (hb _ (lt_of_blk h2) h0).trans h2, ?_, h4, fun k hk => ?_⟩
  · have := hb d h3.lt h1
    unfold Fblk at h3 ⊢
    rw [this]; exact h3
  · obtain ⟨e, a1, a2, a3⟩ := h5 k hk
    exact ⟨e, a1, a2, (hb _ (lt_of_blk a3) a1).trans a3⟩
def LocPost (kd : Int) (ex : Bool) (nd f : Nat) (x : Int) (w : World) (e : Ending) (w' : World) : Prop :=
  ∃ b, e = .returned (.agg #[.iface 43 (.pointer (some ⟨b, 0, none⟩)), .int .i32 x]) ∧ LocAt w' w.heap.size kd ex nd f b ∧ Below w.heap.size w w'
def ExPost (x : Int) (w : World) (e : Ending) (w' : World) : Prop :=
  ∃ b, e = .returned (.agg #[.iface 65 (.pointer (some ⟨b, 0, none⟩)), .int .i32 x]) ∧ Below w.heap.size w w'
set_option maxRecDepth 100000 in
theorem exS (x : Int) (w : World) : Calls Try.prog 12 #[.int .i32 x] w (ExPost x w) := by
  go_enter Try.func12, Try.ntmps12
  go_wp2_with fail
  exact bodyPost_ret (v := .agg #[.iface 65 (.pointer (some ⟨w.heap.size + 1, 0, none⟩)), .int .i32 x]) (by simp [results, Try.results12, go_sem]) rfl ⟨_, rfl, by (repeat' (first | exact Below.refl _ _ | refine Below.drewR ?_ | (refine Below.alloc ?_ (by simp; omega) _) | (refine Below.alloc ?_ (by simp) _) | (refine Below.setCell ?_ (by simp; omega) _) | (refine Below.setCell ?_ (by simp) _)))⟩
theorem dInfo : (Try.prog.info? 60).map (fun i => (i.zero, i.size, i.bytes)) = some (some (.agg #[.nilIface, .int .i32 0, .nilIface, .int .i32 0]), 4, 48) := by kernel_rfl
/-- The loop of the local statement's builder. -/
def LI (w : World) (nd f k : Nat) (wr : World) : Prop :=
  Below w.heap.size w wr ∧ wr.heap[w.heap.size]? = some (.cells #[.nilIface, .int .i32 0] 38 (0, 0)) ∧ ∃ V, Fblk wr (w.heap.size + 1) 60 (nd * 4) V ∧ OneV (nd * 4) V ∧
    ∀ j, j < k → ∃ e, w.heap.size + 2 ≤ e ∧ V (j * 4) = .iface 49 (.pointer (some ⟨e, 0, none⟩)) ∧ wr.heap[e]? = some (.cells #[.int .u32 0, .int .u32 ((f + j : Nat) : Int)] 64 (0, 0))
theorem LI.step {w wr : World} {nd f k : Nat} (h : LI w nd f k wr) (hk : k < nd) :
    LI w nd f (k + 1) (((wr.setCell ⟨w.heap.size + 1, k * 4, none⟩ (.iface 49 (.pointer (some ⟨wr.heap.size, 0, none⟩)))).setCell ⟨w.heap.size + 1, k * 4 + 1, none⟩ (.int .i32 0)).alloc (.cells #[.int .u32 0, .int .u32 ((f : Int) + (k : Int))] 64)) := by
  obtain ⟨h1, h2, V, h3, h4, h5⟩ := h
  have hlt := h3.lt
  have hs := h1.size
  have hne : ∀ (q : Nat) (W : World) (a : Addr) (v : Value), q ≠ a.block → (W.setCell a v).heap[q]? = W.heap[q]? := fun q W a v hq => heap_setCell_other _ _ _ _ hq
  have hz : ((wr.setCell ⟨w.heap.size + 1, k * 4, none⟩ (.iface 49 (.pointer (some ⟨wr.heap.size, 0, none⟩)))).setCell ⟨w.heap.size + 1, k * 4 + 1, none⟩ (.int .i32 0)).heap.size = wr.heap.size := by simp [World.setCell]
  refine ⟨by refine Below.alloc (Below.setCell (Below.setCell h1 (by simp) _) (by simp) _) (by rw [hz]; exact hs) _, ?_, _, ((h3.set _ _).set _ _).alloc _, (h4.upd _ _ rfl).upd _ _ rfl, fun j hj => ?_⟩
  · rw [Below.heap_alloc _ _ _ (by rw [hz]; omega), hne _ _ _ _ (by simp), hne _ _ _ _ (by simp)]
    exact h2
  · by_cases e : j = k
    · subst e
      refine ⟨wr.heap.size, by omega, ?_, ?_⟩
      · rw [upd_other _ _ _ _ (by omega), upd_same]
      · have := heap_alloc_new ((wr.setCell ⟨w.heap.size + 1, j * 4, none⟩ (.iface 49 (.pointer (some ⟨wr.heap.size, 0, none⟩)))).setCell ⟨w.heap.size + 1, j * 4 + 1, none⟩ (.int .i32 0)) (.cells #[.int .u32 0, .int .u32 ((f : Int) + (j : Int))] 64)
        rw [hz] at this
        rw [this, Int.natCast_add]
    · obtain ⟨e', a1, a2, a3⟩ := h5 j (by omega)
      refine ⟨e', a1, ?_, ?_⟩
      · rw [upd_other _ _ _ _ (by omega), upd_other _ _ _ _ (by omega)]; exact a2
      · rw [Below.heap_alloc _ _ _ (by rw [hz]; exact lt_of_blk a3), hne _ _ _ _ (by simp; omega), hne _ _ _ _ (by simp; omega)]
        exact a3
/-- The end of the builder: the statement itself. -/
theorem LI.fin {w wr : World} {nd f : Nat} (h : LI w nd f nd wr) (kd x : Int) (ex : Bool) :
    LocPost kd ex nd f x w (.returned (.agg #[.iface 43 (.pointer (some ⟨wr.heap.size, 0, none⟩)), .int .i32 x])) (((wr.setCell ⟨w.heap.size, 0, none⟩ (.iface 43 (.pointer (some ⟨wr.heap.size, 0, none⟩)))).setCell ⟨w.heap.size, 1, none⟩ (.int .i32 x)).alloc (.cells #[.slice (some ⟨w.heap.size + 1, 0, none⟩) nd nd, .int .u8 kd, .bool ex, .bool false] 48)) := by
  obtain ⟨h1, h2, V, h3, h4, h5⟩ := h
  have hlt := h3.lt
  have hs := h1.size
  have hne : ∀ (q : Nat) (W : World) (a : Addr) (v : Value), q ≠ a.block → (W.setCell a v).heap[q]? = W.heap[q]? := fun q W a v hq => heap_setCell_other _ _ _ _ hq
  have hz : ((wr.setCell ⟨w.heap.size, 0, none⟩ (.iface 43 (.pointer (some ⟨wr.heap.size, 0, none⟩)))).setCell ⟨w.heap.size, 1, none⟩ (.int .i32 x)).heap.size = wr.heap.size := by simp [World.setCell]
  have hnew := heap_alloc_new ((wr.setCell ⟨w.heap.size, 0, none⟩ (.iface 43 (.pointer (some ⟨wr.heap.size, 0, none⟩)))).setCell ⟨w.heap.size, 1, none⟩ (.int .i32 x)) (.cells #[.slice (some ⟨w.heap.size + 1, 0, none⟩) nd nd, .int .u8 kd, .bool ex, .bool false] 48)
  rw [hz] at hnew
  refine ⟨_, rfl, ⟨hs, w.heap.size + 1, V, by omega, hnew, ((h3.other (by simp) _).other (by simp) _).alloc _, h4, fun k hk => ?_⟩, Below.alloc (Below.setCell (Below.setCell h1 (by simp) _) (by simp) _) (by rw [hz]; exact hs) _⟩
  obtain ⟨e, a1, a2, a3⟩ := h5 k hk
  refine ⟨e, by omega, a2, ?_⟩
  rw [Below.heap_alloc _ _ _ (by rw [hz]; exact lt_of_blk a3), hne _ _ _ _ (by simp; omega), hne _ _ _ _ (by simp; omega)]
  exact a3
theorem LI.cells {w wr : World} {nd f k : Nat} (h : LI w nd f k wr) (hk : k < nd) : (∃ v, wr.cell? ⟨w.heap.size + 1, k * 4, none⟩ = some v) ∧ (∃ v, wr.cell? ⟨w.heap.size + 1, k * 4 + 1, none⟩ = some v) ∧ wr.frozen? ⟨w.heap.size + 1, k * 4, none⟩ = false ∧ wr.frozen? ⟨w.heap.size + 1, k * 4 + 1, none⟩ = false ∧ w.heap.size + 1 < wr.heap.size := by
  obtain ⟨h1, h2, V, h3, h4, h5⟩ := h
  exact ⟨⟨_, h3.cell _ (by omega)⟩, ⟨_, h3.cell _ (by omega)⟩, h3.frozen _, h3.frozen _, h3.lt⟩
set_option maxRecDepth 100000 in
theorem locS (x kd : Int) (ex : Bool) (nd f : Nat) (w : World) (hf : f + nd ≤ 65536) : Calls Try.prog 13 #[.int .i32 x, .int .u8 kd, .bool ex, .int .u32 f, .int .i64 nd] w (LocPost kd ex nd f x w) := by
  obtain ⟨cs, hcs⟩ : ∃ cs, (Value.agg #[.nilIface, .int .i32 0, .nilIface, .int .i32 0]).cells = cs := ⟨_, rfl⟩
  have hmk := run_make_many (P := Try.prog) Try.underlying45 dInfo hcs (by omega) nd (by omega)
  have H0 : Hid (LI w nd f 0 ((w.alloc (.cells #[.nilIface, .int .i32 0] 38)).alloc (.cells (madeCells cs (nd * 4)) 60))) := by
    refine Lib.hid ⟨by (repeat' (first | exact Below.refl _ _ | refine Below.drewR ?_ | (refine Below.alloc ?_ (by simp; omega) _) | (refine Below.alloc ?_ (by simp) _) | (refine Below.setCell ?_ (by simp; omega) _) | (refine Below.setCell ?_ (by simp) _))), ?_, _, Fblk.madeManyAt (by simp), oneMade (by subst hcs; decide) (by subst hcs; decide) _, fun j hj => absurd hj (Nat.not_lt_zero _)⟩
    rw [Below.heap_alloc _ _ _ (by simp)]
    exact heap_alloc_new _ _
  have HC := Lib.hid hcs
  clear hcs
  go_enter Try.func13, Try.ntmps13
  go_wp2_with fail
  go_loopw [12] (fun i wr => ∃ k : Nat, k ≤ nd ∧ i = .int .i64 k ∧ Hid (LI w nd f k wr)) (fun i _ => nd - (intOf i).toNat)
  case atStart => exact ⟨0, by omega, rfl, H0⟩
  case round =>
    obtain ⟨k, hk, rfl, HL⟩ := hrel
    by_cases hlt : k < nd
    · obtain ⟨⟨v0, c0⟩, ⟨v1, c1⟩, z0, z1, hl⟩ := HL.out.cells hlt
      have hk2 : (k : Int) < (nd : Int) := by omega
      go_wp2_with fail
      go_roundw
      case rel => exact ⟨k + 1, by omega, by go_num, Lib.hid (HL.out.step hlt)⟩
      case measure => simp [intOf]; omega
    · obtain rfl : k = nd := by omega
      have hh := HL.out.2.1
      have c0 := cell_of_row wr w.heap.size 0 _ _ _ hh
      have c1 := cell_of_row wr w.heap.size 1 _ _ _ hh
      have z0 := frozen_of_row wr w.heap.size 0 _ _ hh
      have z1 := frozen_of_row wr w.heap.size 1 _ _ hh
      have hl := lt_of_blk hh
      simp at c0 c1
      clear hh
      go_wp2_with fail
      exact bodyPost_ret (v := .agg #[.iface 43 (.pointer (some ⟨wr.heap.size, 0, none⟩)), .int .i32 x]) (by simp [results, Try.results13, go_sem, hl, c0, c1]) rfl (HL.out.fin kd x ex)
/-- The number of declarations ahead of statement i. -/
def nx (K : Nat → Int) (D : Nat → Nat) : Nat → Nat
  | 0 => 0
  | i + 1 => if K i < 8 then nx K D i + D i else nx K D i
theorem nx_le (K : Nat → Int) (D : Nat → Nat) : ∀ i, (nx K D i : Int) ≤ sum (fun i => (D i : Int)) i
  | 0 => Int.le_refl _
  | i + 1 => by
    have := nx_le K D i
    simp only [nx, sum]
    split <;> omega
/-- Statement i, as v says. -/
def SAt (w : World) (lo : Nat) (K : Nat → Int) (E : Nat → Bool) (D : Nat → Nat) (i : Nat) (v : Value) : Prop :=
  (8 ≤ K i ∧ ∃ b, v = .iface 65 (.pointer (some ⟨b, 0, none⟩))) ∨ (K i < 8 ∧ ∃ b, v = .iface 43 (.pointer (some ⟨b, 0, none⟩)) ∧ LocAt w lo (K i) (E i) (D i) (nx K D i) b)
theorem SAt.of_blocks {w w' : World} {lo : Nat} {K : Nat → Int} {E : Nat → Bool} {D : Nat → Nat} {i : Nat} {v : Value} (h : SAt w lo K E D i v) (hb : ∀ k, k < w.heap.size → lo ≤ k → w'.heap[k]? = w.heap[k]?) : SAt w' lo K E D i v := by
  rcases h with h | ⟨h1, b, h2, h3⟩
  · exact .inl h
  · exact .inr ⟨h1, b, h2, h3.of_blocks hb⟩
/-- The list of statements, k of them built; s its block. -/
def BI (w0 : World) (s n : Nat) (K : Nat → Int) (E : Nat → Bool) (D : Nat → Nat) (k : Nat) (w : World) (V : Nat → Value) : Prop :=
  Below w0.heap.size w0 w ∧ w0.heap.size ≤ s ∧ Fblk w s 38 (n * 2) V ∧ OneV (n * 2) V ∧ ∀ i, i < k → SAt w (s + 1) K E D i (V (i * 2)) ∧ ∃ x, V (i * 2 + 1) = .int .i32 x
theorem LocAt.lower {w : World} {lo lo' : Nat} {kd : Int} {ex : Bool} {nd f b : Nat} (h : LocAt w lo kd ex nd f b) (hl : lo' ≤ lo) : LocAt w lo' kd ex nd f b := by
  obtain ⟨h0, d, V, h1, h2, h3, h4, h5⟩ := h
  exact ⟨by omega, d, V, by omega, h2, h3, h4, fun k hk => by obtain ⟨e, a1, a2, a3⟩ := h5 k hk; exact ⟨e, by omega, a2, a3⟩⟩
theorem BI.step {w0 w w1 : World} {s n : Nat} {K : Nat → Int} {E : Nat → Bool} {D : Nat → Nat} {k : Nat} {V : Nat → Value} (h : BI w0 s n K E D k w V) (hk : k < n) (hb : Below w.heap.size w w1) (v : Value) (x : Int) (hv1 : v.oneCell' = true) (hv : SAt w1 (s + 1) K E D k v) :
    ∃ V', BI w0 s n K E D (k + 1) ((w1.setCell ⟨s, k * 2, none⟩ v).setCell ⟨s, k * 2 + 1, none⟩ (.int .i32 x)) V' := by
  obtain ⟨h1, h2, h3, h4, h5⟩ := h
  have hlt := h3.lt
  have hs := h1.size
  have hne : ∀ (q : Nat) (W : World) (a : Addr) (v : Value), q ≠ a.block → (W.setCell a v).heap[q]? = W.heap[q]? := fun q W a v hq => heap_setCell_other _ _ _ _ hq
  have h3' := h3.below hb h3.lt
  refine ⟨_, Below.setCell (Below.setCell (h1.trans (hb.mono hs)) h2 _) h2 _, h2, (h3'.set _ _).set _ _, (h4.upd _ _ hv1).upd _ _ rfl, fun i hi => ?_⟩
  by_cases e : i = k
  · subst e
    refine ⟨?_, x, by rw [upd_same]⟩
    rw [upd_other _ _ _ _ (by omega), upd_same]
    exact hv.of_blocks fun q hq hl => by rw [hne _ _ _ _ (by simp; omega), hne _ _ _ _ (by simp; omega)]
  · obtain ⟨a1, x', a2⟩ := h5 i (by omega)
    refine ⟨?_, x', ?_⟩
    · rw [upd_other _ _ _ _ (by omega), upd_other _ _ _ _ (by omega)]
      exact a1.of_blocks fun q hq hl => by rw [hne _ _ _ _ (by simp; omega), hne _ _ _ _ (by simp; omega)]; exact hb.block q hq
    · rw [upd_other _ _ _ _ (by omega), upd_other _ _ _ _ (by omega)]; exact a2
theorem BI.cells {w0 w w1 : World} {s n : Nat} {K : Nat → Int} {E : Nat → Bool} {D : Nat → Nat} {k : Nat} {V : Nat → Value} (h : BI w0 s n K E D k w V) (hk : k < n) (hb : Below w.heap.size w w1) :
    (∃ v, w1.cell? ⟨s, k * 2, none⟩ = some v) ∧ (∃ v, w1.cell? ⟨s, k * 2 + 1, none⟩ = some v) ∧ w1.frozen? ⟨s, k * 2, none⟩ = false ∧ w1.frozen? ⟨s, k * 2 + 1, none⟩ = false ∧ s < w1.heap.size := by
  have h3 := h.2.2.1.below hb h.2.2.1.lt
  exact ⟨⟨_, h3.cell _ (by omega)⟩, ⟨_, h3.cell _ (by omega)⟩, h3.frozen _, h3.frozen _, h3.lt⟩
theorem sInfo : (Try.prog.info? 38).map (fun i => (i.zero, i.size, i.bytes)) = some (some (.agg #[.nilIface, .int .i32 0]), 2, 24) := by kernel_rfl
def BP (n : Nat) (K : Nat → Int) (E : Nat → Bool) (D : Nat → Nat) (w : World) (e : Ending) (w' : World) : Prop := ∃ s V, e = .returned (.slice (some ⟨s, 0, none⟩) n n) ∧ BI w s n K E D n w' V
set_option maxRecDepth 100000 in
set_option maxHeartbeats 2000000 in
theorem bld (a0 : Option Addr) (n c0 : Nat) (K : Nat → Int) (a1 : Option Addr) (c1 : Nat) (E : Nat → Bool) (a2 : Option Addr) (c2 : Nat) (D : Nat → Nat) (w : World) (h0 : Fsl w a0 n (fun i => .int .u8 (K i))) (h1 : Fsl w a1 n (fun i => .bool (E i))) (h2 : Fsl w a2 n (fun i => .int .u8 (D i)))
    (hK : ∀ i, i < n → 0 ≤ K i ∧ K i ≤ 255) (hD : ∀ i, i < n → D i ≤ 255) (hn : n ≤ 65536) (hs : ∀ i, i ≤ n → nx K D i ≤ 65536) :
    Calls Try.prog 8 #[.slice a0 n c0, .slice a1 n c1, .slice a2 n c2] w (BP n K E D w) := by
  obtain ⟨cs, hcs⟩ : ∃ cs, (Value.agg #[.nilIface, .int .i32 0]).cells = cs := ⟨_, rfl⟩
  have hmk := run_make_many (P := Try.prog) Try.underlying27 sInfo hcs (by omega) n (by omega)
  have HI0 : Hid (∃ V, BI w w.heap.size n K E D 0 (w.alloc (.cells (madeCells cs (n * 2)) 38)) V) :=
    Lib.hid ⟨_, by (repeat' (first | exact Below.refl _ _ | refine Below.drewR ?_ | (refine Below.alloc ?_ (by simp; omega) _) | (refine Below.alloc ?_ (by simp) _) | (refine Below.setCell ?_ (by simp; omega) _) | (refine Below.setCell ?_ (by simp) _))), Nat.le_refl _, Fblk.madeManyAt (by simp), oneMade (by subst hcs; decide) (by subst hcs; decide) _, fun j hj => absurd hj (Nat.not_lt_zero _)⟩
  have HC := Lib.hid hcs
  have HK := Lib.hid hK
  have HD := Lib.hid hD
  have HS := Lib.hid hs
  have H0 := Lib.hid h0
  have H1 := Lib.hid h1
  have H2 := Lib.hid h2
  clear hcs hK hD hs h0 h1 h2
  go_enter Try.func8, Try.ntmps8
  go_wp2_with fail
  go_loopw [8, 9] (fun z i wr => ∃ k : Nat, k ≤ n ∧ i = .int .i64 k ∧ z = .int .u32 (nx K D k) ∧ Hid (∃ V, BI w w.heap.size n K E D k wr V)) (fun _ i _ => n - (intOf i).toNat)
  case atStart => exact ⟨0, by omega, rfl, rfl, HI0⟩
  case round =>
    obtain ⟨k, hk, rfl, rfl, HI⟩ := hrel
    obtain ⟨V, hI⟩ := HI.out
    have HI := Lib.hid hI
    have hwr := hI.1
    clear hI
    by_cases hlt : k < n
    · obtain ⟨b0, o0, rfl, l0, d0⟩ := H0.out.at k hlt
      obtain ⟨b1, o1, rfl, l1, d1⟩ := H1.out.at k hlt
      obtain ⟨b2, o2, rfl, l2, d2⟩ := H2.out.at k hlt
      have d0 := (hwr.cell (p := ⟨b0, o0 + k, none⟩) l0).trans d0
      have d1 := (hwr.cell (p := ⟨b1, o1 + k, none⟩) l1).trans d1
      have d2 := (hwr.cell (p := ⟨b2, o2 + k, none⟩) l2).trans d2
      have hz := hwr.size
      have l0' : b0 < wr.heap.size := by omega
      have l1' : b1 < wr.heap.size := by omega
      have l2' : b2 < wr.heap.size := by omega
      obtain ⟨k0, k1⟩ := HK.out k hlt
      have kd := HD.out k hlt
      have kn := HS.out k hk
      have kn1 := HS.out (k + 1) hlt
      have hk2 : (k : Int) < (n : Int) := by omega
      clear hwr
      by_cases h8 : K k < 8
      · have h8' : decide (8 ≤ K k) = false := by simp; omega
        have h8'' : ¬ 8 ≤ K k := by omega
        have HN : Hid (nx K D (k + 1) = nx K D k + D k) := Lib.hid (by simp [nx, h8])
        have hnd : nx K D k + D k ≤ 65536 := by rw [← HN.out]; exact kn1
        have H8 := Lib.hid h8
        clear h8 kn1
        go_wp2_with fail
        have e1 : IntKind.i32.wrap (k : Int) = k := IntWalk.i32_in _ (by omega)
        have e2 : IntKind.i64.wrap ((D k : Nat) : Int) = (D k : Nat) := IntWalk.i64_in _ (by omega)
        go_region_held3 (fun w' => w'.cell? ⟨b0, o0 + k, none⟩ = some (.int .u8 (K k)) ∧ w'.cell? ⟨b1, o1 + k, none⟩ = some (.bool (E k)) ∧ w'.cell? ⟨b2, o2 + k, none⟩ = some (.int .u8 (D k)))
          (first | exact ⟨d0, d1, d2⟩ | exact ⟨d0', d1', d2'⟩ | (refine ⟨?_, ?_, ?_⟩ <;> (rw [World.cell?_setCell_other _ _ _ _ (by intro e2; injection e2; omega), World.cell?_setCell_other _ _ _ _ (by intro e2; injection e2; omega)]; assumption)) | assumption)
          (first | (go_at_call 13; refine (locS (k : Int) (K k) (E k) (D k) (nx K D k) _ hnd).mono ?_; rintro e w1 ⟨b, rfl, hloc, hb⟩; have HB : Hid (Below wr.heap.size wr w1) := Lib.hid (below_of_drew hb); have HL := Lib.hid hloc; clear hb hloc; obtain ⟨⟨v0, c0⟩, ⟨v1, c1⟩, z0, z1, hl⟩ := HI.out.cells hlt HB.out; have d0' := (HB.out.cell (p := ⟨b0, o0 + k, none⟩) l0').trans d0; have d1' := (HB.out.cell (p := ⟨b1, o1 + k, none⟩) l1').trans d1; have d2' := (HB.out.cell (p := ⟨b2, o2 + k, none⟩) l2').trans d2))
        have hsw : b2 ≠ w.heap.size := by omega
        clear e1 e2
        go_wp2_with fail
        go_roundw
        case rel => exact ⟨k + 1, by omega, by go_num, by rw [HN.out]; go_num, Lib.hid (HI.out.step hlt HB.out _ _ rfl (.inr ⟨H8.out, b, rfl, HL.out.lower (by have := HI.out.2.2.1.lt; show w.heap.size + 1 ≤ wr.heap.size; omega)⟩))⟩
        case measure => simp [intOf]; omega
      · have h8' : decide (8 ≤ K k) = true := by simp; omega
        have h8'' : 8 ≤ K k := by omega
        have HN : Hid (nx K D (k + 1) = nx K D k) := Lib.hid (by simp [nx, h8])
        have H8 := Lib.hid h8
        clear h8 kn1
        go_wp2_with fail
        refine (exS (k : Int) _).mono ?_
        rintro e w1 ⟨b, rfl, hb⟩
        have HB : Hid (Below wr.heap.size wr w1) := Lib.hid hb
        clear hb
        have d2' := (HB.out.cell (p := ⟨b2, o2 + k, none⟩) l2').trans d2
        obtain ⟨⟨v0, c0⟩, ⟨v1, c1⟩, z0, z1, hl⟩ := HI.out.cells hlt HB.out
        go_wp2_with fail
        go_roundw
        case rel => exact ⟨k + 1, by omega, by go_num, by rw [HN.out], Lib.hid (HI.out.step hlt HB.out _ _ rfl (.inl ⟨h8'', b, rfl⟩))⟩
        case measure => simp [intOf]; omega
    · obtain rfl : k = n := by omega
      clear hwr
      go_wp2_with fail
      go_ret
      exact ⟨_, V, rfl, HI.out⟩
end Go.Proofs.Ytfoejbnbmmdmfaa.Aux
