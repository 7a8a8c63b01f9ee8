/- Contracts of functions that the law of this seat reaches, and plain facts; no condition. -/
import Derived.Test.YtdigbcjkclbdfaaFmtProg
import Derived.WalkKit
import Derived.ProofKit
import Derived.OpenShut
import Derived.ShutString
import Derived.Test.YtdigbcjkclbdfaaFmtAid
import Derived.Test.YtdigbcjkclbdfaaFmtFl
import Derived.Test.YtdigbcjkclbdfaaFmtStr
import Derived.Test.YtdigbcjkclbdfaaFmtPb
import Derived.Test.YtdigbcjkclbdfaaFmtQd
import Derived.Test.YtdigbcjkclbdfaaFmtAm
import Derived.ArgAppend
import Derived.WalkSpells
import Derived.LoopTactic
import Derived.IntWalk
import Derived.Outline
import Derived.Deep.QuietTactic
import Derived.BigQuiet
import Derived.Deep.RegionHeld3
import Derived.Deep.RegionLaw
import Derived.StillTailTactics
import Derived.Defers
import Derived.Laws.Pointers
import Derived.Laws.LoneSync
import Derived.Laws.EntriesVeiled
import Derived.Stop.CallBack
import Derived.Stop.IfaceNil
import GoSem.ClaimData
import Derived.Stop.Texts
import Derived.Stop.JoinedTold
import Derived.Stop.FmtTextKit
import Derived.Stop.FmtTextVerbs
namespace Go.Proofs.YtdigbcjkclbdfaaFmt.Aux
open Go.ChangeShapes Go.WideShapes Go.ChangeAt Go.RowKit
open Go.ChangeMaps (open_string shut_string)
set_option linter.unusedVariables false
open Fl Str Pb Qd PlainAid
open Go.Extern.Stop Go.Stop Go.Extern Go.Kit
theorem belD {B : Nat} {a w : World} (h : Below B a w) : Below B a w.drew := h.trans ⟨rfl, rfl, rfl, Nat.le_refl _, fun _ _ => rfl⟩
theorem cst_info : (Tryf.prog.info? 9).map (fun i => (i.zero, i.size, i.bytes)) = some (some (.string ⟨#[]⟩), 1, 16) := by kernel_rfl
theorem cst (a : Option Addr) (len cap : Nat) (S : Nat → ByteArray) (w : World) (h : Fsl w a len (fun i => .string (S i))) (hlen : len ≤ 137438953472) :
    Calls Tryf.prog 12 #[.slice a len cap] w (Cop w a len 9 (fun i => .string (S i))) := by
  have hnil : ∀ w : World, (binOp .eql 22 (.slice a len cap) (.slice none 0 0)).run Tryf.prog w = .ok (.bool a.isNone) w := fun w => Lib.run_eql_slice_nil w 22 9 _ _ _ _ _ Tryf.underlying22
  have hmk := run_make_one (P := Tryf.prog) Tryf.underlying22 cst_info rfl (by omega) len hlen
  cases a with
  | none =>
    have H := Lib.hid (Cop.nil (t := 9) h)
    go_enter Tryf.func12, Tryf.ntmps12
    go_wp2
    go_ret
    exact H.out
  | some x =>
    go_enter Tryf.func12, Tryf.ntmps12
    go_wp2
    go_loopw [4] (fun i wr => ∃ k : Nat, k ≤ len ∧ i = .int .i64 k ∧ Fblk wr w.heap.size 9 len (parV (fun i => .string (S i)) (.string ⟨#[]⟩) k) ∧ Below w.heap.size w wr) (fun i _ => len - (intOf i).toNat)
    case atStart => exact ⟨0, by omega, rfl, by rw [parV_zero]; exact Fblk.made _ _ _ _, (Below.refl _ _).alloc (Nat.le_refl _) _⟩
    case round =>
      obtain ⟨k, hk, rfl, hb, hl⟩ := hrel
      have HB := Lib.hid hb
      by_cases hlt : k < len
      · obtain ⟨b, off, e, hlb, hc⟩ := h.at k hlt
        injection e with e
        subst e
        have hc' : wr.cell? ⟨b, off + k, none⟩ = some (.string (S k)) := by rw [hl.cell (p := ⟨b, off + k, none⟩) hlb]; exact hc
        have hd := hb.cell k hlt
        have hz := hb.frozen k
        have hk2 : (k : Int) < (len : Int) := by omega
        clear hc hb
        go_wp2
        go_roundw
        case rel => exact ⟨k + 1, by omega, by go_num, by rw [← parV_set]; exact HB.out.set k _, hl.setCell (Nat.le_refl _) _⟩
        case measure => simp [intOf]; omega
      · obtain rfl : k = len := by omega
        clear hb
        go_wp2
        go_ret
        exact Cop.mk (HB.out.congr fun i hi => by simp [parV, hi]) hl (Nat.le_refl _)
theorem csu_info : (Tryf.prog.info? 9).map (fun i => (i.zero, i.size, i.bytes)) = some (some (.string ⟨#[]⟩), 1, 16) := by kernel_rfl
theorem csu (a : Option Addr) (len cap : Nat) (S : Nat → ByteArray) (w : World) (h : Fsl w a len (fun i => .string (S i))) (hlen : len ≤ 137438953472) :
    Calls Tryf.prog 7 #[.slice a len cap] w (Cop w a len 9 (fun i => .string (S i))) := by
  have hnil : ∀ w : World, (binOp .eql 22 (.slice a len cap) (.slice none 0 0)).run Tryf.prog w = .ok (.bool a.isNone) w := fun w => Lib.run_eql_slice_nil w 22 9 _ _ _ _ _ Tryf.underlying22
  have hmk := run_make_one (P := Tryf.prog) Tryf.underlying22 csu_info rfl (by omega) len hlen
  cases a with
  | none =>
    have H := Lib.hid (Cop.nil (t := 9) h)
    go_enter Tryf.func7, Tryf.ntmps7
    go_wp2
    go_ret
    exact H.out
  | some x =>
    go_enter Tryf.func7, Tryf.ntmps7
    go_wp2
    go_loopw [4] (fun i wr => ∃ k : Nat, k ≤ len ∧ i = .int .i64 k ∧ Fblk wr w.heap.size 9 len (parV (fun i => .string (S i)) (.string ⟨#[]⟩) k) ∧ Below w.heap.size w wr) (fun i _ => len - (intOf i).toNat)
    case atStart => exact ⟨0, by omega, rfl, by rw [parV_zero]; exact Fblk.made _ _ _ _, (Below.refl _ _).alloc (Nat.le_refl _) _⟩
    case round =>
      obtain ⟨k, hk, rfl, hb, hl⟩ := hrel
      have HB := Lib.hid hb
      by_cases hlt : k < len
      · obtain ⟨b, off, e, hlb, hc⟩ := h.at k hlt
        injection e with e
        subst e
        have hc' : wr.cell? ⟨b, off + k, none⟩ = some (.string (S k)) := by rw [hl.cell (p := ⟨b, off + k, none⟩) hlb]; exact hc
        have hd := hb.cell k hlt
        have hz := hb.frozen k
        have hk2 : (k : Int) < (len : Int) := by omega
        clear hc hb
        go_wp2
        go_roundw
        case rel => exact ⟨k + 1, by omega, by go_num, by rw [← parV_set]; exact HB.out.set k _, hl.setCell (Nat.le_refl _) _⟩
        case measure => simp [intOf]; omega
      · obtain rfl : k = len := by omega
        clear hb
        go_wp2
        go_ret
        exact Cop.mk (HB.out.congr fun i hi => by simp [parV, hi]) hl (Nat.le_refl _)
/-- Is it an extension? -/
def okx (s : ByteArray) : Bool := if 2 ≤ s.size then (bt s 0 == 46) && (bt s (s.size - 1) != 46) else false
theorem isv (s : ByteArray) (w : World) (hs : s.size ≤ 1048576) : Calls Tryf.prog 17 #[.string s] w fun e w' => e = .returned (.bool (okx s)) ∧ w' = w := by
  have hb := get_bt s
  by_cases h2 : (2 : Int) ≤ (s.size : Int)
  · have l0 : 0 < s.size := by omega
    have l1 : s.size - 1 < s.size := by omega
    cases h0 : (bt s 0 == 46)
    · have H := Lib.hid (show okx s = false by unfold okx; rw [if_pos (by omega), h0]; rfl)
      go_enter Tryf.func17, Tryf.ntmps17
      go_wp2_with fail
      go_ret
      exact ⟨by rw [H.out]; rfl, rfl⟩
    cases h1 : (bt s (s.size - 1) != 46)
    · have H := Lib.hid (show okx s = false by unfold okx; rw [if_pos (by omega), h0, h1]; rfl)
      go_enter Tryf.func17, Tryf.ntmps17
      go_wp2_with fail
      go_ret
      exact ⟨by rw [H.out]; rfl, rfl⟩
    · have H := Lib.hid (show okx s = true by unfold okx; rw [if_pos (by omega), h0, h1]; rfl)
      go_enter Tryf.func17, Tryf.ntmps17
      go_wp2_with fail
      go_ret
      exact ⟨by rw [H.out]; rfl, rfl⟩
  · have H := Lib.hid (show okx s = false by unfold okx; rw [if_neg (by omega)])
    go_enter Tryf.func17, Tryf.ntmps17
    go_wp2_with fail
    go_ret
    exact ⟨by rw [H.out]; rfl, rfl⟩
theorem isvz (s : ByteArray) (w : World) (hs : s.size ≤ 1048576) : Calls Tryf.prog 9 #[.string s] w fun e w' => e = .returned (.bool (okx s)) ∧ w' = w := by
  have HC := Lib.hid (isv s w hs)
  go_enter Tryf.func9, Tryf.ntmps9
  go_wp2_with fail
  refine HC.out.mono ?_
  rintro e w1 ⟨rfl, rfl⟩
  go_wp2_with fail
  go_ret
  exact ⟨rfl, rfl⟩
/-- The cells of an error's message. -/
def mcell (t : ByteArray) : List Value := [.slice none 0 0, .string ⟨#[]⟩, .nilIface, .pointer none, .string t, .bool false, .int .u8 0, .int .u8 0]
def mcs : List ByteArray → List Value
  | [] => []
  | t :: T => mcell t ++ mcs T
theorem mcs_len : ∀ T, (mcs T).length = T.length * 8
  | [] => rfl
  | t :: T => by simp [mcs, mcell, mcs_len T]; omega
theorem mcs_snoc (u : ByteArray) : ∀ T, mcs (T ++ [u]) = mcs T ++ mcell u
  | [] => by simp [mcs]
  | t :: T => by simp [mcs, mcs_snoc u T]
theorem mcs_at (o : Nat) (ho : o < 8) : ∀ (T : List ByteArray) (j : Nat) (hj : j < T.length), (mcs T)[j * 8 + o]? = (mcell T[j])[o]?
  | [], j, hj => absurd hj (Nat.not_lt_zero _)
  | t :: T, 0, hj => by
    simp only [mcs, Nat.zero_mul, Nat.zero_add, List.getElem_cons_zero]
    rw [List.getElem?_append_left (by simp [mcell]; omega)]
  | t :: T, j + 1, hj => by
    have hl : (mcell t).length = 8 := rfl
    simp only [mcs, List.getElem_cons_succ]
    rw [List.getElem?_append_right (by omega), hl, show (j + 1) * 8 + o - 8 = j * 8 + o by omega]
    exact mcs_at o ho T j (by simpa using hj)
theorem mcell_one (t : ByteArray) : ∀ u ∈ mcell t, u.oneCell' = true := by
  intro u hu
  simp [mcell] at hu
  rcases hu with rfl | rfl | rfl | rfl | rfl | rfl | rfl | rfl <;> rfl
theorem disable (w : World) : (callFunc 31 #[]).run Tryf.prog w = .ok (.value (.tuple #[])) w := run_call_mark0 Tryf.func31 (by kernel_rfl) (by kernel_rfl) (by kernel_rfl) .disable (by kernel_rfl) w
theorem enable (w : World) : (callFunc 33 #[]).run Tryf.prog w = .ok (.value (.tuple #[])) w := run_call_mark0 Tryf.func33 (by kernel_rfl) (by kernel_rfl) (by kernel_rfl) .enable (by kernel_rfl) w
theorem acquire (a : Addr) (w : World) : (callFunc 34 #[.pointer (some a)]).run Tryf.prog w = .ok (.value (.tuple #[])) w := run_call_marked Tryf.func34 (by kernel_rfl) (by kernel_rfl) (by kernel_rfl) .acquire (by kernel_rfl) a w
theorem releaseMerge (a : Addr) (w : World) : (callFunc 36 #[.pointer (some a)]).run Tryf.prog w = .ok (.value (.tuple #[])) w := run_call_marked Tryf.func36 (by kernel_rfl) (by kernel_rfl) (by kernel_rfl) .releaseMerge (by kernel_rfl) a w
set_option maxRecDepth 100000 in
theorem unlock_deferred (a : Addr) (u : FrameMode) (w : World) (hc : w.cell? a = some (.int .i32 1)) (hz : w.frozen? a = false) :
    CallsD Tryf.prog 20 #[.pointer (some a)] u w fun e u' w' => u' = u ∧ (e = .returned (.tuple #[]) ∧ w' = w.setCell a (.int .i32 0)) := by
  have hd := disable
  have he := enable
  have hr := releaseMerge
  have hcv := run_convert_to_unsafe (P := Tryf.prog) (src := 74) (dst := 78) Tryf.underlying74 Tryf.underlying78 (by kernel_rfl) hc
  have hadd := run_call_add (P := Tryf.prog) Tryf.func37 (by kernel_rfl) (by kernel_rfl) (by kernel_rfl) .i32 (by kernel_rfl) (y := -1) (s := 0) hc hz (by simp [go_sem]; rfl)
  go_enter_d Tryf.func20, Tryf.ntmps20
  go_wp2
  go_end0
  go_wp2
  go_end0
  exact ⟨rfl, rfl⟩
set_option maxRecDepth 100000 in
theorem lock_ (a : Addr) (w : World) (hc : w.cell? a = some (.int .i32 0)) (hz : w.frozen? a = false) :
    Calls Tryf.prog 19 #[.pointer (some a)] w fun e w' => e = .returned (.tuple #[]) ∧ w' = w.setCell a (.int .i32 1) := by
  have hd := disable
  have he := enable
  have ha := acquire
  have hcas := run_call_cas_hit (P := Tryf.prog) Tryf.func32 (by kernel_rfl) (by kernel_rfl) (by kernel_rfl) .i32 (by kernel_rfl) (y := 1) hc hz
  have h0' : (w.setCell a (.int .i32 1)).cell? a = some (.int .i32 1) := by simp [go_sem, hc]
  have hcv := run_convert_to_unsafe (P := Tryf.prog) (src := 74) (dst := 78) Tryf.underlying74 Tryf.underlying78 (by kernel_rfl) h0'
  go_enter Tryf.func19, Tryf.ntmps19
  go_wp2
  first | go_end0 | (simp only [Exit.inBlock, Exit.then]; refine bodyPost_ret (results_none rfl _ _ _) rfl ?_) | refine bodyPost_ret (results_none rfl _ _ _) rfl ?_
  go_wp2
  go_end0
  exact ⟨rfl, rfl⟩
theorem lt_of_blk {w : World} {b : Nat} {o : Obj} (h : w.heap[b]? = some o) : b < w.heap.size := (Array.getElem?_eq_some_iff.1 h).1
theorem owns_below {w w' : World} {base : Nat} {e : TypeId} {size : Nat} {v : Value} {n : Nat} {xs : List Value} (h : w.ownsRow base e size v n xs) (hb : Below w.heap.size w w') : w'.ownsRow base e size v n xs :=
  Chg.owns (S := fun _ => False) (Chg.of_below hb (fun i h1 h2 => by omega)) h (fun _ _ h => h)
/-- The log whose boxes begin at s: the messages sent to it; pv: its slice of messages. -/
structure Lg (w : World) (s : Nat) (T : List ByteArray) (pv : Value) : Prop where
  kd : w.heap[s]? = some (.cells #[.int .u8 1] 42 (0, 0))
  ms : w.heap[s + 2]? = some (.cells #[pv] 45 (0, 0))
  mu : w.heap[s + 3]? = some (.cells #[.int .i32 0, .int .u32 0] 52 (0, 0))
  he : w.heap[s + 4]? = some (.cells #[.bool (!T.isEmpty)] 4 (0, 0))
  own : w.ownsRow (s + 5) 59 8 pv T.length (mcs T)
theorem Lg.below {w w' : World} {s : Nat} {T : List ByteArray} {pv : Value} (h : Lg w s T pv) (hb : Below w.heap.size w w') : Lg w' s T pv :=
  ⟨(hb.block _ (lt_of_blk h.kd)).trans h.kd, (hb.block _ (lt_of_blk h.ms)).trans h.ms, (hb.block _ (lt_of_blk h.mu)).trans h.mu, (hb.block _ (lt_of_blk h.he)).trans h.he, owns_below h.own hb⟩
theorem Lg.slice {w : World} {s : Nat} {T : List ByteArray} {pv : Value} (h : Lg w s T pv) : ∃ pa pc, pv = .slice pa T.length pc := by
  rcases h.own.2 with ⟨rfl, e⟩ | ⟨g, cap, cur, rfl, _⟩
  · exact ⟨_, _, by rw [e]⟩
  · exact ⟨_, _, rfl⟩
theorem Lg.cells {w : World} {s : Nat} {T : List ByteArray} {pv : Value} (h : Lg w s T pv) : w.cell? ⟨s, 0, none⟩ = some (.int .u8 1) ∧ w.cell? ⟨s + 2, 0, none⟩ = some pv ∧ w.cell? ⟨s + 3, 0, none⟩ = some (.int .i32 0) ∧ w.cell? ⟨s + 4, 0, none⟩ = some (.bool (!T.isEmpty)) ∧
    w.frozen? ⟨s + 2, 0, none⟩ = false ∧ w.frozen? ⟨s + 3, 0, none⟩ = false ∧ w.frozen? ⟨s + 4, 0, none⟩ = false ∧ s + 4 < w.heap.size :=
  ⟨by rw [cell_of_row w _ 0 _ _ _ h.kd]; rfl, by rw [cell_of_row w _ 0 _ _ _ h.ms]; rfl, by rw [cell_of_row w _ 0 _ _ _ h.mu]; rfl, by rw [cell_of_row w _ 0 _ _ _ h.he]; rfl, frozen_of_row w _ 0 _ _ h.ms, frozen_of_row w _ 0 _ _ h.mu, frozen_of_row w _ 0 _ _ h.he, lt_of_blk h.he⟩
/-- What is no row of messages stays. -/
def Kp (s : Nat) (w w' : World) : Prop := ∀ B cs t, s + 5 ≤ B → w.heap[B]? = some (.cells cs t (0, 0)) → t ≠ 59 → w'.heap[B]? = w.heap[B]?
theorem Kp.of_below {s : Nat} {w w' : World} (hb : Below w.heap.size w w') : Kp s w w' := fun B cs t _ h _ => hb.block B (lt_of_blk h)
theorem Kp.trans {s : Nat} {w w' w2 : World} (h : Kp s w w') (k : Kp s w' w2) : Kp s w w2 := fun B cs t h1 h2 h3 => (k B cs t h1 ((h B cs t h1 h2 h3).trans h2) h3).trans (h B cs t h1 h2 h3)
/-- Taking the lock and giving it back. -/
theorem Lg.relock {w : World} {s : Nat} {T : List ByteArray} {pv : Value} (h : Lg w s T pv) {w' : World} (hb : Below w.heap.size (w.setCell ⟨s + 3, 0, none⟩ (.int .i32 1)) w') : Lg (w'.setCell ⟨s + 3, 0, none⟩ (.int .i32 0)) s T pv ∧ Below s w (w'.setCell ⟨s + 3, 0, none⟩ (.int .i32 0)) ∧ Kp s w (w'.setCell ⟨s + 3, 0, none⟩ (.int .i32 0)) := by
  have hl := lt_of_blk h.he
  have hk : ∀ b, b < w.heap.size → b ≠ s + 3 → (w'.setCell ⟨s + 3, 0, none⟩ (.int .i32 0)).heap[b]? = w.heap[b]? := fun b h1 h2 =>
    (heap_setCell_other _ _ _ _ (by simpa using h2)).trans ((hb.block b h1).trans (heap_setCell_other _ _ _ _ (by simpa using h2)))
  refine ⟨⟨(hk _ (by omega) (by omega)).trans h.kd, (hk _ (by omega) (by omega)).trans h.ms, ?_, (hk _ (by omega) (by omega)).trans h.he, ?_⟩, ?_, fun B cs t h1 h2 _ => hk B (lt_of_blk h2) (by omega)⟩
  · have h1 : (w.setCell ⟨s + 3, 0, none⟩ (.int .i32 1)).heap[s + 3]? = some (.cells #[.int .i32 1, .int .u32 0] 52 (0, 0)) := by
      rw [heap_setCell_same _ _ _ _ _ _ h.mu]; rfl
    have h2 := (hb.block (s + 3) (by omega)).trans h1
    rw [heap_setCell_same _ _ _ _ _ _ h2]; rfl
  · obtain ⟨h1, h2⟩ := h.own
    refine ⟨h1, ?_⟩
    rcases h2 with h2 | ⟨g, cap, cur, e, a, b, rest⟩
    · exact .inl h2
    · exact .inr ⟨g, cap, cur, e, a, (hk g (lt_of_blk b) (by omega)).trans b, rest⟩
  · refine Below.setCell ?_ (by simp) _
    exact (Below.setCell (Below.refl s w) (by simp) _).trans (hb.mono (by omega))
/-- An error's message as a value. -/
def mv (t : ByteArray) : Array Value := #[.slice none 0 0, .string ⟨#[]⟩, .nilIface, .pointer none, .string t, .bool false, .int .u8 0, .int .u8 0]
theorem msgInfo : ∃ i, Tryf.prog.info? 59 = some i ∧ i.zero = some (.agg (mv ⟨#[]⟩)) ∧ i.size = 8 ∧ i.bytes = 96 := by
  have h : (Tryf.prog.info? 59).map (fun i => (i.zero, i.size, i.bytes)) = some (some (.agg (mv ⟨#[]⟩)), 8, 96) := by kernel_rfl
  exact info_parts h
theorem Lg.app {w W : World} {s : Nat} {T : List ByteArray} {pv : Value} (h : Lg w s T pv) (hT : T.length ≤ 1048576) (t : ByteArray) {sb c : Nat} (hc : Chg (fun b => b = s + 3 ∨ b = s + 4) w W) (hmu : W.heap[s + 3]? = some (.cells #[.int .i32 1, .int .u32 0] 52 (0, 0))) (hhe : W.heap[s + 4]? = some (.cells #[.bool true] 4 (0, 0)))
    (hs : W.heap[sb]? = some (.cells (mv t) 59 (0, 0))) (ty : TypeId) :
    ∃ v' w', (Builtin.append_ #[45, 45] ty #[pv, .slice (some ⟨sb, 0, none⟩) 1 c]).run Tryf.prog W = .ok v' w' ∧ (∃ pa' pc', v' = .slice pa' (T.length + 1) pc' ∧ w'.cell? ⟨s + 2, 0, none⟩ = some pv ∧ w'.frozen? ⟨s + 2, 0, none⟩ = false ∧ w'.cell? ⟨s + 3, 0, none⟩ = some (.int .i32 1) ∧ w'.frozen? ⟨s + 3, 0, none⟩ = false ∧
      Hid (Lg ((w'.setCell ⟨s + 2, 0, none⟩ v').setCell ⟨s + 3, 0, none⟩ (.int .i32 0)) s (T ++ [t]) v' ∧ Below s w ((w'.setCell ⟨s + 2, 0, none⟩ v').setCell ⟨s + 3, 0, none⟩ (.int .i32 0)) ∧ Kp s w ((w'.setCell ⟨s + 2, 0, none⟩ v').setCell ⟨s + 3, 0, none⟩ (.int .i32 0)))) := by
  obtain ⟨i, hi, hz, hsz, hb⟩ := msgInfo
  have hl := lt_of_blk h.he
  have hlW := hc.size
  have ho : W.ownsRow (s + 5) 59 8 pv T.length (mcs T) := hc.owns h.own (fun g e => by have := (h.own.lt g e).1; omega)
  obtain ⟨v', w', hr, ho', hg, _⟩ := Am.app_many (P := Tryf.prog) W (ty := ty) Tryf.underlying45 hi hz hsz hb rfl (by omega) ho ⟨sb, 0, none⟩ 1 c (mcell t) rfl (by
    intro q u hq
    have e : (⟨sb, 0, none⟩ : Addr).add q = ⟨sb, q, none⟩ := by unfold Addr.add; simp; try omega
    rw [e, cell_of_row W sb q _ _ _ hs]
    have e2 : (mv t)[q]? = (mcell t)[q]? := by simp [mv, mcell]
    rw [e2]; exact hq) (mcell_one t) (by unfold maxLen; omega) (by omega) (by omega)
  have hne : ∀ g, pv.ownBlock = some g → s + 5 ≤ g := fun g e => (h.own.lt g e).1
  have hk : ∀ b, b < w.heap.size → b < s + 5 → w'.heap[b]? = W.heap[b]? := fun b h1 h2 => hg.block b (by omega) (fun e => by have := hne _ e.symm; omega)
  have q0 : w'.heap[s]? = some (.cells #[.int .u8 1] 42 (0, 0)) := (hk s (by omega) (by omega)).trans ((hc.block s (by omega) (by omega)).trans h.kd)
  have q2 : w'.heap[s + 2]? = some (.cells #[pv] 45 (0, 0)) := (hk (s + 2) (by omega) (by omega)).trans ((hc.block (s + 2) (by omega) (by omega)).trans h.ms)
  have q3 := (hk (s + 3) (by omega) (by omega)).trans hmu
  have q4 := (hk (s + 4) (by omega) (by omega)).trans hhe
  refine ⟨v', w', hr, ?_⟩
  have hv : ∃ pa' pc', v' = .slice pa' (T.length + 1) pc' := by
    rcases ho'.2 with ⟨rfl, e⟩ | ⟨g, cap, cur, rfl, _⟩
    · omega
    · exact ⟨_, _, rfl⟩
  obtain ⟨pa', pc', rfl⟩ := hv
  refine ⟨pa', pc', rfl, by rw [cell_of_row w' _ 0 _ _ _ q2]; rfl, frozen_of_row w' _ 0 _ _ q2, by rw [cell_of_row w' _ 0 _ _ _ q3]; rfl, frozen_of_row w' _ 0 _ _ q3, Lib.hid ⟨⟨?_, ?_, ?_, ?_, ?_⟩, ?_, ?_⟩⟩
  · exact (heap_setCell_other _ _ _ _ (by simp)).trans ((heap_setCell_other _ _ _ _ (by simp)).trans q0)
  · rw [heap_setCell_other _ _ _ _ (by simp), heap_setCell_same _ _ _ _ _ _ q2]; rfl
  · rw [heap_setCell_same _ _ _ _ _ _ ((heap_setCell_other _ _ _ _ (by simp)).trans q3)]; rfl
  · rw [(heap_setCell_other _ _ _ _ (by simp)).trans ((heap_setCell_other _ _ _ _ (by simp)).trans q4)]
    cases T <;> rfl
  · have hco := Chg.setCell (S := fun b => b = s + 2 ∨ b = s + 3) (p := ⟨s + 3, 0, none⟩) (Chg.setCell (S := fun b => b = s + 2 ∨ b = s + 3) (p := ⟨s + 2, 0, none⟩) (Chg.refl _ w') (.inl (.inl rfl)) (.slice pa' (T.length + 1) pc')) (.inl (.inr rfl)) (.int .i32 0)
    rw [List.length_append, mcs_snoc]
    exact hco.owns ho' (fun g e => by have := (ho'.lt g e).1; omega)
  · refine Below.setCell (Below.setCell ((hc.below (B := s) (by omega) (fun i e => by omega)).trans ((Chg.of_grown hg).below (B := s) (by omega) (fun i e => by have := hne _ e; omega))) (by simp) _) (by simp) _
  · intro B cs t' h1 h2 h3
    have hB : B < w.heap.size := lt_of_blk h2
    have e1 : W.heap[B]? = w.heap[B]? := hc.block B hB (by omega)
    refine (heap_setCell_other _ _ _ _ (by simp; omega)).trans ((heap_setCell_other _ _ _ _ (by simp; omega)).trans ((hg.block B (by omega) (fun e => ?_)).trans e1))
    rcases ho.2 with ⟨rfl, _⟩ | ⟨g, cap, cur, rfl, _, hb2, _⟩
    · cases e
    · simp [Value.ownBlock] at e
      subst e
      rw [e1, h2] at hb2
      simp at hb2
      exact h3 hb2.2
/-- What sending an error does. -/
def Sn (w : World) (s : Nat) (T : List ByteArray) (t : ByteArray) (e : Ending) (w' : World) : Prop := e = .returned (.tuple #[]) ∧ ∃ pv', Lg w' s (T ++ [t]) pv' ∧ Below s w w' ∧ Kp s w w'
set_option maxRecDepth 100000 in
set_option maxHeartbeats 4000000 in
theorem addm (s : Nat) (T : List ByteArray) (pa : Option Addr) (pc : Nat) (t : ByteArray) (w : World) (h : Lg w s T (.slice pa T.length pc)) (hT : T.length ≤ 1048576) :
    Calls Tryf.prog 18 #[.agg #[.slice none 0 0, .string ⟨#[]⟩, .nilIface, .pointer none, .string t, .bool false, .int .u8 0, .int .u8 0], .pointer (some ⟨s, 0, none⟩), .pointer (some ⟨s + 3, 0, none⟩), .pointer (some ⟨s + 4, 0, none⟩), .pointer (some ⟨s + 2, 0, none⟩)] w (Sn w s T t) := by
  obtain ⟨c0, c2, c3, c4, z2, z3, z4, hl⟩ := h.cells
  have l0 : s < w.heap.size := by omega
  have l2 : s + 2 < w.heap.size := by omega
  have l3 : s + 3 < w.heap.size := by omega
  have HAP : Hid (∀ ty, ∃ v' w', (Builtin.append_ #[45, 45] ty #[.slice pa T.length pc, .slice (some ⟨w.heap.size + 1, 0, none⟩) 1 1]).run Tryf.prog ((((w.setCell ⟨s + 3, 0, none⟩ (.int .i32 1)).setCell ⟨s + 4, 0, none⟩ (.bool true)).alloc (.cells #[.slice none 0 0, .string ⟨#[]⟩, .nilIface, .pointer none, .string t, .bool false, .int .u8 0, .int .u8 0] 59)).alloc (.cells #[.slice none 0 0, .string ⟨#[]⟩, .nilIface, .pointer none, .string t, .bool false, .int .u8 0, .int .u8 0] 59)) = .ok v' w' ∧
      (∃ pa' pc', v' = .slice pa' (T.length + 1) pc' ∧ w'.cell? ⟨s + 2, 0, none⟩ = some (.slice pa T.length pc) ∧ w'.frozen? ⟨s + 2, 0, none⟩ = false ∧ w'.cell? ⟨s + 3, 0, none⟩ = some (.int .i32 1) ∧ w'.frozen? ⟨s + 3, 0, none⟩ = false ∧
      Hid (Lg ((w'.setCell ⟨s + 2, 0, none⟩ v').setCell ⟨s + 3, 0, none⟩ (.int .i32 0)) s (T ++ [t]) v' ∧ Below s w ((w'.setCell ⟨s + 2, 0, none⟩ v').setCell ⟨s + 3, 0, none⟩ (.int .i32 0)) ∧ Kp s w ((w'.setCell ⟨s + 2, 0, none⟩ v').setCell ⟨s + 3, 0, none⟩ (.int .i32 0))))) := Lib.hid fun ty => by
    have hmu : (w.setCell ⟨s + 3, 0, none⟩ (.int .i32 1)).heap[s + 3]? = some (.cells #[.int .i32 1, .int .u32 0] 52 (0, 0)) := by rw [heap_setCell_same _ _ _ _ _ _ h.mu]; rfl
    have hhe : ((w.setCell ⟨s + 3, 0, none⟩ (.int .i32 1)).setCell ⟨s + 4, 0, none⟩ (.bool true)).heap[s + 4]? = some (.cells #[.bool true] 4 (0, 0)) := by rw [heap_setCell_same _ _ _ _ _ _ ((heap_setCell_other _ _ _ _ (by simp)).trans h.he)]; rfl
    have hsz : ((w.setCell ⟨s + 3, 0, none⟩ (.int .i32 1)).setCell ⟨s + 4, 0, none⟩ (.bool true)).heap.size = w.heap.size := by simp [World.setCell]
    refine Lg.app h hT t (sb := w.heap.size + 1) (c := 1) ?_ ?_ ?_ ?_ ty
    · exact ((Chg.setCell (S := fun b => b = s + 3 ∨ b = s + 4) (p := ⟨s + 4, 0, none⟩) (Chg.setCell (S := fun b => b = s + 3 ∨ b = s + 4) (p := ⟨s + 3, 0, none⟩) (Chg.refl _ w) (.inl (.inl rfl)) (.int .i32 1)) (.inl (.inr rfl)) (.bool true)).alloc _).alloc _
    · rw [Below.heap_alloc _ _ _ (by simp; omega), Below.heap_alloc _ _ _ (by omega)]
      exact (heap_setCell_other _ _ _ _ (by simp)).trans hmu
    · rw [Below.heap_alloc _ _ _ (by simp; omega), Below.heap_alloc _ _ _ (by omega)]
      exact hhe
    · have := heap_alloc_new (((w.setCell ⟨s + 3, 0, none⟩ (.int .i32 1)).setCell ⟨s + 4, 0, none⟩ (.bool true)).alloc (.cells (mv t) 59)) (.cells (mv t) 59)
      simpa [hsz, mv] using this
  clear h
  go_enter_defers Tryf.func18, Tryf.ntmps18
  go_wp2_with (first | (go_at_call 19; refine (lock_ _ _ (by go_simp) (by go_simp)).mono ?_; rintro e w' ⟨rfl, rfl⟩) | (refine Am.wpList_app (o := ⟨some 25, _, _, _, _, _⟩) rfl (.tmp 22) (.tmp 24) #[45, 45] rfl rfl rfl (HAP.out _) ?_; rintro v' w8 ⟨pa', pc', rfl, r1, r2, r3, r4, HT8⟩))
  refine leaves_cons (f := 20) (args := #[.pointer (some ⟨s + 3, 0, none⟩)]) (by simp) (by simp [go_sem]) ?_
  refine (unlock_deferred ⟨s + 3, 0, none⟩ .returning _ ?_ ?_).mono ?_
  · go_simp
  · go_simp
  rintro e u' w'' ⟨rfl, rfl, rfl⟩
  exact ⟨_, results_none rfl _ _ _, rfl, _, HT8.out⟩
def logV (s : Nat) : Array Value := #[.func (Fn.func 18) #[] #[.pointer (some ⟨s, 0, none⟩), .pointer (some ⟨s + 3, 0, none⟩), .pointer (some ⟨s + 4, 0, none⟩), .pointer (some ⟨s + 2, 0, none⟩)], .func (Fn.func 21) #[] #[.pointer (some ⟨s + 3, 0, none⟩), .pointer (some ⟨s + 4, 0, none⟩)],
  .func (Fn.func 22) #[] #[.pointer (some ⟨s + 3, 0, none⟩), .pointer (some ⟨s + 2, 0, none⟩)], .func (Fn.func 23) #[] #[.pointer (some ⟨s + 3, 0, none⟩), .pointer (some ⟨s + 2, 0, none⟩)], .int .i8 3, .map none]
theorem has21 (s : Nat) (T : List ByteArray) (pv : Value) (w : World) (h : Lg w s T pv) :
    Calls Tryf.prog 21 #[.pointer (some ⟨s + 3, 0, none⟩), .pointer (some ⟨s + 4, 0, none⟩)] w fun e w' => e = .returned (.bool (!T.isEmpty)) ∧ Lg w' s T pv ∧ Below s w w' ∧ Kp s w w' := by
  obtain ⟨c0, c2, c3, c4, z2, z3, z4, hl⟩ := h.cells
  have H := Lib.hid (h.relock (Below.refl _ _))
  clear h
  go_enter_defers Tryf.func21, Tryf.ntmps21
  go_wp2_with (go_at_call 19; refine (lock_ _ _ c3 z3).mono ?_; rintro e w' ⟨rfl, rfl⟩)
  refine leaves_cons (f := 20) (args := #[.pointer (some ⟨s + 3, 0, none⟩)]) (by simp) (by simp [go_sem]) ?_
  refine (unlock_deferred ⟨s + 3, 0, none⟩ .returning _ ?_ ?_).mono ?_
  · simp [go_sem, c3]
  · simp [z3]
  rintro e u' w'' ⟨rfl, rfl, rfl⟩
  exact ⟨_, results_tmp rfl _ _ _, rfl, H.out⟩
theorem at_alloc (w : World) (o : Obj) (s : Nat) (hs : w.heap.size = s) : (w.alloc o).heap[s]? = some o := by subst hs; exact heap_alloc_new w o
def Nd (w : World) (e : Ending) (w' : World) : Prop := ∃ s, w.heap.size ≤ s ∧ e = .returned (.agg (logV s)) ∧ Lg w' s [] (.slice none 0 0) ∧ Below w.heap.size w w'
set_option maxRecDepth 100000 in
theorem newLog (w : World) : Calls Tryf.prog 15 #[.int .u8 1, .map none] w (Nd w) := by
  have hmf : ∀ (fn : Fn) (first cap : Array Value) (w : World), (Instr.makeFunc fn first cap).run Tryf.prog w = .ok (.func fn first cap) w := fun _ _ _ _ => rfl
  go_enter Tryf.func15, Tryf.ntmps15
  go_wp2
  refine bodyPost_ret (v := .agg (logV w.heap.size)) (by simp [results, Tryf.results15, go_sem, logV]) rfl ?_
  refine ⟨w.heap.size, Nat.le_refl _, rfl, ⟨?_, ?_, ?_, ?_, World.ownsRow_nil _ _ _ _⟩, by (repeat' (first | exact Below.refl _ _ | refine Below.drewR ?_ | (refine Below.alloc ?_ (by simp; omega) _) | (refine Below.alloc ?_ (by simp) _) | (refine Below.setCell ?_ (by simp; omega) _) | (refine Below.setCell ?_ (by simp) _)))⟩
  · rw [Below.heap_alloc _ _ _ (by simp; try omega), Below.heap_alloc _ _ _ (by simp; try omega), Below.heap_alloc _ _ _ (by simp; try omega), Below.heap_alloc _ _ _ (by simp; try omega)]
    exact heap_alloc_new _ _
  · rw [Below.heap_alloc _ _ _ (by simp; try omega), Below.heap_alloc _ _ _ (by simp; try omega)]
    exact at_alloc _ _ _ (by simp)
  · rw [Below.heap_alloc _ _ _ (by simp; try omega)]
    exact at_alloc _ _ _ (by simp)
  · exact at_alloc _ _ _ (by simp)
theorem locN (w : World) : Calls Tryf.prog 41 #[.pointer none, .agg #[.int .i32 0, .int .i32 0]] w fun e w' => e = .returned (.pointer none) ∧ Below w.heap.size w w' := by
  go_enter Tryf.func41, Tryf.ntmps41
  go_wp2_with fail
  go_ret
  exact ⟨rfl, by (repeat' (first | exact Below.refl _ _ | refine Below.drewR ?_ | (refine Below.alloc ?_ (by simp; omega) _) | (refine Below.alloc ?_ (by simp) _) | (refine Below.setCell ?_ (by simp; omega) _) | (refine Below.setCell ?_ (by simp) _)))⟩
theorem msgD (t : ByteArray) (w : World) : Calls Tryf.prog 30 #[.pointer none, .agg #[.int .i32 0, .int .i32 0], .string t] w fun e w' => e = .returned (.agg #[.nilIface, .pointer none, .string t, .bool false]) ∧ Below w.heap.size w w' := by
  go_enter Tryf.func30, Tryf.ntmps30
  go_wp2_with fail
  refine (locN _).mono ?_
  rintro e w1 ⟨rfl, hb⟩
  have hz := hb.size
  simp at hz
  have hrow : w1.heap[w.heap.size + 1]? = some (.cells #[.nilIface, .pointer none, .string ⟨#[]⟩, .bool false] 56 (0, 0)) := (hb.block _ (by simp)).trans (at_alloc _ _ _ (by simp))
  have c0 := cell_of_row w1 _ 0 _ _ _ hrow
  have c1 := cell_of_row w1 _ 1 _ _ _ hrow
  have c2 := cell_of_row w1 _ 2 _ _ _ hrow
  have c3 := cell_of_row w1 _ 3 _ _ _ hrow
  have z0 := frozen_of_row w1 _ 0 _ _ hrow
  have z1 := frozen_of_row w1 _ 1 _ _ hrow
  have z2 := frozen_of_row w1 _ 2 _ _ hrow
  have z3 := frozen_of_row w1 _ 3 _ _ hrow
  have HB : Hid (Below w.heap.size w w1) := Lib.hid (Below.trans (by (repeat' (first | exact Below.refl _ _ | refine Below.drewR ?_ | (refine Below.alloc ?_ (by simp; omega) _) | (refine Below.alloc ?_ (by simp) _) | (refine Below.setCell ?_ (by simp; omega) _) | (refine Below.setCell ?_ (by simp) _)))) (hb.mono (by simp; omega)))
  clear hb hrow
  simp at c0 c1 c2 c3
  go_wp2_with fail
  exact bodyPost_ret (v := .agg #[.nilIface, .pointer none, .string t, .bool false]) (by simp [results, Tryf.results30, go_sem, c0, c1, c2, c3]) rfl ⟨rfl, (((HB.out.setCell (by simp) _).setCell (by simp) _).setCell (by simp) _).setCell (by simp) _⟩
set_option maxRecDepth 100000 in
set_option maxHeartbeats 4000000 in
theorem addE (s : Nat) (T : List ByteArray) (pa : Option Addr) (pc : Nat) (t : ByteArray) (w : World) (h : Lg w s T (.slice pa T.length pc)) (hT : T.length ≤ 1048576) :
    Calls Tryf.prog 25 #[.agg #[.func (Fn.func 18) #[] #[.pointer (some ⟨s, 0, none⟩), .pointer (some ⟨s + 3, 0, none⟩), .pointer (some ⟨s + 4, 0, none⟩), .pointer (some ⟨s + 2, 0, none⟩)], .func (Fn.func 21) #[] #[.pointer (some ⟨s + 3, 0, none⟩), .pointer (some ⟨s + 4, 0, none⟩)],
  .func (Fn.func 22) #[] #[.pointer (some ⟨s + 3, 0, none⟩), .pointer (some ⟨s + 2, 0, none⟩)], .func (Fn.func 23) #[] #[.pointer (some ⟨s + 3, 0, none⟩), .pointer (some ⟨s + 2, 0, none⟩)], .int .i8 3, .map none], .pointer none, .agg #[.int .i32 0, .int .i32 0], .string t] w (Sn w s T t) := by
  have hl := lt_of_blk h.he
  have HF : Hid (∀ w', Below w.heap.size w w' → Calls Tryf.prog 18 #[.agg #[.slice none 0 0, .string ⟨#[]⟩, .nilIface, .pointer none, .string t, .bool false, .int .u8 0, .int .u8 0], .pointer (some ⟨s, 0, none⟩), .pointer (some ⟨s + 3, 0, none⟩), .pointer (some ⟨s + 4, 0, none⟩), .pointer (some ⟨s + 2, 0, none⟩)] w' (Sn w s T t)) := Lib.hid fun w' hb =>
    (addm s T pa pc t w' (h.below hb) hT).mono fun e w2 ⟨h1, pv', h2, h3, h4⟩ => ⟨h1, pv', h2, (hb.mono (by omega)).trans h3, (Kp.of_below hb).trans h4⟩
  clear h hT
  go_enter Tryf.func25, Tryf.ntmps25
  go_wp2_with fail
  go_region_with (first | (go_at_call 30; refine (msgD t _).mono ?_; rintro e w1 ⟨rfl, hb⟩; have d0 := hb.cell (p := ⟨w.heap.size, 0, none⟩) (by simp; try omega); simp [go_sem] at d0; have HB : Hid (Below w.heap.size w w1) := Lib.hid (Below.trans (belD (by (repeat' (first | exact Below.refl _ _ | refine Below.drewR ?_ | (refine Below.alloc ?_ (by simp; omega) _) | (refine Below.alloc ?_ (by simp) _) | (refine Below.setCell ?_ (by simp; omega) _) | (refine Below.setCell ?_ (by simp) _))))) (hb.mono (by simp; try omega))); clear hb) | (go_at_call 18; refine (HF.out _ (by first | exact HB.out | exact belD HB.out | exact below_drewN HB.out _)).mono ?_; rintro e w2 ⟨rfl, pv', hL, hb2⟩; have HL := Lib.hid (And.intro hL hb2); clear hL hb2))
  all_goals
    go_end0
    exact ⟨rfl, _, HL.out⟩
end Go.Proofs.YtdigbcjkclbdfaaFmt.Aux
