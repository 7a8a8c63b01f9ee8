/- Contracts of functions that the law of this seat reaches, and plain facts; no condition. -/
import Derived.Test.YtogacjjgfpkdfaaProg
import Derived.WalkKit
import Derived.ProofKit
import Derived.OpenShut
import Derived.ShutString
import Derived.Test.YtogacjjgfpkdfaaAid
import Derived.Test.YtogacjjgfpkdfaaFl
import Derived.Test.YtogacjjgfpkdfaaStr
import Derived.Test.YtogacjjgfpkdfaaPb
import Derived.Test.YtogacjjgfpkdfaaQd
import Derived.Test.YtogacjjgfpkdfaaAm
import Derived.Test.YtogacjjgfpkdfaaMp
import Derived.Test.YtogacjjgfpkdfaaJ
import Derived.Test.YtogacjjgfpkdfaaAid
import Derived.Maps.RangeRun
import Derived.Carry
import Derived.Laws.IdiomRangeMap
import Derived.ArgAppend
import Derived.Maps.Own
import Derived.WalkSmall
import Derived.WalkSpells
import Derived.Laws.Externs
import Derived.WalkLawsBesides
import Derived.LoopTactic
import Derived.Deep.CutBlock
import Derived.Deep.DeepCutAuto
import Derived.IntWalk
import Derived.Outline
import Derived.Deep.QuietTactic
import Derived.BigQuiet
import Derived.RegionTactic
import Derived.Deep.RegionHeld3
import Derived.Deep.MidRow
import Derived.StillTailTactics
import Derived.BigRegion
import Derived.Laws.OwnMore
import Derived.Laws.Rows
namespace Go.Proofs.Ytogacjjgfpkdfaa.Aux
open Go.ChangeShapes Go.WideShapes Go.ChangeAt Go.RowKit
open Go.ChangeMaps (open_string shut_string)
set_option linter.unusedVariables false
set_option linter.unusedSimpArgs false
open Fl Str Pb Qd Am Mp PlainAid Aux
open Go.ChangeMaps
theorem info42 : (Try.prog.info? 42).map (fun i => (i.zero, i.size, i.bytes)) = some (some (.agg #[.string ⟨#[]⟩, .string ⟨#[]⟩, .string ⟨#[]⟩, .bool false, .string ⟨#[]⟩, .string ⟨#[]⟩, .int .i64 0, .int .i64 0, .int .i64 0, .string ⟨#[]⟩, .string ⟨#[]⟩, .slice none 0 0]), 12, 168) := by kernel_rfl
theorem info44 : (Try.prog.info? 44).map (fun i => (i.zero, i.size, i.bytes)) = some (some (.agg #[.string ⟨#[]⟩, .bool false, .string ⟨#[]⟩, .string ⟨#[]⟩, .int .i64 0, .int .i64 0, .int .i64 0, .string ⟨#[]⟩, .string ⟨#[]⟩]), 9, 112) := by kernel_rfl
theorem blk_made (w : World) (t : TypeId) (cs : Array Value) (n : Nat) : Blk (w.alloc (.cells (madeCells cs n) t)) w.heap.size t n := ⟨_, heap_alloc_new _ _, size_madeCells _ _⟩
theorem blk_lt {w : World} {b n : Nat} {t : TypeId} (h : Blk w b t n) : b < w.heap.size := by
  obtain ⟨cur, h1, _⟩ := h
  exact Classical.byContradiction fun hn => by rw [Array.getElem?_eq_none (by omega)] at h1; cases h1
theorem blk_ex {w : World} {b n : Nat} {t : TypeId} (h : Blk w b t n) {o : Nat} (ho : o < n) : ∃ v, w.cell? ⟨b, o, none⟩ = some v := by
  obtain ⟨cur, h1, h2⟩ := h
  rw [cell_of_row _ _ o _ _ _ h1, Array.getElem?_eq_getElem (by omega)]
  exact ⟨_, rfl⟩
theorem blk_fz {w : World} {b n : Nat} {t : TypeId} (h : Blk w b t n) (o : Nat) : w.frozen? ⟨b, o, none⟩ = false := by
  obtain ⟨cur, h1, _⟩ := h
  exact frozen_of_row _ _ o _ _ h1
theorem blk_below {w w' : World} {b n B : Nat} {t : TypeId} (h : Blk w b t n) (hb : Below B w w') (hB : b < B) : Blk w' b t n := by
  obtain ⟨cur, h1, h2⟩ := h
  exact ⟨cur, (hb.block b hB).trans h1, h2⟩
theorem put_below {b B : Nat} {w0 : World} : ∀ (vs : List Value) (w : World) (o : Nat), Below B w0 w → B ≤ b → Below B w0 (putL w b o vs) := by
  intro vs
  induction vs with
  | nil => intro w o h _; exact h
  | cons v vs ih => intro w o h hB; exact ih _ _ (h.setCell hB _) hB
theorem at_keep {w w' : World} {b o : Nat} {cs : List Value} (h : At w b o cs) (hk : ∀ p v, w.cell? ⟨b, p, none⟩ = some v → o ≤ p → p < o + cs.length → w'.cell? ⟨b, p, none⟩ = some v) : At w' b o cs := fun j v hj => hk _ v (h j v hj) (by omega) (by have := (List.getElem?_eq_some_iff.1 hj).1; omega)
theorem at_put {w : World} {b o b2 o2 : Nat} {cs vs : List Value} (h : At w b o cs) (hn : b ≠ b2 ∨ o + cs.length ≤ o2 ∨ o2 + vs.length ≤ o) : At (putL w b2 o2 vs) b o cs :=
  at_keep h fun p v hp h1 h2 => by
    rw [put_other vs w o2 (by rcases hn with hn | hn | hn; exact .inl hn; exact .inr (.inl (by simp; omega)); exact .inr (.inr (by simp; omega)))]
    exact hp
theorem note_len (x : NoteD) : x.cells.length = 9 := rfl
theorem md_len (m : MD) (na : Option Addr) (nc : Nat) : (m.cells na nc).length = 12 := rfl
/-- While a message's notes are cloned. -/
structure CN (w0 : World) (nb nl : Nat) (nd : Nat → NoteD) (j : Nat) (w : World) : Prop where
  bl : Below nb w0 w
  bk : Blk w nb 44 (nl * 9)
  at_ : ∀ i, i < j → At w nb (i * 9) (nd i).cells
theorem CN.step {w0 w : World} {nb nl j : Nat} {nd : Nat → NoteD} (h : CN w0 nb nl nd j w) (hj : j < nl) : CN w0 nb nl nd (j + 1) (putL w nb (j * 9) (nd j).cells) := by
  obtain ⟨h1, h2, h3⟩ := h
  have hp := put_at (nd j).cells w (j * 9) h2 (by rw [note_len]; omega)
  refine ⟨put_below _ _ _ h1 (Nat.le_refl _), hp.2, fun i hi => ?_⟩
  by_cases e : i = j
  · subst e; exact hp.1
  · exact at_put (h3 i (by omega)) (.inr (.inl (by rw [note_len]; omega)))
theorem CN.notes {w0 w : World} {nb nl : Nat} {nd : Nat → NoteD} (h : CN w0 nb nl nd nl w) : NotesIn w (some ⟨nb, 0, none⟩) nl nd :=
  ⟨(fun e => by cases e), fun i hi => ⟨nb, 0, rfl, by rw [Nat.zero_add]; exact h.at_ i hi⟩⟩
theorem notes_put {w : World} {a : Option Addr} {n b o : Nat} {nd : Nat → NoteD} {vs : List Value} (h : NotesIn w a n nd) (hb : ∀ x, a = some x → b < x.block) : NotesIn (putL w b o vs) a n nd :=
  ⟨h.1, fun i hi => by
    obtain ⟨b2, o2, e, hA⟩ := h.2 i hi
    exact ⟨b2, o2, e, at_put hA (.inl (by have := hb _ e; simp at this; omega))⟩⟩
/-- While the messages are cloned. -/
structure CO (w : World) (n : Nat) (M : Nat → MD) (i : Nat) (wr : World) : Prop where
  bl : Below w.heap.size w wr
  bk : Blk wr w.heap.size 42 (n * 12)
  at_ : ∀ k, k < i → ∃ na nc, At wr w.heap.size (k * 12) ((M k).cells na nc) ∧ NotesIn wr na (M k).nl (M k).nd ∧ ∀ x, na = some x → w.heap.size < x.block
theorem CO.step {w wr W : World} {n i : Nat} {M : Nat → MD} (h : CO w n M i wr) (hi : i < n) (hb : Below wr.heap.size wr W) {na : Option Addr} {nc : Nat} (hN : NotesIn W na (M i).nl (M i).nd) (hx : ∀ x, na = some x → w.heap.size < x.block) :
    CO w n M (i + 1) (putL W w.heap.size (i * 12) ((M i).cells na nc)) := by
  obtain ⟨h1, h2, h3⟩ := h
  have h2' := blk_below h2 hb (blk_lt h2)
  have hp := put_at ((M i).cells na nc) W (i * 12) h2' (by rw [md_len]; omega)
  refine ⟨put_below _ _ _ (h1.trans (hb.mono h1.size)) (Nat.le_refl _), hp.2, fun k hk => ?_⟩
  by_cases e : k = i
  · subst e; exact ⟨na, nc, hp.1, notes_put hN hx, hx⟩
  · obtain ⟨na', nc', a1, a2, a3⟩ := h3 k (by omega)
    exact ⟨na', nc', at_put (a1.below (blk_lt h2) hb) (.inr (.inl (by rw [md_len]; omega))), notes_put (a2.below hb) a3, a3⟩
theorem CO.msgs {w wr : World} {n : Nat} {M : Nat → MD} (h : CO w n M n wr) : MsgsIn wr (some ⟨w.heap.size, 0, none⟩) n M :=
  ⟨(fun e => by cases e), fun i hi => by
    obtain ⟨na, nc, a1, a2, _⟩ := h.at_ i hi
    exact ⟨_, 0, na, nc, rfl, by rw [Nat.zero_add]; exact a1, a2⟩⟩
def CP (n : Nat) (M : Nat → MD) (w : World) (e : Ending) (w' : World) : Prop := ∃ a', e = .returned (.slice a' n n) ∧ Hid (MsgsIn w' a' n M) ∧ Hid (Below w.heap.size w w')
theorem CO.alloc {w wr : World} {n i : Nat} {M : Nat → MD} (h : CO w n M i wr) (o : Obj) : CO w n M i (wr.alloc o) := by
  have hb : Below wr.heap.size wr (wr.alloc o) := (Below.refl _ _).alloc (Nat.le_refl _) _
  obtain ⟨h1, h2, h3⟩ := h
  refine ⟨h1.alloc h1.size _, blk_below h2 hb (blk_lt h2), fun k hk => ?_⟩
  obtain ⟨na, nc, a1, a2, a3⟩ := h3 k hk
  exact ⟨na, nc, a1.below (blk_lt h2) hb, a2.below hb, a3⟩
theorem clone_nil (cap : Nat) (hc : cap = 0) (M : Nat → MD) (w : World) : Calls Try.prog 6 #[.slice none 0 cap] w (CP 0 M w) := by
  subst hc
  have hnil : ∀ w : World, (binOp .eql 22 (.slice none 0 0) (.slice none 0 0)).run Try.prog w = .ok (.bool true) w := fun w => Lib.run_eql_slice_nil w 22 42 _ _ _ _ _ Try.underlying22
  go_enter Try.func6, Try.ntmps6
  go_wp2_with fail
  go_ret
  exact ⟨none, rfl, Lib.hid ⟨fun _ => rfl, fun i hi => absurd hi (Nat.not_lt_zero _)⟩, Lib.hid (Below.refl _ _)⟩
set_option maxRecDepth 100000 in
set_option maxHeartbeats 40000000 in
theorem clone_zero (x : Addr) (cap : Nat) (M : Nat → MD) (w : World) : Calls Try.prog 6 #[.slice (some x) 0 cap] w (CP 0 M w) := by
  obtain ⟨cs, hcs⟩ : ∃ cs, (Value.agg #[.string ⟨#[]⟩, .string ⟨#[]⟩, .string ⟨#[]⟩, .bool false, .string ⟨#[]⟩, .string ⟨#[]⟩, .int .i64 0, .int .i64 0, .int .i64 0, .string ⟨#[]⟩, .string ⟨#[]⟩, .slice none 0 0]).cells = cs := ⟨_, rfl⟩
  have hmk : ∀ w : World, (Instr.makeSlice 22 (.int .i64 0) (.int .i64 0)).run Try.prog w = .ok (.slice (some ⟨w.heap.size, 0, none⟩) 0 0) (w.alloc (.cells (madeCells cs (0 * 12)) 42)) := fun w => run_make_many (P := Try.prog) Try.underlying22 info42 hcs (by omega) 0 (by omega) w
  clear hcs
  have hnil : ∀ w : World, (binOp .eql 22 (.slice (some x) 0 cap) (.slice none 0 0)).run Try.prog w = .ok (.bool false) w := fun w => Lib.run_eql_slice_nil w 22 42 _ _ _ _ _ Try.underlying22
  go_enter Try.func6, Try.ntmps6
  go_wp2_with fail
  go_loopw [4] (fun s4 wr => s4 = .int .i64 0 ∧ Hid (Below w.heap.size w wr)) (fun _ _ => 0)
  case atStart => exact ⟨rfl, Lib.hid ((Below.refl _ _).alloc (Nat.le_refl _) _)⟩
  case round =>
    obtain ⟨rfl, HB⟩ := hrel
    go_wp2_with fail
    go_ret
    exact ⟨_, rfl, Lib.hid ⟨fun _ => rfl, fun i hi => absurd hi (Nat.not_lt_zero _)⟩, HB⟩
set_option maxRecDepth 100000 in
set_option maxHeartbeats 40000000 in
theorem clone6 (a : Option Addr) (n cap : Nat) (M : Nat → MD) (w : World) (h : MsgsIn w a n M) (hc : a = none → cap = 0) (hn20 : n ≤ 1048576) (hnl : ∀ i, i < n → (M i).nl ≤ 1048576) : Calls Try.prog 6 #[.slice a n cap] w (CP n M w) := by
  cases a with
  | none =>
    obtain rfl := h.1 rfl
    exact clone_nil cap (hc rfl) M w
  | some x =>
    rcases Nat.eq_zero_or_pos n with h0 | hpos
    · subst h0
      exact clone_zero x cap M w
    · obtain ⟨b, o, e, hA⟩ := MsgsIn.block h hpos
      injection e with e
      subst e
      have HA := Lib.hid hA
      have HNL := Lib.hid hnl
      clear hnl hc
      have hb : b < w.heap.size := by
        obtain ⟨_, _, hA0, _⟩ := hA 0 hpos
        exact At.lt hA0
      clear hA h
      obtain ⟨cs, hcs⟩ : ∃ cs, (Value.agg #[.string ⟨#[]⟩, .string ⟨#[]⟩, .string ⟨#[]⟩, .bool false, .string ⟨#[]⟩, .string ⟨#[]⟩, .int .i64 0, .int .i64 0, .int .i64 0, .string ⟨#[]⟩, .string ⟨#[]⟩, .slice none 0 0]).cells = cs := ⟨_, rfl⟩
      have hmk := run_make_many (P := Try.prog) Try.underlying22 info42 hcs (by omega) n (by omega)
      clear hcs
      have hnil : ∀ w : World, (binOp .eql 22 (.slice (some ⟨b, o, none⟩) n cap) (.slice none 0 0)).run Try.prog w = .ok (.bool false) w := fun w => Lib.run_eql_slice_nil w 22 42 _ _ _ _ _ Try.underlying22
      go_enter Try.func6, Try.ntmps6
      go_wp2_with fail
      go_loopw [4] (fun s4 wr => ∃ i : Nat, i ≤ n ∧ s4 = .int .i64 i ∧ Hid (CO w n M i wr)) (fun s4 _ => n - (intOf s4).toNat)
      case atStart => exact ⟨0, by omega, rfl, Lib.hid ⟨(Below.refl _ _).alloc (Nat.le_refl _) _, blk_made _ _ _ _, fun k hk => absurd hk (Nat.not_lt_zero _)⟩⟩
      case round =>
        obtain ⟨i, hi, rfl, HC⟩ := hrel
        clear hmk
        by_cases hlt : i < n
        · have hiz : (i : Int) < (n : Int) := by omega
          obtain ⟨na, nc, hA, hN⟩ := HA.out i hlt
          obtain ⟨m, hm⟩ : ∃ m, M i = m := ⟨_, rfl⟩
          have hnl := HNL.out i hlt
          rw [hm] at hA hN hnl
          obtain ⟨id, plug, text, ⟨p, ⟨file, ns, line, col, len, lt, sg⟩⟩, nl, nd⟩ := m
          have hC : ∀ j v, (MD.cells ⟨id, plug, text, ⟨p, ⟨file, ns, line, col, len, lt, sg⟩⟩, nl, nd⟩ na nc)[j]? = some v → wr.cell? ⟨b, o + i * 12 + j, none⟩ = some v := fun j v hj => (HC.out.bl.cell (p := ⟨b, o + i * 12 + j, none⟩) hb).trans (hA j v hj)
          have c0 := hC 0 _ rfl
          rw [Nat.add_zero] at c0
          have c1 := hC 1 _ rfl
          have c2 := hC 2 _ rfl
          have c3 := hC 3 _ rfl
          have c4 := hC 4 _ rfl
          have c5 := hC 5 _ rfl
          have c6 := hC 6 _ rfl
          have c7 := hC 7 _ rfl
          have c8 := hC 8 _ rfl
          have c9 := hC 9 _ rfl
          have c10 := hC 10 _ rfl
          have c11 := hC 11 _ rfl
          have hnl20 : nl ≤ 1048576 := hnl
          have HM := Lib.hid hm
          have HN0 := Lib.hid hN
          clear hA hm hC hnl hN
          cases na with
          | none =>
            obtain rfl : nl = 0 := HN0.out.1 rfl
            have hneq : ∀ w : World, (binOp .neq 40 (.slice none 0 nc) (.slice none 0 0)).run Try.prog w = .ok (.bool false) w := fun w => run_neq_slice_nil_any w 40 44 _ _ _ _ _ Try.underlying40
            have hbk := HC.out.bk
            obtain ⟨u0, e0⟩ := blk_ex hbk (o := i * 12) (by omega)
            have f0 := blk_fz hbk (i * 12)
            obtain ⟨u1, e1⟩ := blk_ex hbk (o := i * 12 + 1) (by omega)
            have f1 := blk_fz hbk (i * 12 + 1)
            obtain ⟨u2, e2⟩ := blk_ex hbk (o := i * 12 + 2) (by omega)
            have f2 := blk_fz hbk (i * 12 + 2)
            obtain ⟨u3, e3⟩ := blk_ex hbk (o := i * 12 + 3) (by omega)
            have f3 := blk_fz hbk (i * 12 + 3)
            obtain ⟨u4, e4⟩ := blk_ex hbk (o := i * 12 + 4) (by omega)
            have f4 := blk_fz hbk (i * 12 + 4)
            obtain ⟨u5, e5⟩ := blk_ex hbk (o := i * 12 + 5) (by omega)
            have f5 := blk_fz hbk (i * 12 + 5)
            obtain ⟨u6, e6⟩ := blk_ex hbk (o := i * 12 + 6) (by omega)
            have f6 := blk_fz hbk (i * 12 + 6)
            obtain ⟨u7, e7⟩ := blk_ex hbk (o := i * 12 + 7) (by omega)
            have f7 := blk_fz hbk (i * 12 + 7)
            obtain ⟨u8, e8⟩ := blk_ex hbk (o := i * 12 + 8) (by omega)
            have f8 := blk_fz hbk (i * 12 + 8)
            obtain ⟨u9, e9⟩ := blk_ex hbk (o := i * 12 + 9) (by omega)
            have f9 := blk_fz hbk (i * 12 + 9)
            obtain ⟨u10, e10⟩ := blk_ex hbk (o := i * 12 + 10) (by omega)
            have f10 := blk_fz hbk (i * 12 + 10)
            obtain ⟨u11, e11⟩ := blk_ex hbk (o := i * 12 + 11) (by omega)
            have f11 := blk_fz hbk (i * 12 + 11)
            have hob := blk_lt hbk
            clear hbk
            go_wp2_with fail
            go_roundw
            case rel =>
              have hst := CO.step (na := none) (nc := 0) (W := wr) HC.out hlt (Below.refl _ _) (by rw [HM.out]; exact ⟨fun _ => rfl, fun i hi => absurd hi (Nat.not_lt_zero _)⟩) (fun x e => by cases e)
              rw [HM.out] at hst
              exact ⟨i + 1, by omega, by go_num, Lib.hid (hst.alloc _)⟩
            case measure => simp [intOf]; omega
          | some y =>
            obtain ⟨cs2, hcs2⟩ : ∃ cs, (Value.agg #[.string ⟨#[]⟩, .bool false, .string ⟨#[]⟩, .string ⟨#[]⟩, .int .i64 0, .int .i64 0, .int .i64 0, .string ⟨#[]⟩, .string ⟨#[]⟩]).cells = cs := ⟨_, rfl⟩
            have hmk2 := run_make_many (P := Try.prog) Try.underlying40 info44 hcs2 (by omega) nl (by omega)
            clear hcs2
            have hneq : ∀ w : World, (binOp .neq 40 (.slice (some y) nl nc) (.slice none 0 0)).run Try.prog w = .ok (.bool true) w := fun w => run_neq_slice_nil_any w 40 44 _ _ _ _ _ Try.underlying40
            go_wp2_with fail
            have hCN : CN ((wr.alloc (.cells (MD.cells ⟨id, plug, text, ⟨p, ⟨file, ns, line, col, len, lt, sg⟩⟩, nl, nd⟩ (some y) nc).toArray 42)).alloc (.cells (madeCells cs2 (nl * 9)) 44)) (wr.heap.size + 1) nl nd 0 ((wr.alloc (.cells (MD.cells ⟨id, plug, text, ⟨p, ⟨file, ns, line, col, len, lt, sg⟩⟩, nl, nd⟩ (some y) nc).toArray 42)).alloc (.cells (madeCells cs2 (nl * 9)) 44)) := ⟨Below.refl _ _, (by have := blk_made (wr.alloc (.cells (MD.cells ⟨id, plug, text, ⟨p, ⟨file, ns, line, col, len, lt, sg⟩⟩, nl, nd⟩ (some y) nc).toArray 42)) 44 cs2 (nl * 9); simpa using this), fun i hi => absurd hi (Nat.not_lt_zero _)⟩
            have hmrow : ((wr.alloc (.cells (MD.cells ⟨id, plug, text, ⟨p, ⟨file, ns, line, col, len, lt, sg⟩⟩, nl, nd⟩ (some y) nc).toArray 42)).alloc (.cells (madeCells cs2 (nl * 9)) 44)).heap[wr.heap.size]? = some (.cells (MD.cells ⟨id, plug, text, ⟨p, ⟨file, ns, line, col, len, lt, sg⟩⟩, nl, nd⟩ (some y) nc).toArray 42 (0, 0)) := by
              rw [Below.heap_alloc _ _ _ (by simp)]
              exact heap_alloc_new _ _
            have HAT : Hid (At ((wr.alloc (.cells (MD.cells ⟨id, plug, text, ⟨p, ⟨file, ns, line, col, len, lt, sg⟩⟩, nl, nd⟩ (some y) nc).toArray 42)).alloc (.cells (madeCells cs2 (nl * 9)) 44)) wr.heap.size 0 (MD.cells ⟨id, plug, text, ⟨p, ⟨file, ns, line, col, len, lt, sg⟩⟩, nl, nd⟩ (some y) nc)) := Lib.hid fun j v hj => by
              rw [Nat.zero_add, cell_of_row _ _ j _ _ _ hmrow]; simpa using hj
            have HBW : Hid (Below wr.heap.size wr ((wr.alloc (.cells (MD.cells ⟨id, plug, text, ⟨p, ⟨file, ns, line, col, len, lt, sg⟩⟩, nl, nd⟩ (some y) nc).toArray 42)).alloc (.cells (madeCells cs2 (nl * 9)) 44))) := Lib.hid (((Below.refl _ _).alloc (Nat.le_refl _) _).alloc (by simp) _)
            have HMB : Hid (Blk ((wr.alloc (.cells (MD.cells ⟨id, plug, text, ⟨p, ⟨file, ns, line, col, len, lt, sg⟩⟩, nl, nd⟩ (some y) nc).toArray 42)).alloc (.cells (madeCells cs2 (nl * 9)) 44)) wr.heap.size 42 12) := Lib.hid ⟨_, hmrow, rfl⟩
            have HCN := Lib.hid hCN
            clear hCN hmrow
            change Code.wp _ _ _ _ ((wr.alloc (.cells (MD.cells ⟨id, plug, text, ⟨p, ⟨file, ns, line, col, len, lt, sg⟩⟩, nl, nd⟩ (some y) nc).toArray 42)).alloc (.cells (madeCells cs2 (nl * 9)) 44))
            obtain ⟨W, hW⟩ : ∃ W, (wr.alloc (.cells (MD.cells ⟨id, plug, text, ⟨p, ⟨file, ns, line, col, len, lt, sg⟩⟩, nl, nd⟩ (some y) nc).toArray 42)).alloc (.cells (madeCells cs2 (nl * 9)) 44) = W := ⟨_, rfl⟩
            rw [hW] at HCN HAT HBW HMB ⊢
            clear hW c0 c1 c2 c3 c4 c5 c6 c7 c8 c9 c10 c11
            obtain ⟨wo, hwo⟩ : ∃ wo, wo = wr := ⟨_, rfl⟩
            rw [← hwo] at HCN HAT HBW HMB HC ⊢
            clear hwo
            go_loopw [7] (fun s7 w2 => ∃ j : Nat, j ≤ nl ∧ s7 = .int .i64 j ∧ Hid (CN W (wo.heap.size + 1) nl nd j w2)) (fun s7 _ => nl - (intOf s7).toNat)
            case atStart => exact ⟨0, by omega, rfl, HCN⟩
            case round =>
              clear HCN
              obtain ⟨j, hj, rfl, HJ⟩ := hrel
              have HB2 : Hid (Below wo.heap.size wo wr) := Lib.hid (HBW.out.trans (HJ.out.bl.mono (Nat.le_succ _)))
              have hmlt : wo.heap.size < W.heap.size := blk_lt HMB.out
              have HA2 : Hid (At wr wo.heap.size 0 (MD.cells ⟨id, plug, text, ⟨p, ⟨file, ns, line, col, len, lt, sg⟩⟩, nl, nd⟩ (some y) nc)) := Lib.hid fun k v hk => (HJ.out.bl.cell (p := ⟨wo.heap.size, 0 + k, none⟩) (by simp)).trans (HAT.out k v hk)
              have HMB2 : Hid (Blk wr wo.heap.size 42 12) := Lib.hid (blk_below HMB.out HJ.out.bl (Nat.lt_succ_self _))
              by_cases hjl : j < nl
              · have hjz : (j : Int) < (nl : Int) := by omega
                obtain ⟨b2, o2, hy, hA3⟩ := NotesIn.block HN0.out (by omega)
                injection hy with hy
                subst hy
                have c11 := HA2.out 11 _ rfl
                rw [Nat.zero_add] at c11
                have hb2 : b2 < w.heap.size := At.lt (hA3 j hjl)
                have hB := hA3 j hjl
                obtain ⟨x, hx⟩ : ∃ x, nd j = x := ⟨_, rfl⟩
                rw [hx] at hB
                obtain ⟨text2, ⟨p2, ⟨file2, ns2, line2, col2, len2, lt2, sg2⟩⟩⟩ := x
                have hb2o : b2 < wo.heap.size := Nat.lt_of_lt_of_le hb2 HC.out.bl.size
                have hC : ∀ k v, (NoteD.cells ⟨text2, ⟨p2, ⟨file2, ns2, line2, col2, len2, lt2, sg2⟩⟩⟩)[k]? = some v → wr.cell? ⟨b2, o2 + j * 9 + k, none⟩ = some v := fun k v hk => (HB2.out.cell (p := ⟨b2, o2 + j * 9 + k, none⟩) hb2o).trans ((HC.out.bl.cell (p := ⟨b2, o2 + j * 9 + k, none⟩) hb2).trans (hB k v hk))
                have d0 := hC 0 _ rfl
                rw [Nat.add_zero] at d0
                have d1 := hC 1 _ rfl
                have d2 := hC 2 _ rfl
                have d3 := hC 3 _ rfl
                have d4 := hC 4 _ rfl
                have d5 := hC 5 _ rfl
                have d6 := hC 6 _ rfl
                have d7 := hC 7 _ rfl
                have d8 := hC 8 _ rfl
                obtain ⟨u0, e0⟩ := blk_ex HJ.out.bk (o := j * 9) (by omega)
                have f0 := blk_fz HJ.out.bk (j * 9)
                obtain ⟨u1, e1⟩ := blk_ex HJ.out.bk (o := j * 9 + 1) (by omega)
                have f1 := blk_fz HJ.out.bk (j * 9 + 1)
                obtain ⟨u2, e2⟩ := blk_ex HJ.out.bk (o := j * 9 + 2) (by omega)
                have f2 := blk_fz HJ.out.bk (j * 9 + 2)
                obtain ⟨u3, e3⟩ := blk_ex HJ.out.bk (o := j * 9 + 3) (by omega)
                have f3 := blk_fz HJ.out.bk (j * 9 + 3)
                obtain ⟨u4, e4⟩ := blk_ex HJ.out.bk (o := j * 9 + 4) (by omega)
                have f4 := blk_fz HJ.out.bk (j * 9 + 4)
                obtain ⟨u5, e5⟩ := blk_ex HJ.out.bk (o := j * 9 + 5) (by omega)
                have f5 := blk_fz HJ.out.bk (j * 9 + 5)
                obtain ⟨u6, e6⟩ := blk_ex HJ.out.bk (o := j * 9 + 6) (by omega)
                have f6 := blk_fz HJ.out.bk (j * 9 + 6)
                obtain ⟨u7, e7⟩ := blk_ex HJ.out.bk (o := j * 9 + 7) (by omega)
                have f7 := blk_fz HJ.out.bk (j * 9 + 7)
                obtain ⟨u8, e8⟩ := blk_ex HJ.out.bk (o := j * 9 + 8) (by omega)
                have f8 := blk_fz HJ.out.bk (j * 9 + 8)
                have hnb := blk_lt HJ.out.bk
                have HX := Lib.hid hx
                clear hC hB hA3 hx
                go_wp2_with fail
                go_roundw
                case rel =>
                  have hst := CN.step HJ.out hjl
                  rw [HX.out] at hst
                  exact ⟨j + 1, by omega, by go_num, Lib.hid hst⟩
                case measure => simp [intOf]; omega
              · have hjz : ¬ (j : Int) < (nl : Int) := by omega
                have hje : j = nl := by omega
                have HJ2 : Hid (CN W (wo.heap.size + 1) nl nd nl wr) := by rw [hje] at HJ; exact HJ
                have hC : ∀ j v, (MD.cells ⟨id, plug, text, ⟨p, ⟨file, ns, line, col, len, lt, sg⟩⟩, nl, nd⟩ (some y) nc)[j]? = some v → wr.cell? ⟨wo.heap.size, j, none⟩ = some v := fun j v hj => by
                  have := HA2.out j v hj
                  rwa [Nat.zero_add] at this
                have c0 := hC 0 _ rfl
                have c1 := hC 1 _ rfl
                have c2 := hC 2 _ rfl
                have c3 := hC 3 _ rfl
                have c4 := hC 4 _ rfl
                have c5 := hC 5 _ rfl
                have c6 := hC 6 _ rfl
                have c7 := hC 7 _ rfl
                have c8 := hC 8 _ rfl
                have c9 := hC 9 _ rfl
                have c10 := hC 10 _ rfl
                have c11 := hC 11 _ rfl
                have z11 := blk_fz HMB2.out 11
                have hmb2 := blk_lt HMB2.out
                have hbk := blk_below HC.out.bk HB2.out (blk_lt HC.out.bk)
                obtain ⟨u0, e0⟩ := blk_ex hbk (o := i * 12) (by omega)
                have f0 := blk_fz hbk (i * 12)
                obtain ⟨u1, e1⟩ := blk_ex hbk (o := i * 12 + 1) (by omega)
                have f1 := blk_fz hbk (i * 12 + 1)
                obtain ⟨u2, e2⟩ := blk_ex hbk (o := i * 12 + 2) (by omega)
                have f2 := blk_fz hbk (i * 12 + 2)
                obtain ⟨u3, e3⟩ := blk_ex hbk (o := i * 12 + 3) (by omega)
                have f3 := blk_fz hbk (i * 12 + 3)
                obtain ⟨u4, e4⟩ := blk_ex hbk (o := i * 12 + 4) (by omega)
                have f4 := blk_fz hbk (i * 12 + 4)
                obtain ⟨u5, e5⟩ := blk_ex hbk (o := i * 12 + 5) (by omega)
                have f5 := blk_fz hbk (i * 12 + 5)
                obtain ⟨u6, e6⟩ := blk_ex hbk (o := i * 12 + 6) (by omega)
                have f6 := blk_fz hbk (i * 12 + 6)
                obtain ⟨u7, e7⟩ := blk_ex hbk (o := i * 12 + 7) (by omega)
                have f7 := blk_fz hbk (i * 12 + 7)
                obtain ⟨u8, e8⟩ := blk_ex hbk (o := i * 12 + 8) (by omega)
                have f8 := blk_fz hbk (i * 12 + 8)
                obtain ⟨u9, e9⟩ := blk_ex hbk (o := i * 12 + 9) (by omega)
                have f9 := blk_fz hbk (i * 12 + 9)
                obtain ⟨u10, e10⟩ := blk_ex hbk (o := i * 12 + 10) (by omega)
                have f10 := blk_fz hbk (i * 12 + 10)
                obtain ⟨u11, e11⟩ := blk_ex hbk (o := i * 12 + 11) (by omega)
                have f11 := blk_fz hbk (i * 12 + 11)
                have hob := blk_lt hbk
                have hobmb : w.heap.size < wo.heap.size := blk_lt HC.out.bk
                clear hC hbk
                go_wp2_with fail
                go_roundw
                case rel =>
                  have hst := CO.step (na := (some ⟨wo.heap.size + 1, 0, none⟩)) (nc := nl) (W := (wr.setCell ⟨wo.heap.size, 11, none⟩ (.slice (some ⟨wo.heap.size + 1, 0, none⟩) nl nl))) HC.out hlt (HB2.out.setCell (Nat.le_refl _) _) (by rw [HM.out]; exact notes_put (vs := [.slice (some ⟨wo.heap.size + 1, 0, none⟩) nl nl]) HJ2.out.notes (fun x e => by injection e with e; subst e; simp)) (fun x e => by injection e with e; subst e; simp; omega)
                  rw [HM.out] at hst
                  exact ⟨i + 1, by omega, by go_num, Lib.hid hst⟩
                case measure => simp [intOf]; omega
        · have hiz : ¬ (i : Int) < (n : Int) := by omega
          obtain rfl : i = n := by omega
          go_wp2_with fail
          go_ret
          exact ⟨_, rfl, Lib.hid HC.out.msgs, Lib.hid HC.out.bl⟩
end Go.Proofs.Ytogacjjgfpkdfaa.Aux
