/- Contracts of functions that the law of this seat reaches, and plain facts; no condition. -/
import Derived.Test.YtogacjjgfpkdfaaProg
import Derived.WalkKit
import Derived.ProofKit
import Derived.OpenShut
import Derived.ShutString
import Derived.Test.YtogacjjgfpkdfaaAid
import Derived.Test.YtogacjjgfpkdfaaFl
import Derived.Test.YtogacjjgfpkdfaaStr
import Derived.Test.YtogacjjgfpkdfaaPb
import Derived.Test.YtogacjjgfpkdfaaQd
import Derived.Test.YtogacjjgfpkdfaaAm
import Derived.Test.YtogacjjgfpkdfaaMp
import Derived.Test.YtogacjjgfpkdfaaK
import Derived.Test.YtogacjjgfpkdfaaAid
import Derived.Maps.RangeRun
import Derived.Carry
import Derived.Laws.IdiomRangeMap
import Derived.ArgAppend
import Derived.Maps.Own
import Derived.WalkSmall
import Derived.WalkSpells
import Derived.Laws.Externs
import Derived.WalkLawsBesides
import Derived.LoopTactic
import Derived.Deep.CutBlock
import Derived.Deep.DeepCutAuto
import Derived.IntWalk
import Derived.Outline
import Derived.Deep.QuietTactic
import Derived.BigQuiet
import Derived.RegionTactic
import Derived.Deep.RegionHeld3
import Derived.Deep.MidRow
import Derived.StillTailTactics
import Derived.BigRegion
import Derived.Laws.OwnMore
import Derived.Laws.Rows
namespace Go.Proofs.Ytogacjjgfpkdfaa.Aux
open Go.ChangeShapes Go.WideShapes Go.ChangeAt Go.RowKit
open Go.ChangeMaps (open_string shut_string)
set_option linter.unusedVariables false
set_option linter.unusedSimpArgs false
open Fl Str Pb Qd Am Mp PlainAid Aux
open Go.ChangeMaps
theorem info50 : (Try.prog.info? 50).map (fun i => (i.zero, i.size, i.bytes)) = some (some (.agg #[.string ⟨#[]⟩, .pointer none]), 2, 24) := by kernel_rfl
theorem info52 : (Try.prog.info? 52).map (fun i => (i.zero, i.size, i.bytes)) = some (some (.agg #[.string ⟨#[]⟩, .string ⟨#[]⟩, .string ⟨#[]⟩, .pointer none, .slice none 0 0, .nilIface]), 6, 96) := by kernel_rfl
theorem put_heap {b k : Nat} (hk : k ≠ b) : ∀ (vs : List Value) (w : World) (o : Nat), (putL w b o vs).heap[k]? = w.heap[k]? := by
  intro vs
  induction vs with
  | nil => intro w o; rfl
  | cons v vs ih => intro w o; rw [putL, ih]; exact Below.heap_setCell _ _ _ _ hk
theorem aloc_ptr {w : World} {v : Value} {o : Option LocD} (h : ALoc w v o) : ∃ p, v = .pointer p := by
  cases o with
  | none => exact ⟨_, h⟩
  | some d => obtain ⟨b, _, e, _⟩ := h; exact ⟨_, e⟩
theorem aloc_put {w : World} {v : Value} {o : Option LocD} (h : ALoc w v o) {b n off : Nat} {t : TypeId} (hb : Blk w b t n) (ht : t ≠ 57) (vs : List Value) : ALoc (putL w b off vs) v o := by
  cases o with
  | none => exact h
  | some d =>
    obtain ⟨c, h1, h2, h3⟩ := h
    refine ⟨c, by rw [put_size]; exact h1, h2, ?_⟩
    obtain ⟨cur, q1, _⟩ := hb
    rw [put_heap (fun e => by subst e; rw [q1] at h3; injection h3 with h3; injection h3 with _ h3; exact ht h3)]
    exact h3
/-- Notes of the public kind in memory. -/
def ANotes (w : World) (a : Option Addr) (n : Nat) (nd : Nat → NoteD) : Prop :=
  (a = none ∧ n = 0) ∨ ∃ b, a = some ⟨b, 0, none⟩ ∧ Blk w b 50 (n * 2) ∧ ∀ i, i < n → ∃ p, At w b (i * 2) [.string (nd i).text, .pointer p] ∧ ALoc w (.pointer p) (nd i).loc.opt
theorem anotes_below {w w' : World} {a : Option Addr} {n : Nat} {nd : Nat → NoteD} (h : ANotes w a n nd) (hb : Below w.heap.size w w') : ANotes w' a n nd := by
  rcases h with h | ⟨b, e, h1, h2⟩
  · exact .inl h
  · refine .inr ⟨b, e, blk_below h1 hb (blk_lt h1), fun i hi => ?_⟩
    obtain ⟨p, q1, q2⟩ := h2 i hi
    exact ⟨p, q1.below (blk_lt h1) hb, q2.below hb⟩
theorem blk_ne {w : World} {b b2 n n2 : Nat} {t t2 : TypeId} (h : Blk w b t n) (h2 : Blk w b2 t2 n2) (ht : t ≠ t2) : b ≠ b2 := by
  rintro rfl
  obtain ⟨_, q1, _⟩ := h
  obtain ⟨_, q2, _⟩ := h2
  rw [q1] at q2
  injection q2 with q2
  injection q2 with _ q2
  exact ht q2
theorem blk_put {w : World} {b b2 n o : Nat} {t : TypeId} (h : Blk w b t n) (hb : b ≠ b2) (vs : List Value) : Blk (putL w b2 o vs) b t n := by
  obtain ⟨cur, q1, q2⟩ := h
  exact ⟨cur, (put_heap hb vs w o).trans q1, q2⟩
theorem anotes_put {w : World} {a : Option Addr} {n : Nat} {nd : Nat → NoteD} (h : ANotes w a n nd) {b m off : Nat} {t : TypeId} (hb : Blk w b t m) (ht : t ≠ 57) (ht2 : t ≠ 50) (vs : List Value) : ANotes (putL w b off vs) a n nd := by
  rcases h with h | ⟨c, e, h1, h2⟩
  · exact .inl h
  · have hne := blk_ne h1 hb (Ne.symm ht2)
    refine .inr ⟨c, e, blk_put h1 hne vs, fun i hi => ?_⟩
    obtain ⟨p, q1, q2⟩ := h2 i hi
    exact ⟨p, at_put q1 (.inl hne), aloc_put q2 hb ht vs⟩
/-- While a message's notes are built. -/
structure BN (w0 : World) (nb nl : Nat) (nd : Nat → NoteD) (j : Nat) (w : World) : Prop where
  bl : Below nb w0 w
  bk : Blk w nb 50 (nl * 2)
  at_ : ∀ i, i < j → ∃ p, At w nb (i * 2) [.string (nd i).text, .pointer p] ∧ ALoc w (.pointer p) (nd i).loc.opt
theorem BN.step {w0 w W : World} {nb nl j : Nat} {nd : Nat → NoteD} (h : BN w0 nb nl nd j w) (hj : j < nl) (hb : Below w.heap.size w W) {p : Option Addr} (hp : ALoc W (.pointer p) (nd j).loc.opt) :
    BN w0 nb nl nd (j + 1) (putL W nb (j * 2) [.string (nd j).text, .pointer p]) := by
  obtain ⟨h1, h2, h3⟩ := h
  have h2' := blk_below h2 hb (blk_lt h2)
  have hq := put_at [.string (nd j).text, .pointer p] W (j * 2) h2' (by simp; omega)
  refine ⟨put_below _ _ _ (h1.trans (hb.mono (Nat.le_of_lt (blk_lt h2)))) (Nat.le_refl _), hq.2, fun i hi => ?_⟩
  by_cases e : i = j
  · subst e; exact ⟨p, hq.1, aloc_put hp h2' (by decide) _⟩
  · obtain ⟨p', q1, q2⟩ := h3 i (by omega)
    exact ⟨p', at_put (q1.below (blk_lt h2) hb) (.inr (.inl (by simp; omega))), aloc_put (q2.below hb) h2' (by decide) _⟩
theorem BN.notes {w0 w : World} {nb nl : Nat} {nd : Nat → NoteD} (h : BN w0 nb nl nd nl w) : ANotes w (some ⟨nb, 0, none⟩) nl nd := .inr ⟨nb, rfl, h.bk, h.at_⟩
def acell (m : MD) (p : Option Addr) (na : Option Addr) (nc : Nat) : List Value := [.string m.id, .string m.plug, .string m.text, .pointer p, .slice na m.nl nc, .nilIface]
theorem acell_len (m : MD) (p : Option Addr) (na : Option Addr) (nc : Nat) : (acell m p na nc).length = 6 := rfl
/-- Messages of the public kind in memory. -/
def AMsg (w : World) (b i : Nat) (m : MD) : Prop := ∃ p na nc, At w b (i * 6) (acell m p na nc) ∧ ALoc w (.pointer p) m.loc.opt ∧ ANotes w na m.nl m.nd
/-- While the messages are built. -/
structure BO (w : World) (n : Nat) (M : Nat → MD) (i : Nat) (wr : World) : Prop where
  bl : Below w.heap.size w wr
  bk : Blk wr w.heap.size 52 (n * 6)
  at_ : ∀ k, k < i → AMsg wr w.heap.size k (M k)
theorem BO.step {w wr W : World} {n i : Nat} {M : Nat → MD} (h : BO w n M i wr) (hi : i < n) (hb : Below wr.heap.size wr W) {p na : Option Addr} {nc : Nat} (hp : ALoc W (.pointer p) (M i).loc.opt) (hN : ANotes W na (M i).nl (M i).nd) :
    BO w n M (i + 1) (putL W w.heap.size (i * 6) (acell (M i) p na nc)) := by
  obtain ⟨h1, h2, h3⟩ := h
  have h2' := blk_below h2 hb (blk_lt h2)
  have hq := put_at (acell (M i) p na nc) W (i * 6) h2' (by rw [acell_len]; omega)
  refine ⟨put_below _ _ _ (h1.trans (hb.mono h1.size)) (Nat.le_refl _), hq.2, fun k hk => ?_⟩
  by_cases e : k = i
  · subst e; exact ⟨p, na, nc, hq.1, aloc_put hp h2' (by decide) _, anotes_put hN h2' (by decide) (by decide) _⟩
  · obtain ⟨p', na', nc', a1, a2, a3⟩ := h3 k (by omega)
    exact ⟨p', na', nc', at_put (a1.below (blk_lt h2) hb) (.inr (.inl (by rw [acell_len]; omega))), aloc_put (a2.below hb) h2' (by decide) _, anotes_put (anotes_below a3 hb) h2' (by decide) (by decide) _⟩
def AMsgs (w : World) (b n : Nat) (M : Nat → MD) : Prop := Blk w b 52 (n * 6) ∧ ∀ i, i < n → AMsg w b i (M i)
def BP (n : Nat) (M : Nat → MD) (w : World) (e : Ending) (w' : World) : Prop := ∃ b, e = .returned (.slice (some ⟨b, 0, none⟩) n n) ∧ Hid (AMsgs w' b n M) ∧ Hid (Below w.heap.size w w')
theorem BO.msgs {w wr : World} {n : Nat} {M : Nat → MD} (h : BO w n M n wr) : AMsgs wr w.heap.size n M := ⟨h.bk, h.at_⟩
theorem cell_sc1 {w : World} {a : Addr} {v x : Value} {b o : Nat} (h : w.cell? a = some v) (hne : a.block ≠ b) : (w.setCell ⟨b, o, none⟩ x).cell? a = some v := by
  rw [World.cell?_setCell_other w ⟨b, o, none⟩ _ x (fun e => hne (by rw [← e]))]
  exact h
theorem cell_dr {w : World} {a : Addr} {v : Value} (h : w.cell? a = some v) : w.drew.cell? a = some v := h
set_option maxRecDepth 100000 in
set_option maxHeartbeats 40000000 in
theorem build_zero (a : Option Addr) (cap : Nat) (M : Nat → MD) (w : World) : Calls Try.prog 8 #[.slice a 0 cap] w (BP 0 M w) := by
  obtain ⟨cs, hcs⟩ : ∃ cs, (Value.agg #[.string ⟨#[]⟩, .string ⟨#[]⟩, .string ⟨#[]⟩, .pointer none, .slice none 0 0, .nilIface]).cells = cs := ⟨_, rfl⟩
  have hmk : ∀ w : World, (Instr.makeSlice 29 (.int .i64 0) (.int .i64 0)).run Try.prog w = .ok (.slice (some ⟨w.heap.size, 0, none⟩) 0 0) (w.alloc (.cells (madeCells cs (0 * 6)) 52)) := fun w => run_make_many (P := Try.prog) Try.underlying29 info52 hcs (by omega) 0 (by omega) w
  clear hcs
  go_enter Try.func8, Try.ntmps8
  go_wp2_with fail
  go_loopw [4] (fun s4 wr => s4 = .int .i64 0 ∧ Hid (Below w.heap.size w wr ∧ Blk wr w.heap.size 52 (0 * 6))) (fun _ _ => 0)
  case atStart => exact ⟨rfl, Lib.hid ⟨(Below.refl _ _).alloc (Nat.le_refl _) _, blk_made _ _ _ _⟩⟩
  case round =>
    obtain ⟨rfl, HB⟩ := hrel
    go_wp2_with fail
    go_ret
    exact ⟨_, rfl, Lib.hid ⟨HB.out.2, fun i hi => absurd hi (Nat.not_lt_zero _)⟩, Lib.hid HB.out.1⟩
set_option maxRecDepth 100000 in
set_option maxHeartbeats 40000000 in
theorem build8 (a : Option Addr) (n cap : Nat) (M : Nat → MD) (w : World) (h : MsgsIn w a n M) (hn20 : n ≤ 1048576) (hnl : ∀ i, i < n → (M i).nl ≤ 1048576) : Calls Try.prog 8 #[.slice a n cap] w (BP n M w) := by
  rcases Nat.eq_zero_or_pos n with h0 | hpos
  · subst h0
    exact build_zero a cap M w
  · obtain ⟨b, o, rfl, hA⟩ := MsgsIn.block h hpos
    have HA := Lib.hid hA
    have HNL := Lib.hid hnl
    clear hnl
    have hb : b < w.heap.size := by
      obtain ⟨_, _, hA0, _⟩ := hA 0 hpos
      exact At.lt hA0
    clear hA h
    obtain ⟨cs, hcs⟩ : ∃ cs, (Value.agg #[.string ⟨#[]⟩, .string ⟨#[]⟩, .string ⟨#[]⟩, .pointer none, .slice none 0 0, .nilIface]).cells = cs := ⟨_, rfl⟩
    have hmk := run_make_many (P := Try.prog) Try.underlying29 info52 hcs (by omega) n (by omega)
    clear hcs
    go_enter Try.func8, Try.ntmps8
    go_wp2_with fail
    go_loopw [4] (fun s4 wr => ∃ i : Nat, i ≤ n ∧ s4 = .int .i64 i ∧ Hid (BO w n M i wr)) (fun s4 _ => n - (intOf s4).toNat)
    case atStart => exact ⟨0, by omega, rfl, Lib.hid ⟨(Below.refl _ _).alloc (Nat.le_refl _) _, blk_made _ _ _ _, fun k hk => absurd hk (Nat.not_lt_zero _)⟩⟩
    case round =>
      obtain ⟨i, hi, rfl, HC⟩ := hrel
      clear hmk
      by_cases hlt : i < n
      · have hiz : (i : Int) < (n : Int) := by omega
        obtain ⟨na, nc, hA, hN⟩ := HA.out i hlt
        obtain ⟨m, hm⟩ : ∃ m, M i = m := ⟨_, rfl⟩
        have hnl := HNL.out i hlt
        rw [hm] at hA hN hnl
        obtain ⟨id, plug, text, ⟨p, ⟨file, ns, line, col, len, lt, sg⟩⟩, nl, nd⟩ := m
        obtain ⟨wo, hwo⟩ : ∃ wo, wo = wr := ⟨_, rfl⟩
        rw [← hwo] at HC ⊢
        clear hwo
        have HAo : Hid (At wo b (o + i * 12) (MD.cells ⟨id, plug, text, ⟨p, ⟨file, ns, line, col, len, lt, sg⟩⟩, nl, nd⟩ na nc)) := Lib.hid (At.below hA hb HC.out.bl)
        have hbo : b < wo.heap.size := Nat.lt_of_lt_of_le hb HC.out.bl.size
        have hnl20 : nl ≤ 1048576 := hnl
        have HM := Lib.hid hm
        have HN0 := Lib.hid hN
        clear hA hm hnl hN
        have c11 := HAo.out 11 _ rfl
        cases na with
        | none =>
          obtain rfl : nl = 0 := HN0.out.1 rfl
          have hneq : ∀ w : World, (binOp .neq 40 (.slice none 0 nc) (.slice none 0 0)).run Try.prog w = .ok (.bool false) w := fun w => run_neq_slice_nil_any w 40 44 _ _ _ _ _ Try.underlying40
          have hC : At wo b (o + i * 12) (MD.cells ⟨id, plug, text, ⟨p, ⟨file, ns, line, col, len, lt, sg⟩⟩, 0, nd⟩ none nc) := HAo.out
          have g0 := hC 0 _ rfl
          rw [Nat.add_zero] at g0
          have g1 := hC 1 _ rfl
          have g2 := hC 2 _ rfl
          have g3 := hC 3 _ rfl
          have g4 := hC 4 _ rfl
          have g5 := hC 5 _ rfl
          have g6 := hC 6 _ rfl
          have g7 := hC 7 _ rfl
          have g8 := hC 8 _ rfl
          have g9 := hC 9 _ rfl
          have g10 := hC 10 _ rfl
          have hbk := blk_below HC.out.bk (Below.refl _ _) (blk_lt HC.out.bk)
          obtain ⟨u0, e0⟩ := blk_ex hbk (o := i * 6) (by omega)
          have f0 := blk_fz hbk (i * 6)
          obtain ⟨u1, e1⟩ := blk_ex hbk (o := i * 6 + 1) (by omega)
          have f1 := blk_fz hbk (i * 6 + 1)
          obtain ⟨u2, e2⟩ := blk_ex hbk (o := i * 6 + 2) (by omega)
          have f2 := blk_fz hbk (i * 6 + 2)
          obtain ⟨u3, e3⟩ := blk_ex hbk (o := i * 6 + 3) (by omega)
          have f3 := blk_fz hbk (i * 6 + 3)
          obtain ⟨u4, e4⟩ := blk_ex hbk (o := i * 6 + 4) (by omega)
          have f4 := blk_fz hbk (i * 6 + 4)
          obtain ⟨u5, e5⟩ := blk_ex hbk (o := i * 6 + 5) (by omega)
          have f5 := blk_fz hbk (i * 6 + 5)
          have hob := blk_lt hbk
          have nb := Nat.ne_of_lt hb
          have hbr : b < wo.heap.size := Nat.lt_trans hb hob
          clear hC hbk
          go_wp2_with fail
          go_region_held3 (fun w' => w'.cell? ⟨b, o + i * 12, none⟩ = some (.string id) ∧ w'.cell? ⟨b, o + i * 12 + 1, none⟩ = some (.string plug) ∧ w'.cell? ⟨b, o + i * 12 + 2, none⟩ = some (.string text) ∧ w'.cell? ⟨b, o + i * 12 + 3, none⟩ = some (.bool p) ∧ w'.cell? ⟨b, o + i * 12 + 4, none⟩ = some (.string file) ∧ w'.cell? ⟨b, o + i * 12 + 5, none⟩ = some (.string ns) ∧ w'.cell? ⟨b, o + i * 12 + 6, none⟩ = some (.int .i64 line) ∧ w'.cell? ⟨b, o + i * 12 + 7, none⟩ = some (.int .i64 col) ∧ w'.cell? ⟨b, o + i * 12 + 8, none⟩ = some (.int .i64 len) ∧ w'.cell? ⟨b, o + i * 12 + 9, none⟩ = some (.string lt) ∧ w'.cell? ⟨b, o + i * 12 + 10, none⟩ = some (.string sg))
            (first | with_reducible exact ⟨cell_dr g0, cell_dr g1, cell_dr g2, cell_dr g3, cell_dr g4, cell_dr g5, cell_dr g6, cell_dr g7, cell_dr g8, cell_dr g9, cell_dr g10⟩ | with_reducible exact HS5.out | with_reducible assumption | (obtain ⟨t0, t1, t2, t3, t4, t5, t6, t7, t8, t9, t10⟩ := HS5.out; with_reducible exact ⟨(cell_sc1 (cell_sc1 (cell_sc1 (cell_sc1 (cell_sc1 (cell_sc1 t0 nb) nb) nb) nb) nb) nb), (cell_sc1 (cell_sc1 (cell_sc1 (cell_sc1 (cell_sc1 (cell_sc1 t1 nb) nb) nb) nb) nb) nb), (cell_sc1 (cell_sc1 (cell_sc1 (cell_sc1 (cell_sc1 (cell_sc1 t2 nb) nb) nb) nb) nb) nb), (cell_sc1 (cell_sc1 (cell_sc1 (cell_sc1 (cell_sc1 (cell_sc1 t3 nb) nb) nb) nb) nb) nb), (cell_sc1 (cell_sc1 (cell_sc1 (cell_sc1 (cell_sc1 (cell_sc1 t4 nb) nb) nb) nb) nb) nb), (cell_sc1 (cell_sc1 (cell_sc1 (cell_sc1 (cell_sc1 (cell_sc1 t5 nb) nb) nb) nb) nb) nb), (cell_sc1 (cell_sc1 (cell_sc1 (cell_sc1 (cell_sc1 (cell_sc1 t6 nb) nb) nb) nb) nb) nb), (cell_sc1 (cell_sc1 (cell_sc1 (cell_sc1 (cell_sc1 (cell_sc1 t7 nb) nb) nb) nb) nb) nb), (cell_sc1 (cell_sc1 (cell_sc1 (cell_sc1 (cell_sc1 (cell_sc1 t8 nb) nb) nb) nb) nb) nb), (cell_sc1 (cell_sc1 (cell_sc1 (cell_sc1 (cell_sc1 (cell_sc1 t9 nb) nb) nb) nb) nb) nb), (cell_sc1 (cell_sc1 (cell_sc1 (cell_sc1 (cell_sc1 (cell_sc1 t10 nb) nb) nb) nb) nb) nb)⟩))
            ((go_at_call 12
              refine (build12 ⟨p, ⟨file, ns, line, col, len, lt, sg⟩⟩ _).mono ?_
              rintro e w5 ⟨v, rfl, hv5, hb5, _⟩
              obtain ⟨q5, rfl⟩ := aloc_ptr hv5.out
              have e0' := (hb5.out.cell (p := ⟨w.heap.size, i * 6, none⟩) (by simpa using hob)).trans e0
              have f0' := (hb5.out.frozen (p := ⟨w.heap.size, i * 6, none⟩) (by simpa using hob)).trans f0
              have e1' := (hb5.out.cell (p := ⟨w.heap.size, i * 6 + 1, none⟩) (by simpa using hob)).trans e1
              have f1' := (hb5.out.frozen (p := ⟨w.heap.size, i * 6 + 1, none⟩) (by simpa using hob)).trans f1
              have e2' := (hb5.out.cell (p := ⟨w.heap.size, i * 6 + 2, none⟩) (by simpa using hob)).trans e2
              have f2' := (hb5.out.frozen (p := ⟨w.heap.size, i * 6 + 2, none⟩) (by simpa using hob)).trans f2
              have e3' := (hb5.out.cell (p := ⟨w.heap.size, i * 6 + 3, none⟩) (by simpa using hob)).trans e3
              have f3' := (hb5.out.frozen (p := ⟨w.heap.size, i * 6 + 3, none⟩) (by simpa using hob)).trans f3
              have e4' := (hb5.out.cell (p := ⟨w.heap.size, i * 6 + 4, none⟩) (by simpa using hob)).trans e4
              have f4' := (hb5.out.frozen (p := ⟨w.heap.size, i * 6 + 4, none⟩) (by simpa using hob)).trans f4
              have e5' := (hb5.out.cell (p := ⟨w.heap.size, i * 6 + 5, none⟩) (by simpa using hob)).trans e5
              have f5' := (hb5.out.frozen (p := ⟨w.heap.size, i * 6 + 5, none⟩) (by simpa using hob)).trans f5
              have HS5 : Hid ((fun w' => w'.cell? ⟨b, o + i * 12, none⟩ = some (.string id) ∧ w'.cell? ⟨b, o + i * 12 + 1, none⟩ = some (.string plug) ∧ w'.cell? ⟨b, o + i * 12 + 2, none⟩ = some (.string text) ∧ w'.cell? ⟨b, o + i * 12 + 3, none⟩ = some (.bool p) ∧ w'.cell? ⟨b, o + i * 12 + 4, none⟩ = some (.string file) ∧ w'.cell? ⟨b, o + i * 12 + 5, none⟩ = some (.string ns) ∧ w'.cell? ⟨b, o + i * 12 + 6, none⟩ = some (.int .i64 line) ∧ w'.cell? ⟨b, o + i * 12 + 7, none⟩ = some (.int .i64 col) ∧ w'.cell? ⟨b, o + i * 12 + 8, none⟩ = some (.int .i64 len) ∧ w'.cell? ⟨b, o + i * 12 + 9, none⟩ = some (.string lt) ∧ w'.cell? ⟨b, o + i * 12 + 10, none⟩ = some (.string sg)) w5) := Lib.hid ⟨(hb5.out.cell (p := ⟨b, o + i * 12, none⟩) (by simpa using hbr)).trans g0, (hb5.out.cell (p := ⟨b, o + i * 12 + 1, none⟩) (by simpa using hbr)).trans g1, (hb5.out.cell (p := ⟨b, o + i * 12 + 2, none⟩) (by simpa using hbr)).trans g2, (hb5.out.cell (p := ⟨b, o + i * 12 + 3, none⟩) (by simpa using hbr)).trans g3, (hb5.out.cell (p := ⟨b, o + i * 12 + 4, none⟩) (by simpa using hbr)).trans g4, (hb5.out.cell (p := ⟨b, o + i * 12 + 5, none⟩) (by simpa using hbr)).trans g5, (hb5.out.cell (p := ⟨b, o + i * 12 + 6, none⟩) (by simpa using hbr)).trans g6, (hb5.out.cell (p := ⟨b, o + i * 12 + 7, none⟩) (by simpa using hbr)).trans g7, (hb5.out.cell (p := ⟨b, o + i * 12 + 8, none⟩) (by simpa using hbr)).trans g8, (hb5.out.cell (p := ⟨b, o + i * 12 + 9, none⟩) (by simpa using hbr)).trans g9, (hb5.out.cell (p := ⟨b, o + i * 12 + 10, none⟩) (by simpa using hbr)).trans g10⟩))
          go_wp2_with fail
          go_roundw
          case rel =>
            have hst := BO.step (p := q5) (na := none) (nc := 0) (W := w5) HC.out hlt (below_of_drew hb5.out) (by rw [HM.out]; exact hv5.out) (by rw [HM.out]; exact .inl ⟨rfl, rfl⟩)
            rw [HM.out] at hst
            exact ⟨i + 1, by omega, by go_num, Lib.hid hst⟩
          case measure => simp [intOf]; omega
        | some y =>
          obtain ⟨cs2, hcs2⟩ : ∃ cs, (Value.agg #[.string ⟨#[]⟩, .pointer none]).cells = cs := ⟨_, rfl⟩
          have hmk2 := run_make_many (P := Try.prog) Try.underlying46 info50 hcs2 (by omega) nl (by omega)
          have hneq : ∀ w : World, (binOp .neq 40 (.slice (some y) nl nc) (.slice none 0 0)).run Try.prog w = .ok (.bool true) w := fun w => run_neq_slice_nil_any w 40 44 _ _ _ _ _ Try.underlying40
          clear hcs2
          go_wp2_with fail
          go_loopw [6] (fun s6 w2 => ∃ j : Nat, j ≤ nl ∧ s6 = .int .i64 j ∧ Hid (BN wo wo.heap.size nl nd j w2)) (fun s6 _ => nl - (intOf s6).toNat)
          case atStart => exact ⟨0, by omega, rfl, Lib.hid ⟨(Below.refl _ _).alloc (Nat.le_refl _) _, blk_made _ _ _ _, fun k hk => absurd hk (Nat.not_lt_zero _)⟩⟩
          case round =>
            obtain ⟨j, hj, rfl, HJ⟩ := hrel
            have HA2 : Hid (At wr b (o + i * 12) (MD.cells ⟨id, plug, text, ⟨p, ⟨file, ns, line, col, len, lt, sg⟩⟩, nl, nd⟩ (some y) nc)) := Lib.hid (At.below HAo.out hbo HJ.out.bl)
            clear c11
            have c11 := HA2.out 11 _ rfl
            by_cases hjl : j < nl
            · have hjz : (j : Int) < (nl : Int) := by omega
              obtain ⟨b2, o2, hy, hA3⟩ := NotesIn.block HN0.out (by omega)
              injection hy with hy
              subst hy
              have hb2 : b2 < w.heap.size := At.lt (hA3 j hjl)
              have hB := hA3 j hjl
              obtain ⟨x, hx⟩ : ∃ x, nd j = x := ⟨_, rfl⟩
              rw [hx] at hB
              obtain ⟨text2, ⟨p2, ⟨file2, ns2, line2, col2, len2, lt2, sg2⟩⟩⟩ := x
              have hb2o : b2 < wo.heap.size := Nat.lt_of_lt_of_le hb2 HC.out.bl.size
              have hC := At.below (At.below hB hb2 HC.out.bl) hb2o HJ.out.bl
              have d0 := hC 0 _ rfl
              rw [Nat.add_zero] at d0
              have d1 := hC 1 _ rfl
              have d2 := hC 2 _ rfl
              have d3 := hC 3 _ rfl
              have d4 := hC 4 _ rfl
              have d5 := hC 5 _ rfl
              have d6 := hC 6 _ rfl
              have d7 := hC 7 _ rfl
              have d8 := hC 8 _ rfl
              obtain ⟨u0, e0⟩ := blk_ex HJ.out.bk (o := j * 2) (by omega)
              have f0 := blk_fz HJ.out.bk (j * 2)
              obtain ⟨u1, e1⟩ := blk_ex HJ.out.bk (o := j * 2 + 1) (by omega)
              have f1 := blk_fz HJ.out.bk (j * 2 + 1)
              have hnb := blk_lt HJ.out.bk
              have HX := Lib.hid hx
              clear hC hB hA3 hx
              go_wp2_with fail
              have hbr : b < wr.heap.size := Nat.lt_trans hbo hnb
              have hb2r : b2 < wr.heap.size := Nat.lt_trans hb2o hnb
              have nb1 : b ≠ wo.heap.size := Nat.ne_of_lt hbo
              have nb2 : b2 ≠ wo.heap.size := Nat.ne_of_lt hb2o
              go_region_held3 (fun w' => w'.cell? ⟨b, o + i * 12 + 11, none⟩ = some (.slice (some ⟨b2, o2, none⟩) nl nc) ∧ w'.cell? ⟨b2, o2 + j * 9, none⟩ = some (.string text2) ∧ w'.cell? ⟨b2, o2 + j * 9 + 1, none⟩ = some (.bool p2) ∧ w'.cell? ⟨b2, o2 + j * 9 + 2, none⟩ = some (.string file2) ∧ w'.cell? ⟨b2, o2 + j * 9 + 3, none⟩ = some (.string ns2) ∧ w'.cell? ⟨b2, o2 + j * 9 + 4, none⟩ = some (.int .i64 line2) ∧ w'.cell? ⟨b2, o2 + j * 9 + 5, none⟩ = some (.int .i64 col2) ∧ w'.cell? ⟨b2, o2 + j * 9 + 6, none⟩ = some (.int .i64 len2) ∧ w'.cell? ⟨b2, o2 + j * 9 + 7, none⟩ = some (.string lt2) ∧ w'.cell? ⟨b2, o2 + j * 9 + 8, none⟩ = some (.string sg2))
                (first | with_reducible exact ⟨cell_dr c11, cell_dr d0, cell_dr d1, cell_dr d2, cell_dr d3, cell_dr d4, cell_dr d5, cell_dr d6, cell_dr d7, cell_dr d8⟩ | with_reducible exact HS5.out | with_reducible assumption | (obtain ⟨t0, t1, t2, t3, t4, t5, t6, t7, t8, t9⟩ := HS5.out; with_reducible exact ⟨(cell_sc1 (cell_sc1 t0 nb1) nb1), (cell_sc1 (cell_sc1 t1 nb2) nb2), (cell_sc1 (cell_sc1 t2 nb2) nb2), (cell_sc1 (cell_sc1 t3 nb2) nb2), (cell_sc1 (cell_sc1 t4 nb2) nb2), (cell_sc1 (cell_sc1 t5 nb2) nb2), (cell_sc1 (cell_sc1 t6 nb2) nb2), (cell_sc1 (cell_sc1 t7 nb2) nb2), (cell_sc1 (cell_sc1 t8 nb2) nb2), (cell_sc1 (cell_sc1 t9 nb2) nb2)⟩))
                ((go_at_call 12
                  refine (build12 ⟨p2, ⟨file2, ns2, line2, col2, len2, lt2, sg2⟩⟩ _).mono ?_
                  rintro e w5 ⟨v, rfl, hv5, hb5, _⟩
                  obtain ⟨q5, rfl⟩ := aloc_ptr hv5.out
                  have e0' := (hb5.out.cell (p := ⟨wo.heap.size, j * 2, none⟩) (by simpa using hnb)).trans e0
                  have f0' := (hb5.out.frozen (p := ⟨wo.heap.size, j * 2, none⟩) (by simpa using hnb)).trans f0
                  have e1' := (hb5.out.cell (p := ⟨wo.heap.size, j * 2 + 1, none⟩) (by simpa using hnb)).trans e1
                  have f1' := (hb5.out.frozen (p := ⟨wo.heap.size, j * 2 + 1, none⟩) (by simpa using hnb)).trans f1
                  have HS5 : Hid ((fun w' => w'.cell? ⟨b, o + i * 12 + 11, none⟩ = some (.slice (some ⟨b2, o2, none⟩) nl nc) ∧ w'.cell? ⟨b2, o2 + j * 9, none⟩ = some (.string text2) ∧ w'.cell? ⟨b2, o2 + j * 9 + 1, none⟩ = some (.bool p2) ∧ w'.cell? ⟨b2, o2 + j * 9 + 2, none⟩ = some (.string file2) ∧ w'.cell? ⟨b2, o2 + j * 9 + 3, none⟩ = some (.string ns2) ∧ w'.cell? ⟨b2, o2 + j * 9 + 4, none⟩ = some (.int .i64 line2) ∧ w'.cell? ⟨b2, o2 + j * 9 + 5, none⟩ = some (.int .i64 col2) ∧ w'.cell? ⟨b2, o2 + j * 9 + 6, none⟩ = some (.int .i64 len2) ∧ w'.cell? ⟨b2, o2 + j * 9 + 7, none⟩ = some (.string lt2) ∧ w'.cell? ⟨b2, o2 + j * 9 + 8, none⟩ = some (.string sg2)) w5) := Lib.hid ⟨(hb5.out.cell (p := ⟨b, o + i * 12 + 11, none⟩) (by simpa using hbr)).trans c11, (hb5.out.cell (p := ⟨b2, o2 + j * 9, none⟩) (by simpa using hb2r)).trans d0, (hb5.out.cell (p := ⟨b2, o2 + j * 9 + 1, none⟩) (by simpa using hb2r)).trans d1, (hb5.out.cell (p := ⟨b2, o2 + j * 9 + 2, none⟩) (by simpa using hb2r)).trans d2, (hb5.out.cell (p := ⟨b2, o2 + j * 9 + 3, none⟩) (by simpa using hb2r)).trans d3, (hb5.out.cell (p := ⟨b2, o2 + j * 9 + 4, none⟩) (by simpa using hb2r)).trans d4, (hb5.out.cell (p := ⟨b2, o2 + j * 9 + 5, none⟩) (by simpa using hb2r)).trans d5, (hb5.out.cell (p := ⟨b2, o2 + j * 9 + 6, none⟩) (by simpa using hb2r)).trans d6, (hb5.out.cell (p := ⟨b2, o2 + j * 9 + 7, none⟩) (by simpa using hb2r)).trans d7, (hb5.out.cell (p := ⟨b2, o2 + j * 9 + 8, none⟩) (by simpa using hb2r)).trans d8⟩))
              go_wp2_with fail
              go_roundw
              case rel =>
                have hst := BN.step HJ.out hjl (below_of_drew hb5.out) (by rw [HX.out]; exact hv5.out)
                rw [HX.out] at hst
                exact ⟨j + 1, by omega, by go_num, Lib.hid hst⟩
              case measure => simp [intOf]; omega
            · have hjz : ¬ (j : Int) < (nl : Int) := by omega
              have hje : j = nl := by omega
              have HJ2 : Hid (BN wo wo.heap.size nl nd nl wr) := by rw [hje] at HJ; exact HJ
              have hC : At wr b (o + i * 12) (MD.cells ⟨id, plug, text, ⟨p, ⟨file, ns, line, col, len, lt, sg⟩⟩, nl, nd⟩ (some y) nc) := HA2.out
              have g0 := hC 0 _ rfl
              rw [Nat.add_zero] at g0
              have g1 := hC 1 _ rfl
              have g2 := hC 2 _ rfl
              have g3 := hC 3 _ rfl
              have g4 := hC 4 _ rfl
              have g5 := hC 5 _ rfl
              have g6 := hC 6 _ rfl
              have g7 := hC 7 _ rfl
              have g8 := hC 8 _ rfl
              have g9 := hC 9 _ rfl
              have g10 := hC 10 _ rfl
              have hbk := blk_below HC.out.bk HJ.out.bl (blk_lt HC.out.bk)
              obtain ⟨u0, e0⟩ := blk_ex hbk (o := i * 6) (by omega)
              have f0 := blk_fz hbk (i * 6)
              obtain ⟨u1, e1⟩ := blk_ex hbk (o := i * 6 + 1) (by omega)
              have f1 := blk_fz hbk (i * 6 + 1)
              obtain ⟨u2, e2⟩ := blk_ex hbk (o := i * 6 + 2) (by omega)
              have f2 := blk_fz hbk (i * 6 + 2)
              obtain ⟨u3, e3⟩ := blk_ex hbk (o := i * 6 + 3) (by omega)
              have f3 := blk_fz hbk (i * 6 + 3)
              obtain ⟨u4, e4⟩ := blk_ex hbk (o := i * 6 + 4) (by omega)
              have f4 := blk_fz hbk (i * 6 + 4)
              obtain ⟨u5, e5⟩ := blk_ex hbk (o := i * 6 + 5) (by omega)
              have f5 := blk_fz hbk (i * 6 + 5)
              have hob := blk_lt hbk
              have nb := Nat.ne_of_lt hb
              have hbr : b < wr.heap.size := Nat.lt_trans hb hob
              clear hC hbk
              go_wp2_with fail
              go_region_held3 (fun w' => w'.cell? ⟨b, o + i * 12, none⟩ = some (.string id) ∧ w'.cell? ⟨b, o + i * 12 + 1, none⟩ = some (.string plug) ∧ w'.cell? ⟨b, o + i * 12 + 2, none⟩ = some (.string text) ∧ w'.cell? ⟨b, o + i * 12 + 3, none⟩ = some (.bool p) ∧ w'.cell? ⟨b, o + i * 12 + 4, none⟩ = some (.string file) ∧ w'.cell? ⟨b, o + i * 12 + 5, none⟩ = some (.string ns) ∧ w'.cell? ⟨b, o + i * 12 + 6, none⟩ = some (.int .i64 line) ∧ w'.cell? ⟨b, o + i * 12 + 7, none⟩ = some (.int .i64 col) ∧ w'.cell? ⟨b, o + i * 12 + 8, none⟩ = some (.int .i64 len) ∧ w'.cell? ⟨b, o + i * 12 + 9, none⟩ = some (.string lt) ∧ w'.cell? ⟨b, o + i * 12 + 10, none⟩ = some (.string sg))
                (first | with_reducible exact ⟨cell_dr g0, cell_dr g1, cell_dr g2, cell_dr g3, cell_dr g4, cell_dr g5, cell_dr g6, cell_dr g7, cell_dr g8, cell_dr g9, cell_dr g10⟩ | with_reducible exact HS5.out | with_reducible assumption | (obtain ⟨t0, t1, t2, t3, t4, t5, t6, t7, t8, t9, t10⟩ := HS5.out; with_reducible exact ⟨(cell_sc1 (cell_sc1 (cell_sc1 (cell_sc1 (cell_sc1 (cell_sc1 t0 nb) nb) nb) nb) nb) nb), (cell_sc1 (cell_sc1 (cell_sc1 (cell_sc1 (cell_sc1 (cell_sc1 t1 nb) nb) nb) nb) nb) nb), (cell_sc1 (cell_sc1 (cell_sc1 (cell_sc1 (cell_sc1 (cell_sc1 t2 nb) nb) nb) nb) nb) nb), (cell_sc1 (cell_sc1 (cell_sc1 (cell_sc1 (cell_sc1 (cell_sc1 t3 nb) nb) nb) nb) nb) nb), (cell_sc1 (cell_sc1 (cell_sc1 (cell_sc1 (cell_sc1 (cell_sc1 t4 nb) nb) nb) nb) nb) nb), (cell_sc1 (cell_sc1 (cell_sc1 (cell_sc1 (cell_sc1 (cell_sc1 t5 nb) nb) nb) nb) nb) nb), (cell_sc1 (cell_sc1 (cell_sc1 (cell_sc1 (cell_sc1 (cell_sc1 t6 nb) nb) nb) nb) nb) nb), (cell_sc1 (cell_sc1 (cell_sc1 (cell_sc1 (cell_sc1 (cell_sc1 t7 nb) nb) nb) nb) nb) nb), (cell_sc1 (cell_sc1 (cell_sc1 (cell_sc1 (cell_sc1 (cell_sc1 t8 nb) nb) nb) nb) nb) nb), (cell_sc1 (cell_sc1 (cell_sc1 (cell_sc1 (cell_sc1 (cell_sc1 t9 nb) nb) nb) nb) nb) nb), (cell_sc1 (cell_sc1 (cell_sc1 (cell_sc1 (cell_sc1 (cell_sc1 t10 nb) nb) nb) nb) nb) nb)⟩))
                ((go_at_call 12
                  refine (build12 ⟨p, ⟨file, ns, line, col, len, lt, sg⟩⟩ _).mono ?_
                  rintro e w5 ⟨v, rfl, hv5, hb5, _⟩
                  obtain ⟨q5, rfl⟩ := aloc_ptr hv5.out
                  have e0' := (hb5.out.cell (p := ⟨w.heap.size, i * 6, none⟩) (by simpa using hob)).trans e0
                  have f0' := (hb5.out.frozen (p := ⟨w.heap.size, i * 6, none⟩) (by simpa using hob)).trans f0
                  have e1' := (hb5.out.cell (p := ⟨w.heap.size, i * 6 + 1, none⟩) (by simpa using hob)).trans e1
                  have f1' := (hb5.out.frozen (p := ⟨w.heap.size, i * 6 + 1, none⟩) (by simpa using hob)).trans f1
                  have e2' := (hb5.out.cell (p := ⟨w.heap.size, i * 6 + 2, none⟩) (by simpa using hob)).trans e2
                  have f2' := (hb5.out.frozen (p := ⟨w.heap.size, i * 6 + 2, none⟩) (by simpa using hob)).trans f2
                  have e3' := (hb5.out.cell (p := ⟨w.heap.size, i * 6 + 3, none⟩) (by simpa using hob)).trans e3
                  have f3' := (hb5.out.frozen (p := ⟨w.heap.size, i * 6 + 3, none⟩) (by simpa using hob)).trans f3
                  have e4' := (hb5.out.cell (p := ⟨w.heap.size, i * 6 + 4, none⟩) (by simpa using hob)).trans e4
                  have f4' := (hb5.out.frozen (p := ⟨w.heap.size, i * 6 + 4, none⟩) (by simpa using hob)).trans f4
                  have e5' := (hb5.out.cell (p := ⟨w.heap.size, i * 6 + 5, none⟩) (by simpa using hob)).trans e5
                  have f5' := (hb5.out.frozen (p := ⟨w.heap.size, i * 6 + 5, none⟩) (by simpa using hob)).trans f5
                  have HS5 : Hid ((fun w' => w'.cell? ⟨b, o + i * 12, none⟩ = some (.string id) ∧ w'.cell? ⟨b, o + i * 12 + 1, none⟩ = some (.string plug) ∧ w'.cell? ⟨b, o + i * 12 + 2, none⟩ = some (.string text) ∧ w'.cell? ⟨b, o + i * 12 + 3, none⟩ = some (.bool p) ∧ w'.cell? ⟨b, o + i * 12 + 4, none⟩ = some (.string file) ∧ w'.cell? ⟨b, o + i * 12 + 5, none⟩ = some (.string ns) ∧ w'.cell? ⟨b, o + i * 12 + 6, none⟩ = some (.int .i64 line) ∧ w'.cell? ⟨b, o + i * 12 + 7, none⟩ = some (.int .i64 col) ∧ w'.cell? ⟨b, o + i * 12 + 8, none⟩ = some (.int .i64 len) ∧ w'.cell? ⟨b, o + i * 12 + 9, none⟩ = some (.string lt) ∧ w'.cell? ⟨b, o + i * 12 + 10, none⟩ = some (.string sg)) w5) := Lib.hid ⟨(hb5.out.cell (p := ⟨b, o + i * 12, none⟩) (by simpa using hbr)).trans g0, (hb5.out.cell (p := ⟨b, o + i * 12 + 1, none⟩) (by simpa using hbr)).trans g1, (hb5.out.cell (p := ⟨b, o + i * 12 + 2, none⟩) (by simpa using hbr)).trans g2, (hb5.out.cell (p := ⟨b, o + i * 12 + 3, none⟩) (by simpa using hbr)).trans g3, (hb5.out.cell (p := ⟨b, o + i * 12 + 4, none⟩) (by simpa using hbr)).trans g4, (hb5.out.cell (p := ⟨b, o + i * 12 + 5, none⟩) (by simpa using hbr)).trans g5, (hb5.out.cell (p := ⟨b, o + i * 12 + 6, none⟩) (by simpa using hbr)).trans g6, (hb5.out.cell (p := ⟨b, o + i * 12 + 7, none⟩) (by simpa using hbr)).trans g7, (hb5.out.cell (p := ⟨b, o + i * 12 + 8, none⟩) (by simpa using hbr)).trans g8, (hb5.out.cell (p := ⟨b, o + i * 12 + 9, none⟩) (by simpa using hbr)).trans g9, (hb5.out.cell (p := ⟨b, o + i * 12 + 10, none⟩) (by simpa using hbr)).trans g10⟩))
              go_wp2_with fail
              go_roundw
              case rel =>
                have hst := BO.step (p := q5) (na := (some ⟨wo.heap.size, 0, none⟩)) (nc := nl) (W := w5) HC.out hlt (HJ.out.bl.trans ((below_of_drew hb5.out).mono HJ.out.bl.size)) (by rw [HM.out]; exact hv5.out) (by rw [HM.out]; exact (anotes_below HJ2.out.notes (below_of_drew hb5.out)))
                rw [HM.out] at hst
                exact ⟨i + 1, by omega, by go_num, Lib.hid hst⟩
              case measure => simp [intOf]; omega
      · have hiz : ¬ (i : Int) < (n : Int) := by omega
        obtain rfl : i = n := by omega
        go_wp2_with fail
        go_ret
        exact ⟨_, rfl, Lib.hid HC.out.msgs, Lib.hid HC.out.bl⟩
end Go.Proofs.Ytogacjjgfpkdfaa.Aux
