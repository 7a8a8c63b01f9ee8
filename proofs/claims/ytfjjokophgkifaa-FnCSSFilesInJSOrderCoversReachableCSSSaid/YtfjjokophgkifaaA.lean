/- Contracts of functions that the law of this seat reaches, and plain facts; no condition. -/
import Derived.Test.YtfjjokophgkifaaProg
import Derived.WalkKit
import Derived.ProofKit
import Derived.OpenShut
import Derived.ShutString
import Derived.Test.YtfjjokophgkifaaAid
import Derived.Test.YtfjjokophgkifaaFl
import Derived.Test.YtfjjokophgkifaaStr
import Derived.Test.YtfjjokophgkifaaPb
import Derived.Test.YtfjjokophgkifaaQd
import Derived.Test.YtfjjokophgkifaaAm
import Derived.Test.YtfjjokophgkifaaMp
import Derived.Test.YtfjjokophgkifaaAid
import Derived.Maps.RangeRun
import Derived.Carry
import Derived.Laws.IdiomRangeMap
import Derived.ArgAppend
import Derived.Maps.Own
import Derived.WalkSmall
import Derived.WalkSpells
import Derived.Laws.Externs
import Derived.WalkLawsBesides
import Derived.LoopTactic
import Derived.Deep.CutBlock
import Derived.Deep.DeepCutAuto
import Derived.IntWalk
import Derived.Outline
import Derived.Deep.QuietTactic
import Derived.BigQuiet
import Derived.RegionTactic
import Derived.Deep.RegionHeld3
import Derived.Deep.MidRow
import Derived.StillTailTactics
import Derived.BigRegion
import Derived.Laws.OwnMore
import Derived.Laws.Rows
namespace Go.Proofs.Ytfjjokophgkifaa.Aux
open Go.ChangeShapes Go.WideShapes Go.ChangeAt Go.RowKit
open Go.ChangeMaps (open_string shut_string)
set_option linter.unusedVariables false
set_option linter.unusedSimpArgs false
open Fl Str Pb Qd Am Mp PlainAid
open Go.ChangeMaps
/-- The cells lie from o on in block b. -/
def At (w : World) (b o : Nat) (cs : List Value) : Prop := ∀ j v, cs[j]? = some v → w.cell? ⟨b, o + j, none⟩ = some v
/-- Cells stored one after another. -/
def putL (w : World) (b o : Nat) : List Value → World
  | [] => w
  | v :: vs => putL (w.setCell ⟨b, o, none⟩ v) b (o + 1) vs
/-- Block b, made by the call, of n cells. -/
def Blk (w : World) (b : Nat) (t : TypeId) (n : Nat) : Prop := ∃ cur : Array Value, w.heap[b]? = some (.cells cur t (0, 0)) ∧ cur.size = n
theorem Blk.set {w : World} {b n : Nat} {t : TypeId} (h : Blk w b t n) (o : Nat) (v : Value) : Blk (w.setCell ⟨b, o, none⟩ v) b t n := by
  obtain ⟨cur, h1, h2⟩ := h
  exact ⟨_, heap_setCell_same _ _ _ _ _ _ h1, by simpa using h2⟩
theorem Blk.cell_set {w : World} {b n : Nat} {t : TypeId} (h : Blk w b t n) {o : Nat} (ho : o < n) (v : Value) : (w.setCell ⟨b, o, none⟩ v).cell? ⟨b, o, none⟩ = some v := by
  obtain ⟨cur, h1, h2⟩ := h
  rw [cell_of_row _ _ o _ _ _ (heap_setCell_same _ _ _ _ _ _ h1)]
  simp [h2, ho]
theorem put_other {b : Nat} {p : Addr} : ∀ (vs : List Value) (w : World) (o : Nat), (p.block ≠ b ∨ p.off < o ∨ o + vs.length ≤ p.off) → (putL w b o vs).cell? p = w.cell? p := by
  intro vs
  induction vs with
  | nil => intro w o _; rfl
  | cons v vs ih =>
    intro w o h
    rw [putL, ih _ _ (by rcases h with h | h | h; exact .inl h; exact .inr (.inl (by omega)); exact .inr (.inr (by simp at h; omega)))]
    exact World.cell?_setCell_other w ⟨b, o, none⟩ _ v (fun e => by subst e; simp at h; omega)
theorem put_at {b n : Nat} {t : TypeId} : ∀ (vs : List Value) (w : World) (o : Nat), Blk w b t n → o + vs.length ≤ n → At (putL w b o vs) b o vs ∧ Blk (putL w b o vs) b t n := by
  intro vs
  induction vs with
  | nil => intro w o h _; exact ⟨fun j v hj => (by simp at hj), h⟩
  | cons v vs ih =>
    intro w o h hn
    simp only [List.length_cons] at hn
    obtain ⟨h1, h2⟩ := ih (w.setCell ⟨b, o, none⟩ v) (o + 1) (h.set o v) (by omega)
    rw [putL]
    refine ⟨fun j u hj => ?_, h2⟩
    cases j with
    | zero =>
      cases hj
      rw [Nat.add_zero, put_other vs _ _ (.inr (.inl (by simp)))]
      exact h.cell_set (by omega) _
    | succ j =>
      have := h1 j u (by simpa using hj)
      rwa [show o + (j + 1) = o + 1 + j by omega]
theorem put_size {b : Nat} : ∀ (vs : List Value) (w : World) (o : Nat), (putL w b o vs).heap.size = w.heap.size := by
  intro vs
  induction vs with
  | nil => intro w o; rfl
  | cons v vs ih => intro w o; rw [putL, ih]; simp [World.setCell]
theorem blk_made (w : World) (t : TypeId) (cs : Array Value) (n : Nat) : Blk (w.alloc (.cells (madeCells cs n) t)) w.heap.size t n := ⟨_, heap_alloc_new _ _, size_madeCells _ _⟩
theorem blk_lt {w : World} {b n : Nat} {t : TypeId} (h : Blk w b t n) : b < w.heap.size := by
  obtain ⟨cur, h1, _⟩ := h
  exact Classical.byContradiction fun hn => by rw [Array.getElem?_eq_none (by omega)] at h1; cases h1
theorem blk_ex {w : World} {b n : Nat} {t : TypeId} (h : Blk w b t n) {o : Nat} (ho : o < n) : ∃ v, w.cell? ⟨b, o, none⟩ = some v := by
  obtain ⟨cur, h1, h2⟩ := h
  rw [cell_of_row _ _ o _ _ _ h1, Array.getElem?_eq_getElem (by omega)]
  exact ⟨_, rfl⟩
theorem blk_fz {w : World} {b n : Nat} {t : TypeId} (h : Blk w b t n) (o : Nat) : w.frozen? ⟨b, o, none⟩ = false := by
  obtain ⟨cur, h1, _⟩ := h
  exact frozen_of_row _ _ o _ _ h1
theorem blk_below {w w' : World} {b n B : Nat} {t : TypeId} (h : Blk w b t n) (hb : Below B w w') (hB : b < B) : Blk w' b t n := by
  obtain ⟨cur, h1, h2⟩ := h
  exact ⟨cur, (hb.block b hB).trans h1, h2⟩
theorem put_below {b B : Nat} {w0 : World} : ∀ (vs : List Value) (w : World) (o : Nat), Below B w0 w → B ≤ b → Below B w0 (putL w b o vs) := by
  intro vs
  induction vs with
  | nil => intro w o h _; exact h
  | cons v vs ih => intro w o h hB; exact ih _ _ (h.setCell hB _) hB
theorem at_keep {w w' : World} {b o : Nat} {cs : List Value} (h : At w b o cs) (hk : ∀ p v, w.cell? ⟨b, p, none⟩ = some v → o ≤ p → p < o + cs.length → w'.cell? ⟨b, p, none⟩ = some v) : At w' b o cs := fun j v hj => hk _ v (h j v hj) (by omega) (by have := (List.getElem?_eq_some_iff.1 hj).1; omega)
theorem at_put {w : World} {b o b2 o2 : Nat} {cs vs : List Value} (h : At w b o cs) (hn : b ≠ b2 ∨ o + cs.length ≤ o2 ∨ o2 + vs.length ≤ o) : At (putL w b2 o2 vs) b o cs :=
  at_keep h fun p v hp h1 h2 => by
    rw [put_other vs w o2 (by rcases hn with hn | hn | hn; exact .inl hn; exact .inr (.inl (by simp; omega)); exact .inr (.inr (by simp; omega)))]
    exact hp
theorem put_heap {b k : Nat} (hk : k ≠ b) : ∀ (vs : List Value) (w : World) (o : Nat), (putL w b o vs).heap[k]? = w.heap[k]? := by
  intro vs
  induction vs with
  | nil => intro w o; rfl
  | cons v vs ih => intro w o; rw [putL, ih]; exact Below.heap_setCell _ _ _ _ hk
theorem blk_ne {w : World} {b b2 n n2 : Nat} {t t2 : TypeId} (h : Blk w b t n) (h2 : Blk w b2 t2 n2) (ht : t ≠ t2) : b ≠ b2 := by
  rintro rfl
  obtain ⟨_, q1, _⟩ := h
  obtain ⟨_, q2, _⟩ := h2
  rw [q1] at q2
  injection q2 with q2
  injection q2 with _ q2
  exact ht q2
theorem blk_put {w : World} {b b2 n o : Nat} {t : TypeId} (h : Blk w b t n) (hb : b ≠ b2) (vs : List Value) : Blk (putL w b2 o vs) b t n := by
  obtain ⟨cur, q1, q2⟩ := h
  exact ⟨cur, (put_heap hb vs w o).trans q1, q2⟩
theorem cell_sc1 {w : World} {a : Addr} {v x : Value} {b o : Nat} (h : w.cell? a = some v) (hne : a.block ≠ b) : (w.setCell ⟨b, o, none⟩ x).cell? a = some v := by
  rw [World.cell?_setCell_other w ⟨b, o, none⟩ _ x (fun e => hne (by rw [← e]))]
  exact h
theorem cell_dr {w : World} {a : Addr} {v : Value} (h : w.cell? a = some v) : w.drew.cell? a = some v := h
/-- The block of an appended value: the old one, or a new one, and then nothing old changes. -/
theorem app_keep {P : Program} (w : World) {t ty e : TypeId} {i : TypeInfo} {z : Value} {size bytes base : Nat} (ht : P.underlying t = some (.slice e)) (hi : P.info? e = some i) (hz : i.zero = some z)
    (hsize : i.size = size) (hby : i.bytes = bytes) (hzs : z.cells.size = size) (hpos : 0 < size) {v : Value} {n : Nat} {xs : List Value} (hown : w.ownsRow base e size v n xs)
    (a : Addr) (m c : Nat) (news : List Value) (hl : news.length = m * size) (hnews : ∀ j u, news[j]? = some u → w.cell? (a.add j) = some u) (h1 : ∀ u ∈ news, u.oneCell' = true)
    (h63 : n + m ≤ maxLen) (hbytes : (n + m) * bytes ≤ 140737488355328) (hbase : base ≤ w.heap.size) :
    ∃ v' w', (Builtin.append_ #[t, t] ty #[v, .slice (some a) m c]).run P w = .ok v' w' ∧ w'.ownsRow base e size v' (n + m) (xs ++ news) ∧ w.grownBy w' v.ownBlock ∧ (v'.ownBlock = v.ownBlock ∨ (w.grownBy w' none ∧ ∀ k, v'.ownBlock = some k → w.heap.size ≤ k)) := by
  obtain ⟨v', w', hr, h2, h3, h4⟩ := Am.app_many (P := P) w (ty := ty) ht hi hz hsize hby hzs hpos hown a m c news hl hnews h1 h63 hbytes hbase
  refine ⟨v', w', hr, h2, h3, ?_⟩
  have ho := hown
  rcases hown.2 with ⟨rfl, hn⟩ | ⟨g, cap, cur, rfl, hbg, hg, hnc, hcm, hcs, htake⟩
  · rcases h4 with h4 | h4
    · exact .inl h4
    · exact .inr ⟨h3, h4⟩
  · by_cases hroom : n + m ≤ cap
    · left
      have hfit : n * i.size + news.length ≤ cur.size := by
        rw [hsize, hl, hcs, ← Nat.add_mul]
        exact Nat.mul_le_mul_right _ hroom
      have hr2 := run_append_room (P := P) w t ty e i ht hi g n cap cur hg a m c news (by rw [hsize]; exact hl) hnews h1 hroom hfit
      rw [hr2] at hr
      injection hr with e1 e2
      subst e1
      rfl
    · right
      have hr2 := run_append_grow (P := P) w t ty e i z ht hi hz ⟨g, 0, none⟩ n cap xs (by rw [hsize]; exact ho.1) (ho.cells (g := g) rfl) a m c news (by rw [hsize]; exact hl) hnews (by omega) (by simp only [maxLen] at h63; omega) (growslice_fits (by omega) (by rw [hby]; exact hbytes))
      rw [hr2] at hr
      injection hr with e1 e2
      subst e1 e2
      refine ⟨⟨rfl, rfl, rfl, by simp, fun k hk _ => ?_⟩, fun k hk => ?_⟩
      · exact Below.heap_alloc w.drew _ k hk
      · simp [Value.ownBlock] at hk
        omega
def Seg (xs : List Value) (o : Nat) (cs : List Value) : Prop := ∀ j v, cs[j]? = some v → xs[o + j]? = some v
theorem seg_left {xs ys cs : List Value} {o : Nat} (h : Seg xs o cs) : Seg (xs ++ ys) o cs := fun j v hj => by
  have h1 := h j v hj
  rw [List.getElem?_append_left ((List.getElem?_eq_some_iff.1 h1).1)]
  exact h1
theorem seg_end {xs cs : List Value} {o : Nat} (h : xs.length = o) : Seg (xs ++ cs) o cs := fun j v hj => by
  rw [List.getElem?_append_right (by omega), show o + j - xs.length = j by omega]
  exact hj
/-- Blocks of type t alone. -/
def Sep (S : Nat → Prop) (w : World) (t : TypeId) : Prop := ∀ k, S k → ∃ cur, w.heap[k]? = some (.cells cur t (0, 0))
theorem sep_own {w : World} {base size n : Nat} {e : TypeId} {v : Value} {xs : List Value} (h : w.ownsRow base e size v n xs) : Sep (fun k => v.ownBlock = some k) w e := by
  intro k hk
  rcases h.2 with ⟨rfl, _⟩ | ⟨g, cap, cur, rfl, _, hg, _⟩
  · cases hk
  · simp [Value.ownBlock] at hk
    subst hk
    exact ⟨_, hg⟩
theorem sep_block {S : Nat → Prop} {w w' : World} {t t2 : TypeId} {b : Nat} {cur : Array Value} (hc : Chg S w w') (hs : Sep S w t) (hb : w.heap[b]? = some (.cells cur t2 (0, 0))) (ht : t2 ≠ t) : w'.heap[b]? = w.heap[b]? := by
  refine hc.block b (Classical.byContradiction fun hn => by rw [Array.getElem?_eq_none (by omega)] at hb; cases hb) fun h => ?_
  obtain ⟨_, q⟩ := hs b h
  rw [hb] at q
  injection q with q
  injection q with _ q
  exact ht q
theorem at_heap {w w' : World} {b o : Nat} {cs : List Value} (h : At w b o cs) (hb : w'.heap[b]? = w.heap[b]?) : At w' b o cs := fun j v hj => (World.cell?_of_block (a := ⟨b, o + j, none⟩) hb).trans (h j v hj)
theorem blk_chg {S : Nat → Prop} {w w' : World} {t t2 : TypeId} {b n : Nat} (hc : Chg S w w') (hs : Sep S w t) (hb : Blk w b t2 n) (ht : t2 ≠ t) : Blk w' b t2 n ∧ w'.heap[b]? = w.heap[b]? := by
  obtain ⟨cur, h1, h2⟩ := hb
  have := sep_block hc hs h1 ht
  exact ⟨⟨cur, this.trans h1, h2⟩, this⟩
theorem chg_none {w w' : World} (h : Below w.heap.size w w') : Chg (fun _ => False) w w' := Chg.of_below h (fun i h1 h2 => by omega)
theorem sep_none {w : World} {t : TypeId} : Sep (fun _ => False) w t := fun _ h => h.elim
theorem owns_below {w w' : World} {base size n : Nat} {e : TypeId} {v : Value} {xs : List Value} (h : w.ownsRow base e size v n xs) (hb : Below w.heap.size w w') : w'.ownsRow base e size v n xs := (chg_none hb).owns h (fun _ _ h => h)
theorem cells_at {w : World} {sb : Nat} {cs : List Value} {t : TypeId} (hs : w.heap[sb]? = some (.cells cs.toArray t (0, 0))) : ∀ j u, cs[j]? = some u → w.cell? ((⟨sb, 0, none⟩ : Addr).add j) = some u := by
  intro j u hj
  have e : (⟨sb, 0, none⟩ : Addr).add j = ⟨sb, j, none⟩ := by unfold Addr.add; simp; try omega
  rw [e, cell_of_row w sb j _ _ _ hs]
  simpa using hj
theorem own_slice {w : World} {base size n : Nat} {e : TypeId} {v : Value} {xs : List Value} (h : w.ownsRow base e size v n xs) : ∃ a c, v = .slice a n c := by
  rcases h.2 with ⟨rfl, rfl⟩ | ⟨g, cap, cur, rfl, _⟩
  · exact ⟨_, _, rfl⟩
  · exact ⟨_, _, rfl⟩
theorem own_len {w : World} {base size n : Nat} {e : TypeId} {v : Value} {xs : List Value} (h : w.ownsRow base e size v n xs) : xs.length = n * size := h.1
theorem step_app {P : Program} {ops : Array Oper} {o : Oper} {a : Act} {w : World} {K : Act → World → Prop} {Q : Exit → Act → World → Prop} {F : Prop} (hg : o.guard = none) (s x : Operand) (ts : Array TypeId)
    (ho : o.op = .call { callee := .builtin .append, args := #[s, x], argTypes := ts }) {v sv : Value} (hs : a.eval s = v) (hx : a.eval x = sv) {R : Value → World → Prop}
    (hr : ∃ v' w', (Builtin.append_ ts o.type #[v, sv]).run P w = .ok v' w' ∧ R v' w') (h : ∀ v' w', R v' w' → K (a.put o.dst v') w') :
    if Region.wanted o (yielded ops a.tmps) = true then Oper.wp P o a w K Q else F := by
  have hw : Region.wanted o (yielded ops a.tmps) = true := by simp [Region.wanted, hg]
  rw [if_pos hw]
  obtain ⟨v', w', hr, hR⟩ := hr
  unfold Oper.wp execOp
  simp only [ho, resolve, invoke, builtin, Sem.run_bind, Sem.run_pure, Result.andThen_ok, List.map_toArray, List.map_cons, List.map_nil, hs, hx, hr]
  exact h v' w' hR
theorem cell_al {w : World} {o : Obj} {a : Addr} {v : Value} (h : w.cell? a = some v) : (w.alloc o).cell? a = some v := by
  have := World.block_lt_of_cell? w a h
  rw [World.cell?_of_block (Below.heap_alloc w o a.block this)]
  exact h
theorem own_ne {w : World} {base size n : Nat} {e : TypeId} {v : Value} {xs : List Value} (h : w.ownsRow base e size v n xs) {b : Nat} (hb : w.heap.size ≤ b) : ¬ v.ownBlock = some b := fun e => by have := (h.lt b e).2; omega
theorem own_some {w : World} {base size n m c : Nat} {e : TypeId} {a : Option Addr} {xs : List Value} (h : w.ownsRow base e size (.slice a n c) m xs) (hm : 0 < m) : ∃ g, a = some ⟨g, 0, none⟩ ∧ g < w.heap.size ∧ base ≤ g := by
  rcases h.2 with ⟨_, e0⟩ | ⟨g, cap, cur, e0, h1, h2, _⟩
  · omega
  · injection e0 with e0 _ _
    exact ⟨g, e0, Classical.byContradiction fun hn => (by rw [Array.getElem?_eq_none (by omega)] at h2; cases h2), h1⟩
theorem own_at2 {w : World} {base size n m g c : Nat} {e : TypeId} {xs : List Value} (h : w.ownsRow base e size (.slice (some ⟨g, 0, none⟩) n c) m xs) {o : Nat} {cs : List Value} (hs : Seg xs o cs) : At w g o cs := fun j v hj => by
  have := h.cells (g := g) rfl (o + j) v (hs j v hj)
  have e : (⟨g, 0, none⟩ : Addr).add (o + j) = ⟨g, o + j, none⟩ := by unfold Addr.add; simp; try omega
  rwa [e] at this
theorem lt_of_cell {w : World} {b o : Nat} {v : Value} (h : w.cell? ⟨b, o, none⟩ = some v) : b < w.heap.size := World.block_lt_of_cell? w ⟨b, o, none⟩ h
theorem At.lt {w : World} {b o : Nat} {v : Value} {cs : List Value} (h : At w b o (v :: cs)) : b < w.heap.size := lt_of_cell (h 0 v rfl)
theorem At.below {w w' : World} {b o : Nat} {cs : List Value} (h : At w b o cs) (hlt : b < w.heap.size) (hb : Below w.heap.size w w') : At w' b o cs := fun j v hj => (hb.cell (p := ⟨b, o + j, none⟩) hlt).trans (h j v hj)
section
variable {H : Type} {enc : TypeId × Value → H} {w : World} {base : Nat} {held : Bool} {sp : Nat → Bool}
theorem open_fld {P : Program} {fs : Array Field} {xs : List (DataW H × List MemPlace)} {n : Nat} {cs : List Value} (hl : xs.length = fs.size)
    (hx : ∀ (i : Nat) (f : Field), fs[i]? = some f → DataW.trod enc P w base sp held n f.type ((cs.drop f.offset).take (P.cellsOf f.type)) = xs[i]?) (i t o c : Nat) (hf : ∃ f, fs[i]? = some f ∧ f.type = t ∧ f.offset = o) (hc : P.cellsOf t = c) :
    ∃ y, DataW.trod enc P w base sp held n t ((cs.drop o).take c) = some y := by
  obtain ⟨f, h1, rfl, rfl⟩ := hf
  subst hc
  have hi : i < xs.length := by
    rw [hl]
    exact (Array.getElem?_eq_some_iff.1 h1).1
  exact ⟨xs[i], (hx i f h1).trans (List.getElem?_eq_getElem hi)⟩
/-- The cells of an element that was read. -/
theorem at_of_cells {a : Addr} {k n : Nat} {cs : List Value} (hs : a.spot = none) (h : w.cells? base (a.add k) n = some cs) : At w a.block (a.off + k) cs := by
  obtain ⟨_, h1, h2⟩ := World.cells?_some h
  intro j v hj
  have hjn : j < n := by
    have := (List.getElem?_eq_some_iff.1 hj).1
    omega
  have := h2 j hjn
  rw [hj] at this
  obtain ⟨b, o, s⟩ := a
  simp only at hs
  subst hs
  have e : ∀ (o i : Nat), (⟨b, o, none⟩ : Addr).add i = ⟨b, o + i, none⟩ := fun o i => by unfold Addr.add; simp
  rw [e, e] at this
  exact this
theorem spot_of_cells {a : Addr} {n : Nat} {cs : List Value} (hn : 0 < n) (h : w.cells? base (a.add 0) n = some cs) : a.spot = none := by
  obtain ⟨_, h1, h2⟩ := World.cells?_some h
  have := h2 0 hn
  rw [List.getElem?_eq_getElem (by omega)] at this
  have hc := World.cell?_spot this
  obtain ⟨b, o, s⟩ := a
  simpa [Addr.add] using hc
theorem choose_lt {α : Type} (d : α) {n : Nat} {p : Nat → α → Prop} (h : ∀ i, i < n → ∃ x, p i x) : ∃ f : Nat → α, ∀ i, i < n → p i (f i) := by
  have : ∀ i, ∃ x, i < n → p i x := fun i => by
    by_cases hi : i < n
    · obtain ⟨x, hx⟩ := h i hi
      exact ⟨x, fun _ => hx⟩
    · exact ⟨d, fun h => absurd h hi⟩
  obtain ⟨f, hf⟩ := Classical.axiomOfChoice this
  exact ⟨f, hf⟩
end
/-- An import as it is handed in. -/
structure Imp where
  v : Bool
  t : Int
/-- A file as it is handed in: np parts, part j of nk j imports. -/
structure FD where
  np : Nat
  nk : Nat → Nat
  im : Nat → Nat → Imp
  has : Bool
  css : Int
def ImpsIn (w : World) (a : Option Addr) (n : Nat) (im : Nat → Imp) : Prop := (a = none → n = 0) ∧ ∀ k, k < n → ∃ b o, a = some ⟨b, o, none⟩ ∧ At w b (o + k * 2) [.bool (im k).v, .int .u32 (im k).t]
def PartsIn (w : World) (a : Option Addr) (n : Nat) (nk : Nat → Nat) (im : Nat → Nat → Imp) : Prop :=
  (a = none → n = 0) ∧ ∀ j, j < n → ∃ b o ia ic, a = some ⟨b, o, none⟩ ∧ w.cell? ⟨b, o + j, none⟩ = some (.slice ia (nk j) ic) ∧ ImpsIn w ia (nk j) (im j)
def fcell (f : FD) (pa : Option Addr) (pc : Nat) : List Value := [.slice pa f.np pc, .bool f.has, .int .u32 f.css]
def FilesIn (w : World) (a : Option Addr) (n : Nat) (F : Nat → FD) : Prop :=
  (a = none → n = 0) ∧ ∀ i, i < n → ∃ b o pa pc, a = some ⟨b, o, none⟩ ∧ At w b (o + i * 3) (fcell (F i) pa pc) ∧ PartsIn w pa (F i).np (F i).nk (F i).im
/-- The numbers fit. -/
def U32 (x : Int) : Prop := 0 ≤ x ∧ x ≤ 4294967295
def FW (n : Nat) (F : Nat → FD) : Prop := ∀ i, i < n → U32 (F i).css ∧ ∀ j, j < (F i).np → ∀ k, k < (F i).nk j → U32 ((F i).im j k).t
theorem ImpsIn.below {w w' : World} {a : Option Addr} {n : Nat} {im : Nat → Imp} (h : ImpsIn w a n im) (hb : Below w.heap.size w w') : ImpsIn w' a n im := by
  refine ⟨h.1, fun k hk => ?_⟩
  obtain ⟨b, o, e, hA⟩ := h.2 k hk
  exact ⟨b, o, e, hA.below (At.lt hA) hb⟩
theorem PartsIn.below {w w' : World} {a : Option Addr} {n : Nat} {nk : Nat → Nat} {im : Nat → Nat → Imp} (h : PartsIn w a n nk im) (hb : Below w.heap.size w w') : PartsIn w' a n nk im := by
  refine ⟨h.1, fun j hj => ?_⟩
  obtain ⟨b, o, ia, ic, e, h1, h2⟩ := h.2 j hj
  exact ⟨b, o, ia, ic, e, (hb.cell (p := ⟨b, o + j, none⟩) (lt_of_cell h1)).trans h1, h2.below hb⟩
theorem FilesIn.below {w w' : World} {a : Option Addr} {n : Nat} {F : Nat → FD} (h : FilesIn w a n F) (hb : Below w.heap.size w w') : FilesIn w' a n F := by
  refine ⟨h.1, fun i hi => ?_⟩
  obtain ⟨b, o, pa, pc, e, h1, h2⟩ := h.2 i hi
  exact ⟨b, o, pa, pc, e, h1.below (At.lt h1) hb, h2.below hb⟩
theorem ImpsIn.block {w : World} {a : Option Addr} {n : Nat} {im : Nat → Imp} (h : ImpsIn w a n im) (hn : 0 < n) : ∃ b o, a = some ⟨b, o, none⟩ ∧ b < w.heap.size ∧ ∀ k, k < n → At w b (o + k * 2) [.bool (im k).v, .int .u32 (im k).t] := by
  obtain ⟨b, o, e, h0⟩ := h.2 0 hn
  refine ⟨b, o, e, At.lt h0, fun k hk => ?_⟩
  obtain ⟨b', o', e', h1⟩ := h.2 k hk
  rw [e] at e'
  injection e' with e'
  injection e' with e1 e2
  subst e1 e2
  exact h1
theorem PartsIn.block {w : World} {a : Option Addr} {n : Nat} {nk : Nat → Nat} {im : Nat → Nat → Imp} (h : PartsIn w a n nk im) (hn : 0 < n) : ∃ b o, a = some ⟨b, o, none⟩ ∧ b < w.heap.size ∧ ∀ j, j < n → ∃ ia ic, w.cell? ⟨b, o + j, none⟩ = some (.slice ia (nk j) ic) ∧ ImpsIn w ia (nk j) (im j) := by
  obtain ⟨b, o, _, _, e, h0, _⟩ := h.2 0 hn
  refine ⟨b, o, e, lt_of_cell h0, fun j hj => ?_⟩
  obtain ⟨b', o', ia, ic, e', h1, h2⟩ := h.2 j hj
  rw [e] at e'
  injection e' with e'
  injection e' with e1 e2
  subst e1 e2
  exact ⟨ia, ic, h1, h2⟩
theorem FilesIn.block {w : World} {a : Option Addr} {n : Nat} {F : Nat → FD} (h : FilesIn w a n F) (hn : 0 < n) : ∃ b o, a = some ⟨b, o, none⟩ ∧ b < w.heap.size ∧ ∀ i, i < n → ∃ pa pc, At w b (o + i * 3) (fcell (F i) pa pc) ∧ PartsIn w pa (F i).np (F i).nk (F i).im := by
  obtain ⟨b, o, _, _, e, h0, _⟩ := h.2 0 hn
  refine ⟨b, o, e, At.lt h0, fun i hi => ?_⟩
  obtain ⟨b', o', pa, pc, e', h1, h2⟩ := h.2 i hi
  rw [e] at e'
  injection e' with e'
  injection e' with e1 e2
  subst e1 e2
  exact ⟨pa, pc, h1, h2⟩
theorem len2 {cs : List Value} (h : cs.length = 2) : ∃ a b, cs = [a, b] := by
  match cs, h with
  | [a, b], _ => exact ⟨a, b, rfl⟩
theorem len3 {cs : List Value} (h : cs.length = 3) : ∃ a b c, cs = [a, b, c] := by
  match cs, h with
  | [a, b, c], _ => exact ⟨a, b, c, rfl⟩
section
variable {H : Type} {enc : TypeId × Value → H} {w : World} {base : Nat} {held : Bool} {sp : Nat → Bool}
theorem open_imp {n : Nat} {cs : List Value} {x : DataW H × List MemPlace} (h : DataW.trod enc Try.prog w base sp held n 98 cs = some x) : ∃ z : Imp, cs = [.bool z.v, .int .u32 z.t] ∧ U32 z.t := by
  obtain ⟨xs, n, _, _, hlen, hl, hx⟩ := DataW.trod_struct Try.underlying98 h
  rw [show Try.prog.cellsOf 98 = 2 by kernel_rfl] at hlen
  obtain ⟨c0, c1, rfl⟩ := len2 hlen
  obtain ⟨_, h0⟩ := open_fld hl hx 0 4 0 1 ⟨_, rfl, rfl, rfl⟩ (by kernel_rfl)
  obtain ⟨_, h1⟩ := open_fld hl hx 1 23 1 1 ⟨_, rfl, rfl, rfl⟩ (by kernel_rfl)
  obtain ⟨b, e0, _⟩ := DataW.trod_bool Try.underlying4 h0
  obtain ⟨i, e1, _, hw⟩ := DataW.trod_int Try.underlying23 h1
  simp at e0 e1
  subst e0 e1
  exact ⟨⟨b, i⟩, rfl, Aid.u32_of hw⟩
theorem open_imps {n : Nat} {cs : List Value} {x : DataW H × List MemPlace} (h : DataW.trod enc Try.prog w base sp held n 96 cs = some x) :
    ∃ ia nk ic im, cs = [.slice ia nk ic] ∧ ImpsIn w ia nk im ∧ ∀ k, k < nk → U32 (im k).t := by
  rcases DataW.trod_slice Try.underlying96 h with ⟨h0, _⟩ | ⟨a, len, cap, elems, rest, n, _, h0, _, _, _, _, hlen, hel, _, _⟩
  · exact ⟨none, 0, 0, fun _ => ⟨false, 0⟩, h0, ⟨fun _ => rfl, fun i hi => absurd hi (Nat.not_lt_zero _)⟩, fun i hi => absurd hi (Nat.not_lt_zero _)⟩
  · rw [show Try.prog.cellsOf 98 = 2 by kernel_rfl] at hel
    have each : ∀ i, i < len → ∃ z : Imp, w.cells? base (a.add (i * 2)) 2 = some [.bool z.v, .int .u32 z.t] ∧ U32 z.t := by
      intro i hi
      have h1 := hel i hi
      rw [List.getElem?_eq_getElem (by omega), Option.bind_eq_some_iff] at h1
      obtain ⟨cs', hc, ht⟩ := h1
      obtain ⟨z, rfl, hu⟩ := open_imp ht
      exact ⟨z, hc, hu⟩
    obtain ⟨im, him⟩ := choose_lt ⟨false, 0⟩ each
    refine ⟨some a, len, cap, im, h0, ⟨(fun e => by cases e), fun i hi => ?_⟩, fun k hk => (him k hk).2⟩
    have h00 := (him 0 (by omega)).1
    rw [Nat.zero_mul] at h00
    have hs := spot_of_cells (by decide) h00
    refine ⟨a.block, a.off, ?_, at_of_cells hs (him i hi).1⟩
    obtain ⟨b, o, s⟩ := a
    simp only at hs
    rw [hs]
theorem open_parts {n : Nat} {cs : List Value} {x : DataW H × List MemPlace} (h : DataW.trod enc Try.prog w base sp held n 93 cs = some x) :
    ∃ pa np pc nk im, cs = [.slice pa np pc] ∧ PartsIn w pa np nk im ∧ ∀ j, j < np → ∀ k, k < nk j → U32 (im j k).t := by
  rcases DataW.trod_slice Try.underlying93 h with ⟨h0, _⟩ | ⟨a, len, cap, elems, rest, n, _, h0, _, _, _, _, hlen, hel, _, _⟩
  · exact ⟨none, 0, 0, fun _ => 0, fun _ _ => ⟨false, 0⟩, h0, ⟨fun _ => rfl, fun i hi => absurd hi (Nat.not_lt_zero _)⟩, fun i hi => absurd hi (Nat.not_lt_zero _)⟩
  · rw [show Try.prog.cellsOf 96 = 1 by kernel_rfl] at hel
    have each : ∀ i, i < len → ∃ z : Option Addr × Nat × Nat × (Nat → Imp), w.cells? base (a.add (i * 1)) 1 = some [.slice z.1 z.2.1 z.2.2.1] ∧ ImpsIn w z.1 z.2.1 z.2.2.2 ∧ ∀ k, k < z.2.1 → U32 (z.2.2.2 k).t := by
      intro i hi
      have h1 := hel i hi
      rw [List.getElem?_eq_getElem (by omega), Option.bind_eq_some_iff] at h1
      obtain ⟨cs', hc, ht⟩ := h1
      obtain ⟨ia, nk, ic, im, rfl, hu, hf⟩ := open_imps ht
      exact ⟨⟨ia, nk, ic, im⟩, hc, hu, hf⟩
    obtain ⟨f, hf⟩ := choose_lt ⟨none, 0, 0, fun _ => ⟨false, 0⟩⟩ each
    refine ⟨some a, len, cap, fun j => (f j).2.1, fun j => (f j).2.2.2, h0, ⟨(fun e => by cases e), fun i hi => ?_⟩, fun j hj => (hf j hj).2.2⟩
    have h00 := (hf 0 (by omega)).1
    rw [Nat.zero_mul] at h00
    have hs := spot_of_cells (by decide) h00
    refine ⟨a.block, a.off, (f i).1, (f i).2.2.1, ?_, ?_, (hf i hi).2.1⟩
    · obtain ⟨b, o, s⟩ := a
      simp only at hs
      rw [hs]
    · have := at_of_cells hs (hf i hi).1 0 _ rfl
      simpa using this
theorem open_file {n : Nat} {cs : List Value} {x : DataW H × List MemPlace} (h : DataW.trod enc Try.prog w base sp held n 95 cs = some x) :
    ∃ f : FD, ∃ pa pc, cs = fcell f pa pc ∧ PartsIn w pa f.np f.nk f.im ∧ U32 f.css ∧ ∀ j, j < f.np → ∀ k, k < f.nk j → U32 (f.im j k).t := by
  obtain ⟨xs, n, _, _, hlen, hl, hx⟩ := DataW.trod_struct Try.underlying95 h
  rw [show Try.prog.cellsOf 95 = 3 by kernel_rfl] at hlen
  obtain ⟨c0, c1, c2, rfl⟩ := len3 hlen
  obtain ⟨_, h0⟩ := open_fld hl hx 0 93 0 1 ⟨_, rfl, rfl, rfl⟩ (by kernel_rfl)
  obtain ⟨_, h1⟩ := open_fld hl hx 1 4 1 1 ⟨_, rfl, rfl, rfl⟩ (by kernel_rfl)
  obtain ⟨_, h2⟩ := open_fld hl hx 2 23 2 1 ⟨_, rfl, rfl, rfl⟩ (by kernel_rfl)
  obtain ⟨pa, np, pc, nk, im, e0, hp, hu⟩ := open_parts h0
  obtain ⟨b, e1, _⟩ := DataW.trod_bool Try.underlying4 h1
  obtain ⟨i, e2, _, hw⟩ := DataW.trod_int Try.underlying23 h2
  simp at e0 e1 e2
  subst e0 e1 e2
  exact ⟨⟨np, nk, im, b, i⟩, pa, pc, rfl, hp, Aid.u32_of hw, hu⟩
theorem open_files {t : TypeId} (ht : t = 22) {a : Option Addr} {len cap : Nat} {d : DataW H} {p : List MemPlace}
    (h : DataW.Trod enc Try.prog w base sp held t (.slice a len cap) d p) : ∃ F, FilesIn w a len F ∧ FW len F ∧ len ≤ cap ∧ cap ≤ maxLen := by
  subst ht
  obtain ⟨fuel, hf⟩ := h
  rcases DataW.trod_slice Try.underlying22 hf with ⟨h0, _⟩ | ⟨x, l, c, elems, rest, n, _, h0, _, _, hlc, hcm, hlen, hel, _, _⟩
  · simp [Value.cells] at h0
    obtain ⟨rfl, rfl, rfl⟩ := h0
    exact ⟨fun _ => ⟨0, fun _ => 0, fun _ _ => ⟨false, 0⟩, false, 0⟩, ⟨fun _ => rfl, fun i hi => absurd hi (Nat.not_lt_zero _)⟩, fun i hi => absurd hi (Nat.not_lt_zero _), Nat.le_refl _, Nat.zero_le _⟩
  · simp [Value.cells] at h0
    obtain ⟨rfl, rfl, rfl⟩ := h0
    rw [show Try.prog.cellsOf 95 = 3 by kernel_rfl] at hel
    have each : ∀ i, i < len → ∃ z : FD × Option Addr × Nat, w.cells? base (x.add (i * 3)) 3 = some (fcell z.1 z.2.1 z.2.2) ∧ PartsIn w z.2.1 z.1.np z.1.nk z.1.im ∧ U32 z.1.css ∧ ∀ j, j < z.1.np → ∀ k, k < z.1.nk j → U32 (z.1.im j k).t := by
      intro i hi
      have h1 := hel i hi
      rw [List.getElem?_eq_getElem (by omega), Option.bind_eq_some_iff] at h1
      obtain ⟨cs', hc, ht⟩ := h1
      obtain ⟨f, pa, pc, rfl, h1, h2, h3⟩ := open_file ht
      exact ⟨⟨f, pa, pc⟩, hc, h1, h2, h3⟩
    obtain ⟨f, hf⟩ := choose_lt ⟨⟨0, fun _ => 0, fun _ _ => ⟨false, 0⟩, false, 0⟩, none, 0⟩ each
    refine ⟨fun i => (f i).1, ⟨(fun e => by cases e), fun i hi => ?_⟩, fun i hi => (hf i hi).2.2, hlc, hcm⟩
    have h00 := (hf 0 (by omega)).1
    rw [Nat.zero_mul] at h00
    have hs := spot_of_cells (by decide) h00
    refine ⟨x.block, x.off, (f i).2.1, (f i).2.2, ?_, at_of_cells hs (hf i hi).1, (hf i hi).2.1⟩
    obtain ⟨b, o, s⟩ := x
    simp only at hs
    rw [hs]
end
end Go.Proofs.Ytfjjokophgkifaa.Aux
