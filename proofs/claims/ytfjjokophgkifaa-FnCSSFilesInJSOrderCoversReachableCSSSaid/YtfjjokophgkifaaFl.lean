/-
  Slices and blocks whose cells are given by a function of the index: what a walk is told of a slice that it reads, a block that the call made; no condition.
-/
import Derived.WalkKit
import Derived.ProofKit
import Derived.Laws.MakeOwn
import Derived.Laws.OwnMore
import Derived.Laws.Rows
import Derived.WalkSpells
import Derived.Lib.Hide
import Derived.Deep.Draws
namespace Go.Proofs.Fl
open Go.RowKit
set_option linter.unusedVariables false

theorem lt_of_cell {w : World} {a : Addr} {v : Value} (h : w.cell? a = some v) : a.block < w.heap.size := by
  by_cases hlt : a.block < w.heap.size
  · exact hlt
  · exfalso
    have : w.heap[a.block]? = none := Array.getElem?_eq_none (by omega)
    simp [World.cell?, this] at h
theorem add_none {x : Addr} {w : World} {v : Value} (h : w.cell? (x.add 0) = some v) : x.spot = none := by
  have := World.cell?_spot h
  obtain ⟨b, off, spot⟩ := x
  simpa [Addr.add] using this

/-- The slice at a, n cells of it, holds V 0, V 1, ... -/
def Fsl (w : World) (a : Option Addr) (n : Nat) (V : Nat → Value) : Prop :=
  (a = none → n = 0) ∧ ∀ i, i < n → ∃ b off, a = some ⟨b, off, none⟩ ∧ b < w.heap.size ∧ w.cell? ⟨b, off + i, none⟩ = some (V i)
section
variable {w w' : World} {a : Option Addr} {n : Nat} {V U : Nat → Value}
theorem Fsl.at (h : Fsl w a n V) (i : Nat) (hi : i < n) : ∃ b off, a = some ⟨b, off, none⟩ ∧ b < w.heap.size ∧ w.cell? ⟨b, off + i, none⟩ = some (V i) := h.2 i hi
theorem Fsl.cell {b off : Nat} (h : Fsl w (some ⟨b, off, none⟩) n V) (i : Nat) (hi : i < n) : w.cell? ⟨b, off + i, none⟩ = some (V i) := by
  obtain ⟨b', off', e, _, hc⟩ := h.2 i hi
  injection e with e
  injection e with e1 e2
  subst e1; subst e2
  exact hc
theorem Fsl.none_ (h : Fsl w none n V) : n = 0 := h.1 rfl
theorem Fsl.nil (w : World) (V : Nat → Value) : Fsl w none 0 V := ⟨fun _ => rfl, fun i hi => absurd hi (Nat.not_lt_zero _)⟩
theorem Fsl.empty (w : World) (a : Option Addr) (V : Nat → Value) : Fsl w a 0 V := ⟨fun _ => rfl, fun i hi => absurd hi (Nat.not_lt_zero _)⟩
theorem Fsl.lt {b off : Nat} (h : Fsl w (some ⟨b, off, none⟩) n V) (hl : 0 < n) : b < w.heap.size := lt_of_cell (h.cell 0 hl)
theorem Fsl.below (h : Fsl w a n V) (hb : Below w.heap.size w w') : Fsl w' a n V := by
  refine ⟨h.1, fun i hi => ?_⟩
  obtain ⟨b, off, e, hlt, hc⟩ := h.2 i hi
  exact ⟨b, off, e, Nat.lt_of_lt_of_le hlt hb.size, by rw [hb.cell (p := ⟨b, off + i, none⟩) hlt]; exact hc⟩
/-- Below some bound under which the slice lies. -/
theorem Fsl.belowB {B : Nat} (h : Fsl w a n V) (hB : ∀ x, a = some x → x.block < B) (hb : Below B w w') : Fsl w' a n V := by
  refine ⟨h.1, fun i hi => ?_⟩
  obtain ⟨b, off, e, hlt, hc⟩ := h.2 i hi
  have := hB _ e
  exact ⟨b, off, e, Nat.lt_of_lt_of_le hlt hb.size, by rw [hb.cell (p := ⟨b, off + i, none⟩) this]; exact hc⟩
theorem Fsl.alloc (h : Fsl w a n V) (o : Obj) : Fsl (w.alloc o) a n V := h.below ((Below.refl _ _).alloc (Nat.le_refl _) o)
theorem Fsl.drewN (h : Fsl w a n V) (k : Nat) : Fsl (w.drewN k) a n V := h
theorem Fsl.drew (h : Fsl w a n V) : Fsl w.drew a n V := h
theorem Fsl.congr (h : Fsl w a n V) (e : ∀ i, i < n → V i = U i) : Fsl w a n U :=
  ⟨h.1, fun i hi => by
    obtain ⟨b, off, e1, hlt, hc⟩ := h.2 i hi
    exact ⟨b, off, e1, hlt, by rw [hc, e i hi]⟩⟩
theorem Fsl.fewer {m : Nat} (h : Fsl w a n V) (hm : m ≤ n) : Fsl w a m V := ⟨fun e => by have := h.1 e; omega, fun i hi => h.2 i (by omega)⟩
theorem Fsl.setCell (h : Fsl w a n V) {p : Addr} (hp : ∀ x, a = some x → x.block ≠ p.block) (v : Value) : Fsl (w.setCell p v) a n V := by
  refine ⟨h.1, fun i hi => ?_⟩
  obtain ⟨b, off, e, hlt, hc⟩ := h.2 i hi
  refine ⟨b, off, e, by simpa [World.setCell] using hlt, ?_⟩
  rw [World.cell?_setCell_other w p _ v (fun e2 => hp _ e (by subst e2; rfl))]
  exact hc
end

/-- Block b, made by the call itself, is just the cells V 0 .. V (n - 1), none frozen. -/
def Fblk (w : World) (b : Nat) (t : TypeId) (n : Nat) (V : Nat → Value) : Prop := w.heap[b]? = some (.cells ((List.range n).map V).toArray t (0, 0))
def upd (V : Nat → Value) (i : Nat) (v : Value) : Nat → Value := fun j => if j = i then v else V j
theorem upd_same (V : Nat → Value) (i : Nat) (v : Value) : upd V i v i = v := by simp [upd]
theorem upd_other (V : Nat → Value) (i j : Nat) (v : Value) (h : j ≠ i) : upd V i v j = V j := by simp [upd, h]
section
variable {w w' : World} {b : Nat} {t : TypeId} {n : Nat} {V U : Nat → Value}
theorem Fblk.cell (h : Fblk w b t n V) (i : Nat) (hi : i < n) : w.cell? ⟨b, i, none⟩ = some (V i) := by
  rw [cell_of_row w b i _ t _ h]
  simp [hi]
theorem Fblk.frozen (h : Fblk w b t n V) (i : Nat) : w.frozen? ⟨b, i, none⟩ = false := frozen_of_row w b i _ t h
theorem Fblk.lt (h : Fblk w b t n V) : b < w.heap.size := by
  unfold Fblk at h
  exact Classical.byContradiction fun hn => by rw [Array.getElem?_eq_none (by omega)] at h; cases h
theorem Fblk.congr (h : Fblk w b t n V) (e : ∀ i, i < n → V i = U i) : Fblk w b t n U := by
  unfold Fblk at h ⊢
  rw [h]
  congr 3
  apply List.map_congr_left
  intro i hi
  exact e i (List.mem_range.1 hi)
theorem Fblk.set (h : Fblk w b t n V) (i : Nat) (v : Value) : Fblk (w.setCell ⟨b, i, none⟩ v) b t n (upd V i v) := by
  unfold Fblk at h ⊢
  rw [heap_setCell_same _ _ _ _ _ _ h]
  congr 2
  apply Array.ext_getElem?
  intro j
  rw [Array.getElem?_setIfInBounds]
  by_cases e : i = j
  · subst e
    by_cases hj : i < n <;> simp [upd, hj]
  · rw [if_neg e]
    by_cases hj : j < n
    · have e2 : ¬ j = i := fun h => e h.symm
      simp [upd, hj, e2]
    · simp [hj]
theorem Fblk.other (h : Fblk w b t n V) {a : Addr} (ha : a.block ≠ b) (v : Value) : Fblk (w.setCell a v) b t n V := by
  unfold Fblk at h ⊢
  rw [heap_setCell_other _ _ _ _ (fun e => ha e.symm)]
  exact h
theorem Fblk.alloc (h : Fblk w b t n V) (o : Obj) : Fblk (w.alloc o) b t n V := by
  have := h.lt
  unfold Fblk at h ⊢
  rw [Below.heap_alloc _ _ _ this]
  exact h
theorem Fblk.drew (h : Fblk w b t n V) : Fblk w.drew b t n V := h
theorem Fblk.drewN (h : Fblk w b t n V) (k : Nat) : Fblk (w.drewN k) b t n V := h
theorem Fblk.below {B : Nat} (h : Fblk w b t n V) (hb : Below B w w') (hlt : b < B) : Fblk w' b t n V := (hb.block b hlt).trans h
theorem Fblk.sl (h : Fblk w b t n V) : Fsl w (some ⟨b, 0, none⟩) n V :=
  ⟨(fun e => by cases e), fun i hi => ⟨b, 0, rfl, h.lt, by rw [Nat.zero_add]; exact h.cell i hi⟩⟩
theorem Fblk.made (w : World) (t : TypeId) (z : Value) (n : Nat) : Fblk (w.alloc (.cells (madeCells #[z] n) t)) w.heap.size t n (fun _ => z) := by
  unfold Fblk
  rw [heap_alloc_new]
  congr 2
  apply Array.ext'
  rw [toList_madeCells_one]
  apply List.ext_getElem (by simp)
  intro i h1 h2
  simp
end
theorem Fblk.of_cells (w : World) (t : TypeId) (cs : Array Value) : Fblk (w.alloc (.cells cs t)) w.heap.size t cs.size (fun i => cs.getD i undef) := by
  unfold Fblk
  rw [heap_alloc_new]
  congr 2
  apply Array.ext'
  apply List.ext_getElem (by simp)
  intro i h1 h2
  simp at h1
  simp [h1]

theorem Fblk.madeMany (w : World) (t : TypeId) (cs : Array Value) (n : Nat) : Fblk (w.alloc (.cells (madeCells cs n) t)) w.heap.size t n (fun i => (madeCells cs n).getD i undef) := by
  have h := Fblk.of_cells w t (madeCells cs n)
  rwa [size_madeCells] at h
theorem Fblk.madeManyAt {w : World} {t : TypeId} {cs : Array Value} {n s : Nat} (hs : w.heap.size = s) : Fblk (w.alloc (.cells (madeCells cs n) t)) s t n (fun i => (madeCells cs n).getD i undef) := by
  subst hs; exact Fblk.madeMany w t cs n
theorem Fblk.madeAt {w : World} {t : TypeId} {z : Value} {n s : Nat} (hs : w.heap.size = s) : Fblk (w.alloc (.cells (madeCells #[z] n) t)) s t n (fun _ => z) := by
  subst hs; exact Fblk.made w t z n
/-- make([]T, n), one cell an element. -/
theorem run_make_one {P : Program} {T E : TypeId} {z : Value} {bytes : Nat} (hu : P.underlying T = some (.slice E)) (hi : (P.info? E).map (fun i => (i.zero, i.size, i.bytes)) = some (some z, 1, bytes)) (hz : z.cells = #[z]) (hb : bytes ≤ 1024) (n : Nat) (hn : n ≤ 137438953472) (w : World) :
    (Instr.makeSlice T (.int .i64 n) (.int .i64 n)).run P w = .ok (.slice (some ⟨w.heap.size, 0, none⟩) n n) (w.alloc (.cells (madeCells #[z] n) E)) := by
  obtain ⟨i0, hi, hz0, hz1, hz2⟩ := info_parts hi
  have h := run_make (P := P) w T E i0 _ hu hi hz0 .i64 .i64 (n : Int) (n : Int) (by omega) (Int.le_refl _) (by
    rw [hz2]
    have h1 : (bytes : Int) * (n : Int) ≤ 1024 * (n : Int) := Int.mul_le_mul_of_nonneg_right (by omega) (by omega)
    omega) (by omega)
  rw [hz1, hz] at h
  simpa using h
/-- make([]T, n), an element of several cells. -/
theorem run_make_many {P : Program} {T E : TypeId} {z : Value} {cs : Array Value} {size bytes : Nat} (hu : P.underlying T = some (.slice E)) (hi : (P.info? E).map (fun i => (i.zero, i.size, i.bytes)) = some (some z, size, bytes)) (hz : z.cells = cs) (hb : bytes ≤ 1024) (n : Nat) (hn : n ≤ 137438953472) (w : World) :
    (Instr.makeSlice T (.int .i64 n) (.int .i64 n)).run P w = .ok (.slice (some ⟨w.heap.size, 0, none⟩) n n) (w.alloc (.cells (madeCells cs (n * size)) E)) := by
  obtain ⟨i0, hi, hz0, hz1, hz2⟩ := info_parts hi
  have h := run_make (P := P) w T E i0 _ hu hi hz0 .i64 .i64 (n : Int) (n : Int) (by omega) (Int.le_refl _) (by
    rw [hz2]
    have h1 : (bytes : Int) * (n : Int) ≤ 1024 * (n : Int) := Int.mul_le_mul_of_nonneg_right (by omega) (by omega)
    omega) (by omega)
  rw [hz1, hz] at h
  simpa using h

/-- A copy, k cells of it made. -/
def parV (V : Nat → Value) (z : Value) (k : Nat) : Nat → Value := fun j => if j < k then V j else z
theorem parV_zero (V : Nat → Value) (z : Value) : parV V z 0 = fun _ => z := by funext j; simp [parV]
theorem parV_set (V : Nat → Value) (z : Value) (k : Nat) : upd (parV V z k) k (V k) = parV V z (k + 1) := by
  funext j
  unfold upd parV
  by_cases e : j = k
  · subst e; simp
  · rw [if_neg e]
    by_cases h : j < k
    · rw [if_pos h, if_pos (by omega)]
    · rw [if_neg h, if_neg (by omega)]

/-- What a copying function of a slice hands back. -/
def Cop (w : World) (a : Option Addr) (n : Nat) (t : TypeId) (V : Nat → Value) (e : Ending) (w' : World) : Prop :=
  ∃ a' cap', e = .returned (.slice a' n cap') ∧ n ≤ cap' ∧ Fsl w' a' n V ∧ Below w.heap.size w w' ∧ (a = none ↔ a' = none) ∧ (a' = none ∧ cap' = 0 ∨ ∃ b, w.heap.size ≤ b ∧ a' = some ⟨b, 0, none⟩ ∧ Fblk w' b t n V ∧ cap' = n)
theorem Cop.nil {w : World} {n : Nat} {t : TypeId} {V : Nat → Value} (h : Fsl w none n V) : Cop w none n t V (.returned (.slice none 0 0)) w := by
  have hl := h.none_
  subst hl
  exact ⟨none, 0, rfl, Nat.le_refl _, h, Below.refl _ _, Iff.rfl, .inl ⟨rfl, rfl⟩⟩
theorem Cop.mk {w w' : World} {x : Addr} {n : Nat} {t : TypeId} {V : Nat → Value} {b : Nat} (hb : Fblk w' b t n V) (hlow : Below w.heap.size w w') (hge : w.heap.size ≤ b) :
    Cop w (some x) n t V (.returned (.slice (some ⟨b, 0, none⟩) n n)) w' :=
  ⟨_, _, rfl, Nat.le_refl _, hb.sl, hlow, by simp, .inr ⟨b, hge, rfl, hb, rfl⟩⟩

theorem of_cells {w : World} {x : Addr} {n : Nat} {V : Nat → Value} (hc : ∀ i, i < n → w.cell? (x.add i) = some (V i)) : Fsl w (some x) n V := by
  refine ⟨(fun e => by cases e), fun i hi => ?_⟩
  have hcell := hc i hi
  have hs := add_none (hc 0 (by omega))
  obtain ⟨b, off, spot⟩ := x
  simp only at hs
  subst hs
  have e : (⟨b, off, none⟩ : Addr).add i = ⟨b, off + i, none⟩ := by unfold Addr.add; simp
  rw [e] at hcell
  exact ⟨b, off, rfl, lt_of_cell hcell, hcell⟩
/-- A slice of strings that came in, as the shell tells it. -/
theorem of_strs {w : World} {a : Option Addr} {len cap : Nat} {ss : List ByteArray}
    (h : (a = none ∧ len = 0 ∧ cap = 0 ∧ ss = []) ∨
      ∃ x, a = some x ∧ len ≤ cap ∧ cap ≤ maxLen ∧ ss.length = cap ∧ (∀ i, i < ss.length → w.cell? (x.add i) = some (.string (ss.getD i ByteArray.empty))) ∧ ∀ s ∈ ss, s.size ≤ maxLen) :
    ∃ S : Nat → ByteArray, Fsl w a len (fun i => .string (S i)) ∧ (∀ i, i < len → (S i).size ≤ maxLen) ∧ len ≤ maxLen ∧ len ≤ cap := by
  rcases h with ⟨rfl, rfl, rfl, rfl⟩ | ⟨x, rfl, hl, hm, hz, hc, hw⟩
  · exact ⟨fun _ => ByteArray.empty, Fsl.nil _ _, fun i hi => absurd hi (Nat.not_lt_zero _), Nat.zero_le _, Nat.le_refl _⟩
  · refine ⟨fun i => ss.getD i ByteArray.empty, of_cells fun i hi => hc i (by omega), fun i hi => ?_, by omega, hl⟩
    have hi' : i < ss.length := by omega
    have : ss.getD i ByteArray.empty = ss[i] := by simp [List.getElem?_eq_getElem hi']
    show (ss.getD i ByteArray.empty).size ≤ maxLen
    rw [this]
    exact hw _ (List.getElem_mem hi')
/-- A slice of integers that came in. -/
theorem of_ints {k : IntKind} {w : World} {a : Option Addr} {len cap : Nat} {zs : List Int}
    (h : (a = none ∧ len = 0 ∧ cap = 0 ∧ zs = []) ∨
      ∃ x, a = some x ∧ len ≤ cap ∧ cap ≤ maxLen ∧ zs.length = cap ∧ (∀ i, i < zs.length → w.cell? (x.add i) = some (.int k (zs.getD i 0))) ∧ ∀ n ∈ zs, (Lit.int k n).wf = true) :
    ∃ Z : Nat → Int, Fsl w a len (fun i => .int k (Z i)) ∧ (∀ i, i < len → (Lit.int k (Z i)).wf = true) ∧ len ≤ maxLen ∧ len ≤ cap := by
  rcases h with ⟨rfl, rfl, rfl, rfl⟩ | ⟨x, rfl, hl, hm, hz, hc, hw⟩
  · exact ⟨fun _ => 0, Fsl.nil _ _, fun i hi => absurd hi (Nat.not_lt_zero _), Nat.zero_le _, Nat.le_refl _⟩
  · refine ⟨fun i => zs.getD i 0, of_cells fun i hi => hc i (by omega), fun i hi => ?_, by omega, hl⟩
    have hi' : i < zs.length := by omega
    have : zs.getD i 0 = zs[i] := by simp [List.getElem?_eq_getElem hi']
    show (Lit.int k (zs.getD i 0)).wf = true
    rw [this]
    exact hw _ (List.getElem_mem hi')
/-- A slice of bools that came in. -/
theorem of_bools {w : World} {a : Option Addr} {len cap : Nat} {B : Nat → Bool}
    (h : (a = none ∧ len = 0 ∧ cap = 0) ∨ ∃ x, a = some x ∧ len ≤ cap ∧ cap ≤ maxLen ∧ (∀ i, i < cap → w.cell? (x.add i) = some (.bool (B i)))) :
    Fsl w a len (fun i => .bool (B i)) ∧ len ≤ maxLen ∧ len ≤ cap := by
  rcases h with ⟨rfl, rfl, rfl⟩ | ⟨x, rfl, hl, hm, hc⟩
  · exact ⟨Fsl.nil _ _, Nat.zero_le _, Nat.le_refl _⟩
  · exact ⟨of_cells fun i hi => hc i (by omega), by omega, hl⟩
end Go.Proofs.Fl
