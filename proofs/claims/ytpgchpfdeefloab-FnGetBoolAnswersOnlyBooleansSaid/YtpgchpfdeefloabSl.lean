/-
  Slices of integers as lists of numbers: what a walk is told of a slice that it reads; a copy made by the call itself; no condition.
-/
import Derived.WalkKit
import Derived.ProofKit
import Derived.Laws.MakeOwn
import Derived.Laws.OwnMore
import Derived.WalkSpells
import Derived.Lib.Hide
import Derived.Deep.Draws
namespace Go.Proofs.Sl
open Go.RowKit

/-- The i-th number (0 behind the end); a plain definition, which the walk does not open. -/
def nth (zs : List Int) (i : Nat) : Int := zs.getD i 0
theorem nth_eq (zs : List Int) (i : Nat) (h : i < zs.length) : nth zs i = zs[i] := by simp [nth, List.getElem?_eq_getElem h]
theorem nth_set (zs : List Int) (i j : Nat) (v : Int) (h : j < zs.length) : nth (zs.set i v) j = if i = j then v else nth zs j := by
  simp only [nth, List.getD_eq_getElem?_getD, List.getElem?_set]
  by_cases e : i = j
  · subst e; simp [h]
  · simp [e]
theorem nth_mem (zs : List Int) (i : Nat) (h : i < zs.length) : nth zs i ∈ zs := by rw [nth_eq _ _ h]; exact List.getElem_mem h
theorem ext_nth {xs ys : List Int} (hl : xs.length = ys.length) (h : ∀ i, i < xs.length → nth xs i = nth ys i) : xs = ys := by
  apply List.ext_getElem hl
  intro i h1 h2
  have := h i h1
  rwa [nth_eq _ _ h1, nth_eq _ _ h2] at this
theorem nth_take (zs : List Int) (n i : Nat) (h : i < n) : nth (zs.take n) i = nth zs i := by
  simp [nth, h]
theorem nth_append_left (xs ys : List Int) (i : Nat) (h : i < xs.length) : nth (xs ++ ys) i = nth xs i := by
  simp [nth, List.getElem?_append_left h]
theorem nth_append_right (xs ys : List Int) (i : Nat) : nth (xs ++ ys) (xs.length + i) = nth ys i := by
  simp [nth, List.getElem?_append_right (Nat.le_add_right _ _)]

/-- The slice (a, len) reads as zs in the world w. -/
def Sl (k : IntKind) (w : World) (a : Option Addr) (len : Nat) (zs : List Int) : Prop :=
  zs.length = len ∧ (a = none → len = 0) ∧ ∀ i, i < len → ∃ b off, a = some ⟨b, off, none⟩ ∧ b < w.heap.size ∧ w.cell? ⟨b, off + i, none⟩ = some (.int k (nth zs i))

theorem lt_of_cell {w : World} {a : Addr} {v : Value} (h : w.cell? a = some v) : a.block < w.heap.size := by
  by_cases hlt : a.block < w.heap.size
  · exact hlt
  · exfalso
    have : w.heap[a.block]? = none := Array.getElem?_eq_none (by omega)
    simp [World.cell?, this] at h

theorem Sl.len {k : IntKind} {w : World} {a : Option Addr} {len : Nat} {zs : List Int} (h : Sl k w a len zs) : zs.length = len := h.1
theorem Sl.at {k : IntKind} {w : World} {a : Option Addr} {len : Nat} {zs : List Int} (h : Sl k w a len zs) (i : Nat) (hi : i < len) :
    ∃ b off, a = some ⟨b, off, none⟩ ∧ b < w.heap.size ∧ w.cell? ⟨b, off + i, none⟩ = some (.int k (nth zs i)) := h.2.2 i hi
theorem Sl.cell {k : IntKind} {w : World} {b off : Nat} {len : Nat} {zs : List Int} (h : Sl k w (some ⟨b, off, none⟩) len zs) (i : Nat) (hi : i < len) :
    w.cell? ⟨b, off + i, none⟩ = some (.int k (nth zs i)) := by
  obtain ⟨b', off', e, _, hc⟩ := h.2.2 i hi
  injection e with e
  injection e with e1 e2
  subst e1; subst e2
  exact hc
theorem Sl.lt {k : IntKind} {w : World} {b off : Nat} {len : Nat} {zs : List Int} (h : Sl k w (some ⟨b, off, none⟩) len zs) (hl : 0 < len) : b < w.heap.size :=
  lt_of_cell (h.cell 0 hl)
theorem Sl.below {k : IntKind} {w w' : World} {a : Option Addr} {len : Nat} {zs : List Int} (h : Sl k w a len zs) (hb : Below w.heap.size w w') : Sl k w' a len zs := by
  refine ⟨h.1, h.2.1, fun i hi => ?_⟩
  obtain ⟨b, off, e, hlt, hc⟩ := h.2.2 i hi
  exact ⟨b, off, e, Nat.lt_of_lt_of_le hlt hb.size, by rw [hb.cell (p := ⟨b, off + i, none⟩) hlt]; exact hc⟩
theorem Sl.drewN {k : IntKind} {w : World} {a : Option Addr} {len : Nat} {zs : List Int} (h : Sl k w a len zs) (n : Nat) : Sl k (w.drewN n) a len zs := h
theorem Sl.drew {k : IntKind} {w : World} {a : Option Addr} {len : Nat} {zs : List Int} (h : Sl k w a len zs) : Sl k w.drew a len zs := h

theorem add_none {x : Addr} {w : World} {v : Value} (h : w.cell? (x.add 0) = some v) : x.spot = none := by
  have := World.cell?_spot h
  obtain ⟨b, off, spot⟩ := x
  simpa [Addr.add] using this

/-- A slice that came in, as the shell tells it. -/
theorem Sl.of_row {k : IntKind} {w : World} {a : Option Addr} {len cap : Nat} {zs : List Int}
    (h : (a = none ∧ len = 0 ∧ cap = 0 ∧ zs = []) ∨
      ∃ x, a = some x ∧ len ≤ cap ∧ cap ≤ maxLen ∧ zs.length = cap ∧ (∀ i, i < zs.length → w.cell? (x.add i) = some (.int k (zs.getD i 0))) ∧ ∀ n ∈ zs, (Lit.int k n).wf = true) :
    Sl k w a len (zs.take len) ∧ (∀ n ∈ zs.take len, (Lit.int k n).wf = true) ∧ len ≤ cap ∧ cap ≤ maxLen ∧ (a = none → cap = 0) := by
  rcases h with ⟨rfl, rfl, rfl, rfl⟩ | ⟨x, rfl, hl, hm, hz, hc, hw⟩
  · exact ⟨⟨rfl, fun _ => rfl, fun i hi => absurd hi (Nat.not_lt_zero _)⟩, fun n hn => by simp at hn, Nat.le_refl _, Nat.zero_le _, fun _ => rfl⟩
  · refine ⟨⟨by simp; omega, (fun e => by cases e), fun i hi => ?_⟩, fun n hn => hw n (List.mem_of_mem_take hn), hl, hm, fun e => by cases e⟩
    have hcell := hc i (by omega)
    have hs := add_none (hc 0 (by omega))
    obtain ⟨b, off, spot⟩ := x
    simp only at hs
    subst hs
    have e : (⟨b, off, none⟩ : Addr).add i = ⟨b, off + i, none⟩ := by unfold Addr.add; simp
    rw [e] at hcell
    refine ⟨b, off, rfl, lt_of_cell hcell, ?_⟩
    rw [nth_take _ _ _ hi]
    exact hcell

/-- Block b, made by the call itself from base on, holds the numbers zs, none frozen. -/
def Blk (k : IntKind) (w : World) (b : Nat) (t : TypeId) (zs : List Int) : Prop := w.heap[b]? = some (.cells (zs.map (Value.int k)).toArray t (0, 0))
theorem Blk.cell {k : IntKind} {w : World} {b : Nat} {t : TypeId} {zs : List Int} (h : Blk k w b t zs) (i : Nat) (hi : i < zs.length) : w.cell? ⟨b, i, none⟩ = some (.int k (nth zs i)) := by
  rw [cell_of_row w b i _ t _ h]
  simp [nth, List.getElem?_eq_getElem hi]
theorem Blk.frozen {k : IntKind} {w : World} {b : Nat} {t : TypeId} {zs : List Int} (h : Blk k w b t zs) (i : Nat) : w.frozen? ⟨b, i, none⟩ = false := frozen_of_row w b i _ t h
theorem Blk.lt {k : IntKind} {w : World} {b : Nat} {t : TypeId} {zs : List Int} (h : Blk k w b t zs) : b < w.heap.size := by
  unfold Blk at h
  exact Classical.byContradiction fun hn => by rw [Array.getElem?_eq_none (by omega)] at h; cases h
theorem Blk.set {k : IntKind} {w : World} {b : Nat} {t : TypeId} {zs : List Int} (h : Blk k w b t zs) (i : Nat) (v : Int) : Blk k (w.setCell ⟨b, i, none⟩ (.int k v)) b t (zs.set i v) := by
  unfold Blk at h ⊢
  rw [heap_setCell_same _ _ _ _ _ _ h]
  congr 2
  simp [List.map_set]
theorem Blk.other {k : IntKind} {w : World} {b : Nat} {t : TypeId} {zs : List Int} (h : Blk k w b t zs) {a : Addr} (ha : a.block ≠ b) (v : Value) : Blk k (w.setCell a v) b t zs := by
  unfold Blk at h ⊢
  rw [heap_setCell_other _ _ _ _ (fun e => ha e.symm)]
  exact h
theorem Blk.alloc {k : IntKind} {w : World} {b : Nat} {t : TypeId} {zs : List Int} (h : Blk k w b t zs) (o : Obj) : Blk k (w.alloc o) b t zs := by
  have := h.lt
  unfold Blk at h ⊢
  rw [Below.heap_alloc _ _ _ this]
  exact h
theorem Blk.below {k : IntKind} {w w' : World} {B b : Nat} {t : TypeId} {zs : List Int} (h : Blk k w b t zs) (hb : Below B w w') (hlt : b < B) : Blk k w' b t zs := (hb.block b hlt).trans h
theorem Blk.sl {k : IntKind} {w : World} {b : Nat} {t : TypeId} {zs : List Int} (h : Blk k w b t zs) : Sl k w (some ⟨b, 0, none⟩) zs.length zs :=
  ⟨rfl, (fun e => by cases e), fun i hi => ⟨b, 0, rfl, h.lt, by rw [Nat.zero_add]; exact h.cell i hi⟩⟩
theorem Blk.made (k : IntKind) (w : World) (t : TypeId) (n : Nat) : Blk k (w.alloc (.cells (madeCells #[.int k 0] n) t)) w.heap.size t (List.replicate n 0) := by
  unfold Blk
  rw [heap_alloc_new]
  congr 2
  apply Array.ext'
  rw [toList_madeCells_one]
  simp

/-- make([]T, n): what it gives, with a variable n. -/
theorem run_make_ints {P : Program} {T E : TypeId} {k : IntKind} {bytes : Nat} (hu : P.underlying T = some (.slice E)) (hi : (P.info? E).map (fun i => (i.zero, i.size, i.bytes)) = some (some (.int k 0), 1, bytes)) (hb : bytes ≤ 8) (n : Nat) (hn : n ≤ 17592186044416) (w : World) :
    (Instr.makeSlice T (.int .i64 n) (.int .i64 n)).run P w = .ok (.slice (some ⟨w.heap.size, 0, none⟩) n n) (w.alloc (.cells (madeCells #[.int k 0] n) E)) := by
  obtain ⟨i0, hi, hz0, hz1, hz2⟩ := info_parts hi
  have h := run_make (P := P) w T E i0 _ hu hi hz0 .i64 .i64 (n : Int) (n : Int) (by omega) (Int.le_refl _) (by
    rw [hz2]
    have h1 : (bytes : Int) * (n : Int) ≤ 8 * (n : Int) := Int.mul_le_mul_of_nonneg_right (by omega) (by omega)
    omega) (by omega)
  rw [hz1] at h
  simpa [Value.cells] using h

/-- A copy, k numbers of it made. -/
def partOf (zs : List Int) (k : Nat) : List Int := zs.take k ++ List.replicate (zs.length - k) 0
theorem partOf_len (zs : List Int) (k : Nat) (h : k ≤ zs.length) : (partOf zs k).length = zs.length := by simp [partOf]; omega
theorem partOf_zero (zs : List Int) : partOf zs 0 = List.replicate zs.length 0 := by simp [partOf]
theorem partOf_all (zs : List Int) : partOf zs zs.length = zs := by simp [partOf]
theorem partOf_set (zs : List Int) (k : Nat) (h : k < zs.length) : (partOf zs k).set k (nth zs k) = partOf zs (k + 1) := by
  apply ext_nth
  · simp [partOf]; omega
  · intro i hi
    have hi' : i < zs.length := by simp [partOf] at hi; omega
    rw [nth_set _ _ _ _ (by simp [partOf]; omega)]
    by_cases e : k = i
    · subst e
      rw [if_pos rfl]
      unfold partOf
      rw [nth_append_left _ _ _ (by simp; omega), nth_take _ _ _ (by omega)]
    · rw [if_neg e]
      unfold partOf
      by_cases h2 : i < k
      · rw [nth_append_left _ _ _ (by simp; omega), nth_take _ _ _ h2, nth_append_left _ _ _ (by simp; omega), nth_take _ _ _ (by omega)]
      · obtain ⟨j, rfl⟩ : ∃ j, i = k + 1 + j := ⟨i - (k + 1), by omega⟩
        have e1 := nth_append_right (zs.take k) (List.replicate (zs.length - k) 0) (j + 1)
        have e2 := nth_append_right (zs.take (k + 1)) (List.replicate (zs.length - (k + 1)) 0) j
        rw [List.length_take, Nat.min_eq_left (by omega)] at e1 e2
        rw [show k + 1 + j = k + (j + 1) by omega, e1, show k + (j + 1) = k + 1 + j by omega, e2]
        simp only [nth, List.getD_eq_getElem?_getD, List.getElem?_replicate]
        split <;> split <;> rfl

/-- What a copying function of a slice hands back. -/
def Copied (k : IntKind) (w : World) (a : Option Addr) (len : Nat) (zs : List Int) (e : Ending) (w' : World) : Prop :=
  ∃ a' cap', e = .returned (.slice a' len cap') ∧ len ≤ cap' ∧ cap' ≤ maxLen ∧ Sl k w' a' len zs ∧ Below w.heap.size w w' ∧ (a = none ↔ a' = none) ∧ (∀ b off sp, a' = some ⟨b, off, sp⟩ → w.heap.size ≤ b ∧ off = 0 ∧ sp = none ∧ ∃ t, Blk k w' b t zs)
theorem Copied.nil {k : IntKind} {w : World} {len : Nat} {zs : List Int} (h : Sl k w none len zs) : Copied k w none len zs (.returned (.slice none 0 0)) w := by
  have hl := h.2.1 rfl
  subst hl
  exact ⟨none, 0, rfl, Nat.le_refl _, Nat.zero_le _, h, Below.refl _ _, Iff.rfl, fun _ _ _ e => by cases e⟩
theorem Copied.mk {k : IntKind} {w w' : World} {x : Addr} {len : Nat} {zs : List Int} {b : Nat} {t : TypeId} (hl : zs.length = len) (hm : len ≤ maxLen) (hb : Blk k w' b t zs) (hlow : Below w.heap.size w w') (hge : w.heap.size ≤ b) :
    Copied k w (some x) len zs (.returned (.slice (some ⟨b, 0, none⟩) len len)) w' := by
  subst hl
  refine ⟨_, _, rfl, Nat.le_refl _, hm, hb.sl, hlow, by simp, fun b' off sp e => ?_⟩
  injection e with e
  injection e with e1 e2 e3
  subst e1; subst e2; subst e3
  exact ⟨hge, rfl, rfl, t, hb⟩
end Go.Proofs.Sl
