/-
  Arrays of integers as whole blocks: reading a block as a list of numbers, copying an array variable, the make of a zero variable; no condition.
-/
import Derived.WalkKit
import Derived.ProofKit
import Derived.Laws.Rows
import Derived.Laws.Tables
namespace Go.Proofs.Arr
open Go.RowKit

section
variable {P : Program}
theorem setRow_alloc (w : World) (zs cs : Array Value) (t : TypeId) : (w.alloc (.cells zs t)).setRow w.heap.size cs = w.alloc (.cells cs t) := by
  unfold World.setRow World.alloc
  congr 1
  apply Array.ext_getElem?
  intro i
  rw [Array.getElem?_modify]
  by_cases h : w.heap.size = i
  · subst h; simp
  · rw [if_neg h, Array.getElem?_push, Array.getElem?_push, if_neg (by omega), if_neg (by omega)]

theorem wpList_alloc_row {ops : Array Oper} {rest : List Oper} {o : Oper} {a : Act} {w : World} {Q : Exit → Act → World → Prop} (hgd : o.guard = none) (ty : TypeId) (ho : o.op = .alloc ty) (zs : Array Value)
    (hz : ∀ w, (zeroValue ty).run P w = .ok (.agg zs) w) (h : wpList P ops Q rest (a.put o.dst (.pointer (some ⟨w.heap.size, 0, none⟩))) (w.alloc (.cells zs ty))) : wpList P ops Q (o :: rest) a w :=
  wpList_plain hgd fun K hK => by
    unfold Oper.wp execOp
    simp only [ho, Instr.alloc, newVar, newRow, Sem.run_bind, hz, Sem.run_pure, Result.andThen_ok, Value.cells]
    exact hK _ _ h

theorem wpList_copyvar {ops : Array Oper} {rest : List Oper} {o1 o2 o3 : Oper} {a : Act} {w : World} {Q : Exit → Act → World → Prop} (g1 : o1.guard = none) (g2 : o2.guard = none) (g3 : o3.guard = none)
    (ty ty2 : TypeId) (x y z : Operand) (h1 : o1.op = .load ty x) (h2 : o2.op = .alloc ty2) (h3 : o3.op = .store ty2 y z)
    (g : Nat) (hx : a.eval x = .pointer (some ⟨g, 0, none⟩)) (t : TypeId) (cs : Array Value) (fr : Nat × Nat) (d : TypeDesc) (hg : w.heap[g]? = some (.cells cs t fr))
    (hu : P.underlying ty = some d) (hd : (match d with | .struct _ | .array _ _ => true | _ => false) = true) (hi : (P.info? ty).map (·.size) = some cs.size) (hi2 : (P.info? ty2).map (·.size) = some cs.size)
    (zs : Array Value) (hz : ∀ w, (zeroValue ty2).run P w = .ok (.agg zs) w) (hzs : zs.size = cs.size) (hone : cs.all (·.oneCell') = true)
    (hy : ((a.put o1.dst (.agg cs)).put o2.dst (.pointer (some ⟨w.heap.size, 0, none⟩))).eval y = .pointer (some ⟨w.heap.size, 0, none⟩))
    (hw : ((a.put o1.dst (.agg cs)).put o2.dst (.pointer (some ⟨w.heap.size, 0, none⟩))).eval z = .agg cs)
    (h : wpList P ops Q rest (((a.put o1.dst (.agg cs)).put o2.dst (.pointer (some ⟨w.heap.size, 0, none⟩))).put o3.dst undef) (w.alloc (.cells cs ty2))) : wpList P ops Q (o1 :: o2 :: o3 :: rest) a w := by
  refine wpList_load_row g1 ty x h1 g hx t cs fr d hg hu hd hi ?_
  refine wpList_alloc_row g2 ty2 h2 zs hz ?_
  refine wpList_store_row g3 ty2 y z h3 w.heap.size cs hy hw ty2 zs (heap_alloc_new _ _) hi2 hzs hone ?_
  rw [setRow_alloc]
  exact h
end

/-- Block b holds the numbers zs, none frozen. -/
def Row (k : IntKind) (w : World) (b : Nat) (t : TypeId) (zs : List Int) : Prop := w.heap[b]? = some (.cells (zs.map (Value.int k)).toArray t (0, 0))

/-- The i-th number (0 behind the end); a plain definition, which the walk does not open. -/
def nth (zs : List Int) (i : Nat) : Int := zs.getD i 0
theorem nth_eq (zs : List Int) (i : Nat) (h : i < zs.length) : nth zs i = zs[i] := by simp [nth, List.getElem?_eq_getElem h]
theorem nth_set (zs : List Int) (i j : Nat) (v : Int) (h : j < zs.length) : nth (zs.set i v) j = if i = j then v else nth zs j := by
  simp only [nth, List.getD_eq_getElem?_getD, List.getElem?_set]
  by_cases e : i = j
  · subst e; simp [h]
  · simp [e]
theorem nth_mem (zs : List Int) (i : Nat) (h : i < zs.length) : nth zs i ∈ zs := by rw [nth_eq _ _ h]; exact List.getElem_mem h
theorem ext_nth {xs ys : List Int} (hl : xs.length = ys.length) (h : ∀ i, i < xs.length → nth xs i = nth ys i) : xs = ys := by
  apply List.ext_getElem hl
  intro i h1 h2
  have := h i h1
  rwa [nth_eq _ _ h1, nth_eq _ _ h2] at this
theorem Row.cell {k : IntKind} {w : World} {b : Nat} {t : TypeId} {zs : List Int} (h : Row k w b t zs) (i : Nat) (hi : i < zs.length) : w.cell? ⟨b, i, none⟩ = some (.int k (nth zs i)) := by
  rw [cell_of_row w b i _ t _ h]
  simp [nth, List.getElem?_eq_getElem hi]
theorem Row.frozen {k : IntKind} {w : World} {b : Nat} {t : TypeId} {zs : List Int} (h : Row k w b t zs) (i : Nat) : w.frozen? ⟨b, i, none⟩ = false := frozen_of_row w b i _ t h
theorem Row.drew {k : IntKind} {w : World} {b : Nat} {t : TypeId} {zs : List Int} (h : Row k w b t zs) : Row k w.drew b t zs := h
theorem Row.lt {k : IntKind} {w : World} {b : Nat} {t : TypeId} {zs : List Int} (h : Row k w b t zs) : b < w.heap.size := by
  unfold Row at h
  exact Classical.byContradiction fun hn => by rw [Array.getElem?_eq_none (by omega)] at h; cases h
theorem Row.alloc {k : IntKind} {w : World} {b : Nat} {t : TypeId} {zs : List Int} (h : Row k w b t zs) (o : Obj) : Row k (w.alloc o) b t zs := by
  have := h.lt
  unfold Row at h ⊢
  rw [Below.heap_alloc _ _ _ this]
  exact h
theorem Row.new (k : IntKind) (w : World) (t : TypeId) (zs : List Int) : Row k (w.alloc (.cells (zs.map (Value.int k)).toArray t)) w.heap.size t zs := heap_alloc_new _ _
theorem Row.set {k : IntKind} {w : World} {b : Nat} {t : TypeId} {zs : List Int} (h : Row k w b t zs) (i : Nat) (v : Int) : Row k (w.setCell ⟨b, i, none⟩ (.int k v)) b t (zs.set i v) := by
  unfold Row at h ⊢
  rw [heap_setCell_same _ _ _ _ _ _ h]
  congr 2
  simp [List.map_set]
theorem Row.other {k : IntKind} {w : World} {b : Nat} {t : TypeId} {zs : List Int} (h : Row k w b t zs) {a : Addr} (ha : a.block ≠ b) (v : Value) : Row k (w.setCell a v) b t zs := by
  unfold Row at h ⊢
  rw [heap_setCell_other _ _ _ _ (fun e => ha e.symm)]
  exact h
theorem Row.below {k : IntKind} {w w' : World} {B b : Nat} {t : TypeId} {zs : List Int} (h : Row k w b t zs) (hb : Below B w w') (hlt : b < B) : Row k w' b t zs := (hb.block b hlt).trans h
theorem one_ints (k : IntKind) (zs : List Int) : ((zs.map (Value.int k)).toArray).all (·.oneCell') = true := by
  rw [Array.all_eq_true_iff_forall_mem]
  intro x hx
  simp only [List.mem_toArray, List.mem_map] at hx
  obtain ⟨z, _, rfl⟩ := hx
  rfl
end Go.Proofs.Arr
