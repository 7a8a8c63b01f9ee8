/-
  Maps that the call itself makes, by what they hold key by key (values as they are): made, asked, written; no condition.
-/
import Derived.WalkKit
import Derived.ProofKit
import Derived.Maps.Keyed
import Derived.Maps.Own
import Derived.Maps.OwnSet
import Derived.Lib.Hide
namespace Go.Proofs.Mp
open Go.RowKit Go.ChangeMaps
open Go.Maps (Keyed)
set_option linter.unusedVariables false

/-- Block b is a map that holds M. -/
def MapIs (P : Program) (k : TypeId) (w : World) (b : Nat) (M : Value → Option Value) : Prop :=
  ∃ es clock, w.heap[b]? = some (.map es clock) ∧ (∀ x ∈ es.toList, (∃ l, keyOf P k x.key = some l) ∧ M x.key = some x.val) ∧ (∀ key v, M key = some v → ∃ x ∈ es.toList, x.key = key) ∧
    es.toList.Pairwise (fun x y => x.key ≠ y.key)
def noneM : Value → Option Value := fun _ => none
open Classical in
noncomputable def setM (M : Value → Option Value) (key v : Value) : Value → Option Value := fun x => if x = key then some v else M x
theorem setM_same (M : Value → Option Value) (key v : Value) : setM M key v key = some v := by simp [setM]
theorem setM_other (M : Value → Option Value) (key v x : Value) (h : x ≠ key) : setM M key v x = M x := by simp [setM, h]
section
variable {P : Program} {k t e : TypeId} {w w' : World} {b : Nat} {M : Value → Option Value}
theorem MapIs.made (P : Program) (k : TypeId) (w : World) : MapIs P k (w.alloc (.map #[] 0)) w.heap.size noneM :=
  ⟨#[], 0, heap_alloc_new _ _, (fun x hx => by simp at hx), (fun key v h => by cases h), by simp⟩
theorem MapIs.lt (h : MapIs P k w b M) : b < w.heap.size := by
  obtain ⟨es, c, hb, _⟩ := h
  exact (Array.getElem?_eq_some_iff.1 hb).1
theorem MapIs.of_block (h : MapIs P k w b M) (hb : w'.heap[b]? = w.heap[b]?) : MapIs P k w' b M := by
  obtain ⟨es, c, h1, h2⟩ := h
  exact ⟨es, c, hb.trans h1, h2⟩
theorem MapIs.alloc (h : MapIs P k w b M) (o : Obj) : MapIs P k (w.alloc o) b M := h.of_block (Below.heap_alloc _ _ _ h.lt)
theorem MapIs.drew (h : MapIs P k w b M) : MapIs P k w.drew b M := h
theorem MapIs.below {B : Nat} (h : MapIs P k w b M) (hb : Below B w w') (hlt : b < B) : MapIs P k w' b M := h.of_block (hb.block b hlt)
theorem MapIs.setCell (h : MapIs P k w b M) {a : Addr} (ha : b ≠ a.block) (v : Value) : MapIs P k (w.setCell a v) b M := h.of_block (heap_setCell_other _ _ _ _ ha)
theorem MapIs.look (h : MapIs P k w b M) (K : Keyed P k) (ht : P.underlying t = some (.map k e)) {key : Value} {kl : Lit} (hkey : keyOf P k key = some kl) {v : Value} (hv : M key = some v) (c : Bool) :
    (Instr.lookup t (.map (some b)) key c).run P w = .ok (if c then .tuple #[v, .bool true] else v) w := by
  obtain ⟨es, cl, hb, hes, hM, _⟩ := h
  rcases K.find w hkey es.toList (fun x hx => (hes x hx).1) with ⟨h1, h2⟩ | ⟨j, e0, h1, h2, h3⟩
  · obtain ⟨x, hx, hk⟩ := hM key v hv
    exact absurd hk (h2 x hx)
  · have hm0 : e0 ∈ es.toList := List.mem_of_getElem? h2
    have := (hes e0 hm0).2
    rw [h3, hv] at this
    injection this with this
    rw [this]
    simp [Instr.lookup, run_underlying ht, MapKept.run_getObj_map hb, K.check w _ hkey, h1, Result.andThen]
theorem MapIs.look_no (h : MapIs P k w b M) (K : Keyed P k) (ht : P.underlying t = some (.map k e)) {key : Value} {kl : Lit} (hkey : keyOf P k key = some kl) (hv : M key = none) {z : Value} (hz : (zeroValue e).run P w = .ok z w) (c : Bool) :
    (Instr.lookup t (.map (some b)) key c).run P w = .ok (if c then .tuple #[z, .bool false] else z) w := by
  obtain ⟨es, cl, hb, hes, hM, _⟩ := h
  rcases K.find w hkey es.toList (fun x hx => (hes x hx).1) with ⟨h1, h2⟩ | ⟨j, e0, h1, h2, h3⟩
  · simp [Instr.lookup, run_underlying ht, MapKept.run_getObj_map hb, K.check w _ hkey, h1, hz, Result.andThen]
  · have := (hes e0 (List.mem_of_getElem? h2)).2
    rw [h3, hv] at this
    cases this
theorem look_nil (K : Keyed P k) (ht : P.underlying t = some (.map k e)) {key : Value} {kl : Lit} (hkey : keyOf P k key = some kl) {z : Value} (hz : (zeroValue e).run P w = .ok z w) (c : Bool) :
    (Instr.lookup t (.map none) key c).run P w = .ok (if c then .tuple #[z, .bool false] else z) w := Maps.look_nil c K ht hz hkey
theorem block_set (w : World) (b : Nat) (o : Obj) (h : b < w.heap.size) : (setBlock w b o).heap[b]? = some o := by simp [setBlock, h]
theorem block_other (w : World) (b j : Nat) (o : Obj) (h : j ≠ b) : (setBlock w b o).heap[j]? = w.heap[j]? := by simp [setBlock, Ne.symm h]
theorem MapIs.update (h : MapIs P k w b M) (K : Keyed P k) (ht : P.underlying t = some (.map k e)) {key : Value} {kl : Lit} (hkey : keyOf P k key = some kl) (v : Value) :
    ∃ o, (Instr.mapUpdate t (.map (some b)) key v).run P w = .ok () (setBlock w b o) ∧ MapIs P k (setBlock w b o) b (setM M key v) := by
  have hlt := h.lt
  obtain ⟨es, cl, hb, hes, hM, hp⟩ := h
  rcases K.find w hkey es.toList (fun x hx => (hes x hx).1) with ⟨h1, h2⟩ | ⟨j, e0, h1, h2, h3⟩
  · refine ⟨.map (es.push ⟨key, v, cl⟩) (cl + 1), ?_, es.push ⟨key, v, cl⟩, cl + 1, block_set _ _ _ hlt, ?_, ?_, ?_⟩
    · simp [Instr.mapUpdate, run_underlying ht, MapKept.run_getObj_map hb, K.check w false hkey, h1, MapKept.run_setObj_map _ hb, Result.andThen, setBlock]
    · intro x hx
      simp only [Array.toList_push, List.mem_append, List.mem_singleton] at hx
      rcases hx with hx | rfl
      · exact ⟨(hes x hx).1, by rw [setM_other _ _ _ _ (h2 x hx)]; exact (hes x hx).2⟩
      · exact ⟨⟨kl, hkey⟩, setM_same _ _ _⟩
    · intro key' v' hv'
      simp only [Array.toList_push, List.mem_append, List.mem_singleton]
      by_cases e : key' = key
      · subst e; exact ⟨_, .inr rfl, rfl⟩
      · rw [setM_other _ _ _ _ e] at hv'
        obtain ⟨x, hx, hk⟩ := hM _ _ hv'
        exact ⟨x, .inl hx, hk⟩
    · simp only [Array.toList_push]
      rw [List.pairwise_append]
      exact ⟨hp, by simp, fun x hx y hy => by simp at hy; subst hy; exact h2 x hx⟩
  · have hj : j < es.toList.length := (List.getElem?_eq_some_iff.1 h2).1
    have hje : es.toList[j] = e0 := (List.getElem?_eq_some_iff.1 h2).2
    have huniq : ∀ i (hi : i < es.toList.length), es.toList[i].key = key → i = j := by
      intro i hi hk
      rcases Nat.lt_trichotomy i j with hl | hl | hl
      · exact absurd (hk.trans (by rw [hje, h3])) (List.pairwise_iff_getElem.1 hp i j hi hj hl)
      · exact hl
      · exact absurd ((show es.toList[j].key = key by rw [hje, h3]).trans hk.symm) (List.pairwise_iff_getElem.1 hp j i hj hi hl)
    have hjs : j < es.size := by simpa using hj
    have hge : es[j]? = some e0 := by rw [← h2]; simp
    refine ⟨.map (es.modify j fun e => { e with key, val := v }) cl, ?_, es.modify j fun e => { e with key, val := v }, cl, block_set _ _ _ hlt, ?_, ?_, ?_⟩
    · simp [Instr.mapUpdate, run_underlying ht, MapKept.run_getObj_map hb, K.check w false hkey, h1, hge, h3, K.stays w hkey, MapKept.run_setObj_map _ hb, Result.andThen, setBlock]
    · intro x hx
      obtain ⟨i, hi, rfl⟩ := List.getElem_of_mem hx
      have hi' : i < es.toList.length := by simpa using hi
      simp only [Array.getElem_toList, Array.getElem_modify]
      split
      · exact ⟨⟨kl, hkey⟩, setM_same _ _ _⟩
      · rename_i hne
        have hk : es.toList[i].key ≠ key := fun h => hne (huniq i hi' h).symm
        have hm := hes es.toList[i] (List.getElem_mem hi')
        simp only [Array.getElem_toList] at hk hm
        exact ⟨hm.1, by rw [setM_other _ _ _ _ hk]; exact hm.2⟩
    · intro key' v' hv'
      by_cases e : key' = key
      · subst e
        refine ⟨{ e0 with key := key', val := v }, ?_, rfl⟩
        rw [List.mem_iff_getElem]
        refine ⟨j, by simpa using hj, ?_⟩
        simp only [Array.getElem_toList, Array.getElem_modify, if_true]
        simp only [Array.getElem_toList] at hje
        rw [hje]
      · rw [setM_other _ _ _ _ e] at hv'
        obtain ⟨x, hx, hk⟩ := hM _ _ hv'
        obtain ⟨i, hi, rfl⟩ := List.getElem_of_mem hx
        have hne : j ≠ i := fun h => by subst h; rw [hje, h3] at hk; exact e hk.symm
        refine ⟨es.toList[i], ?_, hk⟩
        rw [List.mem_iff_getElem]
        refine ⟨i, by simpa using hi, ?_⟩
        simp only [Array.getElem_toList, Array.getElem_modify, if_neg hne]
    · rw [List.pairwise_iff_getElem]
      intro i i' hi hi' hlt'
      have q1 : i < es.toList.length := by simpa using hi
      have q2 : i' < es.toList.length := by simpa using hi'
      have hpw := List.pairwise_iff_getElem.1 hp i i' q1 q2 hlt'
      simp only [Array.getElem_toList, Array.getElem_modify]
      simp only [Array.getElem_toList] at hpw
      split
      · rename_i e1
        split
        · omega
        · rename_i e2
          intro h
          exact e2 (huniq i' q2 (by simpa using h.symm)).symm
      · rename_i e1
        split
        · intro h
          exact e1 (huniq i q1 (by simpa using h)).symm
        · exact hpw
end
section
variable {P : Program} {w : World} {ops : Array Oper} {rest : List Oper} {o : Oper} {a : Act} {Q : Exit → Act → World → Prop}
/-- A look-up whose run is known, for the walk. -/
theorem wpList_look (hg : o.guard = none) (m x : Operand) (t : TypeId) (c : Bool) (hop : o.op = Op.lookup t m x c) {mv kv r : Value} (hm : a.eval m = mv) (hx : a.eval x = kv)
    (hr : (Instr.lookup t mv kv c).run P w = .ok r w) (h : wpList P ops Q rest (a.put o.dst r) w) : wpList P ops Q (o :: rest) a w := by
  refine wpList_plain hg fun K' hK' => ?_
  unfold Oper.wp
  simp [execOp, hop, hm, hx, hr, Result.andThen]
  exact hK' _ _ h
/-- A store into a map whose run is known, for the walk. -/
theorem wpList_mapSet (hg : o.guard = none) (m x v : Operand) (t : TypeId) (hop : o.op = Op.mapUpdate t m x v) {mv kv vv : Value} (hm : a.eval m = mv) (hx : a.eval x = kv) (hv : a.eval v = vv) {R : World → Prop}
    (hr : ∃ w', (Instr.mapUpdate t mv kv vv).run P w = .ok () w' ∧ R w') (h : ∀ w', R w' → wpList P ops Q rest (a.put o.dst undef) w') : wpList P ops Q (o :: rest) a w := by
  refine wpList_plain hg fun K' hK' => ?_
  obtain ⟨w', hrun, hR⟩ := hr
  unfold Oper.wp
  simp [execOp, hop, hm, hx, hv, hrun, Result.andThen]
  exact hK' _ _ (h w' hR)
end
/-- What a store into a map leaves. -/
theorem setBlock_size (w : World) (b : Nat) (o : Obj) : (setBlock w b o).heap.size = w.heap.size := by simp [setBlock]
theorem setBlock_below {B : Nat} {w w' : World} (h : Below B w w') {b : Nat} (hb : B ≤ b) (o : Obj) : Below B w (setBlock w' b o) :=
  ⟨h.os, h.tape, h.output, by rw [setBlock_size]; exact h.size, fun i hi => by rw [block_other _ _ _ _ (by omega)]; exact h.block i hi⟩
theorem setBlock_cell (w : World) (b : Nat) (o : Obj) {a : Addr} (h : a.block ≠ b) : (setBlock w b o).cell? a = w.cell? a := World.cell?_of_block (block_other w b a.block o h)
theorem setBlock_frozen (w : World) (b : Nat) (o : Obj) {a : Addr} (h : a.block ≠ b) : (setBlock w b o).frozen? a = w.frozen? a := World.frozen?_of_block (block_other w b a.block o h)
end Go.Proofs.Mp
