/-
  Appending, copying, for elements of several cells; which block the result lies in; no condition.
-/
import Derived.WalkKit
import Derived.ProofKit
import Derived.Laws.AppendOwn
import Derived.Laws.OwnMore
import Derived.Laws.CopyRow
import Derived.Lib.Hide
namespace Go.Proofs.Am
open Go.RowKit
set_option linter.unusedVariables false

/-- The block of an appended value: the old one, or a new one. -/
def Same (w : World) (v v' : Value) : Prop := v'.ownBlock = v.ownBlock ∨ ∀ k, v'.ownBlock = some k → w.heap.size ≤ k
section
variable {P : Program} (w : World)
/-- append(v, source...), size cells an element. -/
theorem app_many {t ty e : TypeId} {i : TypeInfo} {z : Value} {size bytes base : Nat} (ht : P.underlying t = some (.slice e)) (hi : P.info? e = some i) (hz : i.zero = some z)
    (hsize : i.size = size) (hby : i.bytes = bytes) (hzs : z.cells.size = size) (hpos : 0 < size) {v : Value} {n : Nat} {xs : List Value} (hown : w.ownsRow base e size v n xs)
    (a : Addr) (m c : Nat) (news : List Value) (hl : news.length = m * size) (hnews : ∀ j u, news[j]? = some u → w.cell? (a.add j) = some u) (h1 : ∀ u ∈ news, u.oneCell' = true)
    (h63 : n + m ≤ maxLen) (hbytes : (n + m) * bytes ≤ 140737488355328) (hbase : base ≤ w.heap.size) :
    ∃ v' w', (Builtin.append_ #[t, t] ty #[v, .slice (some a) m c]).run P w = .ok v' w' ∧ w'.ownsRow base e size v' (n + m) (xs ++ news) ∧ w.grownBy w' v.ownBlock ∧ Same w v v' := by
  obtain ⟨v', w', hr, h2, h3, h4⟩ := run_append_own (P := P) w base t ty e i z size bytes ht hi hz hsize hby hzs hpos v n xs hown a m c news hl hnews h1 h63 hbytes hbase
  refine ⟨v', w', hr, h2, h3, ?_⟩
  have hsmall : n + m ≤ 9223372036854775807 := by simp only [maxLen] at h63; omega
  have ho := hown
  rcases hown.2 with ⟨rfl, hn⟩ | ⟨g, cap, cur, rfl, hbg, hg, hnc, hcm, hcs, htake⟩
  · right
    subst hn
    have hx : xs = [] := List.eq_nil_of_length_eq_zero (by have := ho.1; simpa using this)
    subst hx
    obtain ⟨v2, w2, hr2, k2, _, _⟩ := run_append_own (P := P) w w.heap.size t ty e i z size bytes ht hi hz hsize hby hzs hpos (.slice none 0 0) 0 [] (World.ownsRow_nil _ _ _ _) a m c news hl hnews h1 h63 hbytes (Nat.le_refl _)
    rw [hr2] at hr
    injection hr with e1 e2
    subst e1
    intro k hk
    exact (k2.lt k hk).1
  · by_cases hroom : n + m ≤ cap
    · left
      have hfit : n * i.size + news.length ≤ cur.size := by
        rw [hsize, hl, hcs, ← Nat.add_mul]
        exact Nat.mul_le_mul_right _ hroom
      have hr2 := run_append_room (P := P) w t ty e i ht hi g n cap cur hg a m c news (by rw [hsize]; exact hl) hnews h1 hroom hfit
      rw [hr2] at hr
      injection hr with e1 e2
      subst e1
      rfl
    · right
      have hr2 := run_append_grow (P := P) w t ty e i z ht hi hz ⟨g, 0, none⟩ n cap xs (by rw [hsize]; exact ho.1) (ho.cells (g := g) rfl) a m c news (by rw [hsize]; exact hl) hnews (by omega) (by omega) (growslice_fits (by omega) (by rw [hby]; exact hbytes))
      rw [hr2] at hr
      injection hr with e1 e2
      subst e1
      intro k hk
      simp [Value.ownBlock] at hk
      omega
end
/-- A copy between rows of as many elements, several cells an element: the whole of the row is written. -/
theorem run_copy_all {P : Program} (w : World) (dT sT ty elem : TypeId) (g n dCap size : Nat) (a : Addr) (sCap : Nat) (cur : Array Value) (t : TypeId) (cs : List Value)
    (hu : P.underlying dT = some (.slice elem)) (hs : (P.info? elem).map (·.size) = some size)
    (hg : w.heap[g]? = some (.cells cur t (0, 0))) (hn : cs.length = n * size) (hc : cur.size = n * size)
    (hsrc : ∀ j v, cs[j]? = some v → w.cell? (a.add j) = some v) (h1 : ∀ v ∈ cs, v.oneCell' = true) :
    (Builtin.copy_ #[dT, sT] ty #[.slice (some ⟨g, 0, none⟩) n dCap, .slice (some a) n sCap]).run P w = .ok (goInt n) (w.setRow g cs.toArray) := by
  have hl := run_loadCells_list (P := P) w a cs hsrc
  have hst := run_storeCells_at P g 0 t cs 0 cur w hg (by omega) h1
  have hd : cur.toList.drop cs.length = [] := List.drop_eq_nil_of_le (by simp; omega)
  cases hq : P.info? elem with
  | none => simp [hq] at hs
  | some i =>
    have hi : i.size = size := by simpa [hq] using hs
    rw [hn] at hl
    simp only [Nat.zero_add, Nat.add_zero, List.take_zero, List.nil_append, hd, List.append_nil] at hst
    simp [Builtin.copy_, run_underlying hu, Builtin.lenOf, Builtin.firstCells, sizeOf, typeInfo, hq, hi, hl, hst]
section
variable {P : Program} {w : World} {ops : Array Oper} {rest : List Oper} {o : Oper} {a : Act} {Q : Exit → Act → World → Prop}
/-- An append whose run is known, for the walk. -/
theorem wpList_app (hgd : o.guard = none) (s x : Operand) (ts : Array TypeId)
    (ho : o.op = .call { callee := .builtin .append, args := #[s, x], argTypes := ts }) {v sv : Value} (hs : a.eval s = v) (hx : a.eval x = sv) {R : Value → World → Prop}
    (hr : ∃ v' w', (Builtin.append_ ts o.type #[v, sv]).run P w = .ok v' w' ∧ R v' w') (h : ∀ v' w', R v' w' → wpList P ops Q rest (a.put o.dst v') w') : wpList P ops Q (o :: rest) a w :=
  wpList_plain hgd fun _ hK => by
    obtain ⟨v', w', hr, hR⟩ := hr
    unfold Oper.wp execOp
    simp only [ho, resolve, invoke, builtin, Sem.run_bind, Sem.run_pure, Result.andThen_ok, List.map_toArray, List.map_cons, List.map_nil, hs, hx, hr]
    exact hK _ _ (h v' w' hR)
/-- A copy whose run is known, for the walk. -/
theorem wpList_cop (hgd : o.guard = none) (s x : Operand) (ts : Array TypeId)
    (ho : o.op = .call { callee := .builtin .copy, args := #[s, x], argTypes := ts }) {v sv : Value} (hs : a.eval s = v) (hx : a.eval x = sv) {R : Value → World → Prop}
    (hr : ∃ v' w', (Builtin.copy_ ts o.type #[v, sv]).run P w = .ok v' w' ∧ R v' w') (h : ∀ v' w', R v' w' → wpList P ops Q rest (a.put o.dst v') w') : wpList P ops Q (o :: rest) a w :=
  wpList_plain hgd fun _ hK => by
    obtain ⟨v', w', hr, hR⟩ := hr
    unfold Oper.wp execOp
    simp only [ho, resolve, invoke, builtin, Sem.run_bind, Sem.run_pure, Result.andThen_ok, List.map_toArray, List.map_cons, List.map_nil, hs, hx, hr]
    exact hK _ _ (h v' w' hR)
end
end Go.Proofs.Am
