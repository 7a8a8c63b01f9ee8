/-
  Appending to a row of bytes that the call owns: the value's block after it, and which blocks change; no condition.
-/
import Derived.WalkKit
import Derived.ProofKit
import Derived.Laws.AppendOwn
import Derived.Laws.OwnMore
import Derived.Lib.AppendStr
import Derived.Lib.Hide
namespace Go.Proofs.Pb
open Go.RowKit
set_option linter.unusedVariables false

/-- w' is w but for the blocks in S and for new blocks. -/
structure Chg (S : Nat → Prop) (w w' : World) : Prop where
  os : w'.os = w.os
  tape : w'.tape = w.tape
  output : w'.output = w.output
  size : w.heap.size ≤ w'.heap.size
  block : ∀ k, k < w.heap.size → ¬ S k → w'.heap[k]? = w.heap[k]?
section
variable {S T : Nat → Prop} {w w' w2 : World}
theorem Chg.refl (S : Nat → Prop) (w : World) : Chg S w w := ⟨rfl, rfl, rfl, Nat.le_refl _, fun _ _ _ => rfl⟩
theorem Chg.trans (h : Chg S w w') (k : Chg S w' w2) : Chg S w w2 :=
  ⟨k.os.trans h.os, k.tape.trans h.tape, k.output.trans h.output, Nat.le_trans h.size k.size, fun i hi hn => (k.block i (Nat.lt_of_lt_of_le hi h.size) hn).trans (h.block i hi hn)⟩
/-- What changes behind w's size does not count. -/
theorem Chg.transN (h : Chg S w w') (k : Chg T w' w2) (ht : ∀ i, i < w.heap.size → T i → S i) : Chg S w w2 :=
  ⟨k.os.trans h.os, k.tape.trans h.tape, k.output.trans h.output, Nat.le_trans h.size k.size, fun i hi hn => (k.block i (Nat.lt_of_lt_of_le hi h.size) (fun x => hn (ht i hi x))).trans (h.block i hi hn)⟩
theorem Chg.mono (h : Chg S w w') (hs : ∀ i, i < w.heap.size → S i → T i) : Chg T w w' := ⟨h.os, h.tape, h.output, h.size, fun i hi hn => h.block i hi fun x => hn (hs i hi x)⟩
theorem Chg.of_grown {row : Option Nat} (h : w.grownBy w' row) : Chg (fun k => row = some k) w w' := ⟨h.os, h.tape, h.output, h.size, fun k hk hn => h.block k hk fun e => hn e.symm⟩
theorem Chg.setCell (h : Chg S w w') {p : Addr} (hp : S p.block ∨ w.heap.size ≤ p.block) (v : Value) : Chg S w (w'.setCell p v) :=
  ⟨h.os, h.tape, h.output, by simpa [World.setCell] using h.size, fun k hk hn => by
    have hne : k ≠ p.block := fun e => by
      subst e
      rcases hp with hp | hp
      · exact hn hp
      · omega
    rw [Below.heap_setCell w' p v k hne]
    exact h.block k hk hn⟩
theorem Chg.alloc (h : Chg S w w') (o : Obj) : Chg S w (w'.alloc o) :=
  ⟨h.os, h.tape, h.output, by have := h.size; simp; omega, fun k hk hn => by
    have := h.size
    rw [Below.heap_alloc w' o k (by omega)]
    exact h.block k hk hn⟩
theorem Chg.of_below {B : Nat} (h : Below B w w') (hs : ∀ i, i < w.heap.size → B ≤ i → S i) : Chg S w w' :=
  ⟨h.os, h.tape, h.output, h.size, fun k hk hn => h.block k (by
    by_cases hb : k < B
    · exact hb
    · exact absurd (hs k hk (by omega)) hn)⟩
theorem Chg.below (h : Chg S w w') {B : Nat} (hB : B ≤ w.heap.size) (hs : ∀ i, S i → B ≤ i) : Below B w w' :=
  ⟨h.os, h.tape, h.output, h.size, fun k hk => h.block k (by omega) fun x => by have := hs k x; omega⟩
theorem Chg.cell (h : Chg S w w') {a : Addr} {v : Value} (hc : w.cell? a = some v) (hn : ¬ S a.block) : w'.cell? a = some v :=
  (World.cell?_of_block (h.block a.block (World.block_lt_of_cell? w a hc) hn)).trans hc
theorem Chg.frozen (h : Chg S w w') {a : Addr} (hl : a.block < w.heap.size) (hn : ¬ S a.block) : w'.frozen? a = w.frozen? a :=
  World.frozen?_of_block (h.block a.block hl hn)
theorem Chg.drewL (h : Chg S w.drew w') : Chg S w w' := ⟨h.os, h.tape, h.output, h.size, h.block⟩
theorem Chg.drewR (h : Chg S w w') : Chg S w w'.drew := ⟨h.os, h.tape, h.output, h.size, h.block⟩
theorem Chg.owns (h : Chg S w w') {base : Nat} {e : TypeId} {size : Nat} {v : Value} {n : Nat} {xs : List Value} (ho : w.ownsRow base e size v n xs) (hn : ∀ k, v.ownBlock = some k → ¬ S k) : w'.ownsRow base e size v n xs := by
  obtain ⟨h1, h2⟩ := ho
  refine ⟨h1, ?_⟩
  rcases h2 with h2 | ⟨g, cap, cur, rfl, a, b, c, d, e1, f⟩
  · exact .inl h2
  · refine .inr ⟨g, cap, cur, rfl, a, ?_, c, d, e1, f⟩
    have hl : g < w.heap.size := by
      by_cases hl : g < w.heap.size
      · exact hl
      · rw [Array.getElem?_eq_none (by omega)] at b; cases b
    rw [h.block g hl (hn g rfl)]
    exact b
end

theorem owns_slice {w : World} {base : Nat} {e : TypeId} {size : Nat} {v : Value} {n : Nat} {xs : List Value} (h : w.ownsRow base e size v n xs) : ∃ a c, v = .slice a n c ∧ (a = none → c = 0) := by
  rcases h.2 with ⟨rfl, rfl⟩ | ⟨g, cap, cur, rfl, _⟩
  · exact ⟨_, _, rfl, fun _ => rfl⟩
  · exact ⟨_, _, rfl, fun e => by cases e⟩
/-- The block of an appended value: the old one, or a new one. -/
def Same (w : World) (v v' : Value) : Prop := v'.ownBlock = v.ownBlock ∨ ∀ k, v'.ownBlock = some k → w.heap.size ≤ k

section
variable {P : Program} (w : World)
/-- append(v, source...), one cell an element. -/
theorem app_slice {t ty e : TypeId} {i : TypeInfo} {z : Value} {bytes base : Nat} (ht : P.underlying t = some (.slice e)) (hi : P.info? e = some i) (hz : i.zero = some z)
    (hsize : i.size = 1) (hby : i.bytes = bytes) (hzs : z.cells.size = 1) {v : Value} {xs : List Value} (hown : w.ownsRow base e 1 v xs.length xs)
    (a : Addr) (m c : Nat) (news : List Value) (hl : news.length = m) (hnews : ∀ j u, news[j]? = some u → w.cell? (a.add j) = some u) (h1 : ∀ u ∈ news, u.oneCell' = true)
    (h63 : xs.length + m ≤ maxLen) (hbytes : (xs.length + m) * bytes ≤ 140737488355328) (hbase : base ≤ w.heap.size) :
    ∃ v' w', (Builtin.append_ #[t, t] ty #[v, .slice (some a) m c]).run P w = .ok v' w' ∧ w'.ownsRow base e 1 v' (xs.length + m) (xs ++ news) ∧ w.grownBy w' v.ownBlock ∧ Same w v v' := by
  obtain ⟨v', w', hr, h2, h3, h4⟩ := run_append_own (P := P) w base t ty e i z 1 bytes ht hi hz hsize hby hzs (by omega) v xs.length xs hown a m c news (by omega) hnews h1 h63 hbytes hbase
  refine ⟨v', w', hr, h2, h3, ?_⟩
  have hsmall : xs.length + m ≤ 9223372036854775807 := by simp only [maxLen] at h63; omega
  have ho := hown
  rcases hown.2 with ⟨rfl, hn⟩ | ⟨g, cap, cur, rfl, hbg, hg, hnc, hcm, hcs, htake⟩
  · right
    have hx : xs = [] := List.eq_nil_of_length_eq_zero hn
    subst hx
    obtain ⟨v2, w2, hr2, k2, _, _⟩ := run_append_own (P := P) w w.heap.size t ty e i z 1 bytes ht hi hz hsize hby hzs (by omega) (.slice none 0 0) 0 [] (World.ownsRow_nil _ _ _ _) a m c news (by omega) hnews h1 (by simpa using h63) (by simpa using hbytes) (Nat.le_refl _)
    rw [hr2] at hr
    injection hr with e1 e2
    subst e1
    intro k hk
    exact (k2.lt k hk).1
  · by_cases hroom : xs.length + m ≤ cap
    · left
      have hr2 := run_append_room (P := P) w t ty e i ht hi g xs.length cap cur hg a m c news (by rw [hsize]; omega) hnews h1 hroom (by rw [hsize]; omega)
      rw [hr2] at hr
      injection hr with e1 e2
      subst e1
      rfl
    · right
      have hr2 := run_append_grow (P := P) w t ty e i z ht hi hz ⟨g, 0, none⟩ xs.length cap xs (by rw [hsize]; omega) (ho.cells (g := g) rfl) a m c news (by rw [hsize]; omega) hnews (by omega) (by omega) (growslice_fits (by omega) (by rw [hby]; exact hbytes))
      rw [hr2] at hr
      injection hr with e1 e2
      subst e1
      intro k hk
      simp [Value.ownBlock] at hk
      omega
/-- append(v, s...), s a string. -/
theorem app_string {t u ty e : TypeId} {i : TypeInfo} {base : Nat} (ht : P.underlying t = some (.slice e)) (hu : P.underlying u = some .string) (hi : P.info? e = some i) (hz : i.zero = some (.int .u8 0))
    (hsize : i.size = 1) (hby : i.bytes = 1) {v : Value} {xs : List Value} (hown : w.ownsRow base e 1 v xs.length xs) (s : ByteArray)
    (h63 : xs.length + s.size ≤ maxLen) (hbytes : xs.length + s.size ≤ 140737488355328) (hbase : base ≤ w.heap.size) :
    ∃ v' w', (Builtin.append_ #[t, u] ty #[v, .string s]).run P w = .ok v' w' ∧ w'.ownsRow base e 1 v' (xs.length + s.size) (xs ++ Lib.strCells s) ∧ w.grownBy w' v.ownBlock ∧ Same w v v' := by
  obtain ⟨v', w', hr, h2, h3, h4⟩ := Lib.run_append_own_string (P := P) w base t u ty e i ht hu hi hz hsize hby v xs.length xs hown s h63 hbytes hbase
  refine ⟨v', w', hr, h2, h3, ?_⟩
  have hsmall : xs.length + s.size ≤ 9223372036854775807 := by simp only [maxLen] at h63; omega
  have ho := hown
  rcases hown.2 with ⟨rfl, hn⟩ | ⟨g, cap, cur, rfl, hbg, hg, hnc, hcm, hcs, htake⟩
  · right
    have hx : xs = [] := List.eq_nil_of_length_eq_zero hn
    subst hx
    obtain ⟨v2, w2, hr2, k2, _, _⟩ := Lib.run_append_own_string (P := P) w w.heap.size t u ty e i ht hu hi hz hsize hby (.slice none 0 0) 0 [] (World.ownsRow_nil _ _ _ _) s (by simpa using h63) (by simpa using hbytes) (Nat.le_refl _)
    rw [hr2] at hr
    injection hr with e1 e2
    subst e1
    intro k hk
    exact (k2.lt k hk).1
  · by_cases hroom : xs.length + s.size ≤ cap
    · left
      have hr2 := Lib.run_append_room_string (P := P) w t u ty e i ht hu hi hsize g xs.length cap cur hg s hroom (by omega)
      rw [hr2] at hr
      injection hr with e1 e2
      subst e1
      rfl
    · right
      have hr2 := Lib.run_append_grow_string (P := P) w t u ty e i (.int .u8 0) ht hu hi hz ⟨g, 0, none⟩ xs.length cap xs (by rw [hsize]; omega) (ho.cells (g := g) rfl) s (by omega) (by omega) (growslice_fits (by omega) (by rw [hby]; omega))
      rw [hr2] at hr
      injection hr with e1 e2
      subst e1
      intro k hk
      simp [Value.ownBlock] at hk
      omega
end
section
variable {P : Program}
/-- An append whose run is known, for the walk. -/
theorem wpList_app {w : World} {ops : Array Oper} {rest : List Oper} {o : Oper} {a : Act} {Q : Exit → Act → World → Prop} (hgd : o.guard = none) (s x : Operand) (ts : Array TypeId)
    (ho : o.op = .call { callee := .builtin .append, args := #[s, x], argTypes := ts }) {v sv : Value} (hs : a.eval s = v) (hx : a.eval x = sv) {R : Value → World → Prop}
    (hr : ∃ v' w', (Builtin.append_ ts o.type #[v, sv]).run P w = .ok v' w' ∧ R v' w') (h : ∀ v' w', R v' w' → wpList P ops Q rest (a.put o.dst v') w') : wpList P ops Q (o :: rest) a w :=
  wpList_plain hgd fun _ hK => by
    obtain ⟨v', w', hr, hR⟩ := hr
    unfold Oper.wp execOp
    simp only [ho, resolve, invoke, builtin, Sem.run_bind, Sem.run_pure, Result.andThen_ok, List.map_toArray, List.map_cons, List.map_nil, hs, hx, hr]
    exact hK _ _ (h v' w' hR)
end
end Go.Proofs.Pb
