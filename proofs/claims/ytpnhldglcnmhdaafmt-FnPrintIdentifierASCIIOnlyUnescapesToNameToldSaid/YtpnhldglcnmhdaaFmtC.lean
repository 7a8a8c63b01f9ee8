/- Contracts of functions that the law of this seat reaches, and plain facts; no condition. -/
import Derived.Test.YtpnhldglcnmhdaaFmtProg
import Derived.WalkKit
import Derived.ProofKit
import Derived.OpenShut
import Derived.ShutString
import Derived.Test.YtpnhldglcnmhdaaFmtAid
import Derived.Test.YtpnhldglcnmhdaaFmtFl
import Derived.Test.YtpnhldglcnmhdaaFmtB
import Derived.Test.YtpnhldglcnmhdaaFmtStr
import Derived.Test.YtpnhldglcnmhdaaFmtPb
import Derived.Test.YtpnhldglcnmhdaaFmtQd
import Derived.ArgAppend
import Derived.WalkSmall
import Derived.Lib.OthersKept
import Derived.Laws.RangeAny
import Derived.Laws.OwnMore
import Derived.WalkSpells
import Derived.LoopTactic
import Derived.IntWalk
import Derived.Outline
import Derived.Deep.QuietTactic
import Derived.BigQuiet
import Derived.Deep.RegionHeld3
import Derived.Deep.RegionLaw
import Derived.StillTailTactics
import Derived.OwnWalk
import Derived.RegionTactic
import Derived.Laws.BitsAllLaws
import Derived.Laws.BitsLemmas
import Derived.Lib.ConvBytes
import Derived.Lib.RuneBytes
namespace Go.Proofs.YtpnhldglcnmhdaaFmt.Aux
open Go.ChangeShapes Go.WideShapes Go.ChangeAt Go.RowKit
open Go.ChangeMaps (open_string shut_string)
set_option linter.unusedVariables false
set_option linter.unusedSimpArgs false
open Fl Str Pb Qd PlainAid Aux
theorem dz (s : ByteArray) (i : Nat) (hs : s.size ≤ 16777216) (hi : i < s.size) (w : World) : Calls Tryf.prog 5 #[.string s, .int .i64 (i : Int)] w (Dz w s i) := by
  have hr := bt_rng s i
  by_cases h1 : bt s i < 128
  · exact dza s i hs hi _ rfl hr.1 hr.2 h1 w
  by_cases h2 : bt s i < 194
  · exact dzb s i hs hi _ rfl hr.1 hr.2 (by omega) h2 w
  by_cases h3 : 244 < bt s i
  · exact dzc s i hs hi _ rfl hr.1 hr.2 h3 w
  by_cases h4 : bt s i ≤ 223
  · exact dz2 s i hs hi _ rfl hr.1 hr.2 (by omega) h4 w
  by_cases h5 : bt s i ≤ 239
  · by_cases e1 : bt s i = 224
    · exact dz3a s i hs hi _ rfl hr.1 hr.2 (by omega) h5 (by simp [e1]) (by simp [e1]) w
    by_cases e2 : bt s i = 237
    · exact dz3b s i hs hi _ rfl hr.1 hr.2 (by omega) h5 (by simp [e2]) (by simp [e2]) w
    · exact dz3c s i hs hi _ rfl hr.1 hr.2 (by omega) h5 (by simp [e1]) (by simp [e2]) w
  · by_cases e1 : bt s i = 240
    · exact dz4a s i hs hi _ rfl hr.1 hr.2 (by omega) (by omega) (by simp [e1]) (by simp [e1]) w
    by_cases e2 : bt s i = 244
    · exact dz4b s i hs hi _ rfl hr.1 hr.2 (by omega) (by omega) (by simp [e2]) (by simp [e2]) w
    · exact dz4c s i hs hi _ rfl hr.1 hr.2 (by omega) (by omega) (by simp [e1]) (by simp [e2]) w
theorem info5 : (Tryf.prog.info? 5).map (fun i => (i.zero, i.size, i.bytes)) = some (some (.int .u8 0), 1, 1) := by kernel_rfl
/-- The slice v holds the bytes xs in a row of its own. -/
def OW (w : World) (B : Nat) (v : Value) (xs : List Int) : Prop := w.ownsRow B 5 1 v xs.length (xs.map (.int .u8))
/-- What an append leaves. -/
def AP (w : World) (B : Nat) (v : Value) (xs : List Int) (v' : Value) (w' : World) : Prop := OW w' B v' xs ∧ w.grownBy w' v.ownBlock
theorem ow_nil (w : World) (B : Nat) : OW w B (.slice none 0 0) [] := World.ownsRow_nil _ _ _ _
theorem ow_slice {w : World} {B : Nat} {v : Value} {xs : List Int} (h : OW w B v xs) : ∃ a c, v = .slice a xs.length c := by
  obtain ⟨a, c, e, _⟩ := owns_slice h
  exact ⟨a, c, e⟩
theorem ow_str {w : World} {B : Nat} {v : Value} {xs : List Int} (h : OW w B v xs) (hB : B ≤ w.heap.size) (s : ByteArray) (P : List Int) (hP : Lib.strCells s = P.map (.int .u8)) (hl : xs.length + P.length ≤ 134217728) (ty : TypeId) :
    ∃ v' w', (Builtin.append_ #[28, 9] ty #[v, .string s]).run Tryf.prog w = .ok v' w' ∧ AP w B v (xs ++ P) v' w' := by
  obtain ⟨i, hi, hz0, hz1, hz2⟩ := info_parts info5
  have e : s.size = P.length := by rw [← Lib.strCells_length, hP, List.length_map]
  obtain ⟨v', w', hr, h2, h3, _⟩ := app_string (P := Tryf.prog) (ty := ty) w (base := B) Tryf.underlying28 Tryf.underlying9 hi hz0 hz1 hz2 (v := v) (xs := xs.map (.int .u8)) (by rw [List.length_map]; exact h) s (by rw [List.length_map]; unfold maxLen; omega) (by rw [List.length_map]; omega) hB
  refine ⟨v', w', hr, ?_, h3⟩
  rw [List.length_map, e, hP, ← List.map_append, ← List.length_append] at h2
  exact h2
theorem ow_lit {w : World} {B : Nat} {v : Value} {xs : List Int} (h : OW w B v xs) (hB : B ≤ w.heap.size) (C : Array Value) (P : List Int) (l : Nat) (hP : C.toList = P.map (.int .u8)) (hll : P.length = l) (hl : xs.length + P.length ≤ 134217728) (ty : TypeId) :
    ∃ v' w', (Builtin.append_ #[28, 28] ty #[v, .slice (some ⟨w.heap.size, 0, none⟩) l l]).run Tryf.prog (w.alloc (.cells C 5)) = .ok v' w' ∧ AP w B v (xs ++ P) v' w' := by
  subst hll
  obtain ⟨i, hi, hz0, hz1, hz2⟩ := info_parts info5
  obtain ⟨v', w', hr, h2, h3, _⟩ := app_slice (P := Tryf.prog) (ty := ty) (w.alloc (.cells C 5)) (base := B) Tryf.underlying28 hi hz0 hz1 hz2 rfl (v := v) (xs := xs.map (.int .u8)) (by rw [List.length_map]; exact World.ownsRow.alloc h _) ⟨w.heap.size, 0, none⟩ P.length P.length (P.map (.int .u8)) (by simp) (by
      intro j u hu
      have e : (⟨w.heap.size, 0, none⟩ : Addr).add j = ⟨w.heap.size, j, none⟩ := by unfold Addr.add; split <;> simp_all
      rw [e, cell_of_row _ _ j _ _ _ (heap_alloc_new _ _), ← Array.getElem?_toList, hP]
      exact hu) (by intro u hu; simp at hu; obtain ⟨x, _, rfl⟩ := hu; rfl) (by rw [List.length_map]; unfold maxLen; omega) (by rw [List.length_map]; omega) (by simp; omega)
  refine ⟨v', w', hr, ?_, ?_⟩
  · rw [List.length_map, ← List.map_append, ← List.length_append] at h2
    exact h2
  · refine ⟨h3.os, h3.tape, h3.output, Nat.le_trans (by simp) h3.size, fun k hk hn => ?_⟩
    rw [h3.block k (by simp; omega) hn]
    exact Below.heap_alloc _ _ _ hk
theorem ow_below {w w' : World} {B : Nat} {v : Value} {xs : List Int} (h : OW w B v xs) (hb : Below w.heap.size w w') : OW w' B v xs :=
  (Chg.of_below hb (fun i a b => by omega) : Chg (fun _ => False) w w').owns h (fun _ _ h => h)
/-- The bytes of a piece of a text. -/
def PC (s : ByteArray) (a : Nat) (P : List Int) : Prop := ∀ k, (h : k < P.length) → bt s (a + k) = P[k]
theorem pc_cells {s : ByteArray} {a b : Nat} {P : List Int} (h : PC s a P) (hl : a + P.length = b) (hb : b ≤ s.size) : Lib.strCells (s.extract a b) = P.map (.int .u8) := by
  have hsz : (s.extract a b).size = P.length := by simp [ByteArray.size_extract]; omega
  apply List.ext_getElem
  · rw [Lib.strCells_length, hsz, List.length_map]
  · intro k h1 h2
    have hk : k < P.length := by simpa using h2
    have e := bt_extract s a b k hb (by omega)
    rw [bt_get _ k (by omega), h k hk] at e
    simp only [Lib.strCells, List.getElem_map]
    rw [e]
/-- Where the writer stands. -/
def QW (w : World) (s : ByteArray) (wr : World) (i : Nat) (v : Value) (xs : List Int) : Prop :=
  OW wr (w.heap.size + 1) v xs ∧ wr.heap[w.heap.size]? = some (.stringIter s i) ∧ Below w.heap.size w wr
theorem qw_lt {w wr : World} {s : ByteArray} {i : Nat} {v : Value} {xs : List Int} (h : QW w s wr i v xs) : w.heap.size < wr.heap.size := (Array.getElem?_eq_some_iff.1 h.2.1).1
theorem qw_ap {w wr w' : World} {s : ByteArray} {i : Nat} {v v' : Value} {xs ys : List Int} (h : QW w s wr i v xs) (ha : AP wr (w.heap.size + 1) v ys v' w') : QW w s w' i v' ys := by
  obtain ⟨o, it, b⟩ := h
  have hlt : w.heap.size < wr.heap.size := (Array.getElem?_eq_some_iff.1 it).1
  have hv : ∀ k, v.ownBlock = some k → w.heap.size + 1 ≤ k := fun k hk => (World.ownsRow.lt o k hk).1
  refine ⟨ha.1, ?_, ?_⟩
  · rw [ha.2.block _ hlt (fun e => by have := hv _ e.symm; omega)]
    exact it
  · exact b.trans ⟨ha.2.os, ha.2.tape, ha.2.output, ha.2.size, fun k hk => ha.2.block k (by omega) fun e => by have := hv _ e.symm; omega⟩
theorem owns_iterAt {w : World} {base : Nat} {e : TypeId} {size : Nat} {v : Value} {n : Nat} {xs : List Value} (h : w.ownsRow base e size v n xs) {k : Nat} (hk : v.ownBlock ≠ some k) (s : ByteArray) (p : Nat) : (w.iterAt k s p).ownsRow base e size v n xs := by
  obtain ⟨h1, h2⟩ := h
  refine ⟨h1, ?_⟩
  rcases h2 with h2 | ⟨g, cap, cur, a, b, c, d⟩
  · exact .inl h2
  · refine .inr ⟨g, cap, cur, a, b, ?_, d⟩
    rw [Lib.iterAt_other _ _ _ _ _ (fun e => hk (by rw [a]; simp [Value.ownBlock, e]))]
    exact c
theorem qw_next {w wr : World} {s : ByteArray} {i : Nat} {v : Value} {xs : List Int} (h : QW w s wr i v xs) (m : Nat) : QW w s (wr.iterAt w.heap.size s (i + m)) (i + m) v xs := by
  obtain ⟨o, it, b⟩ := h
  exact ⟨owns_iterAt o (fun e => by have := (World.ownsRow.lt o _ e).1; omega) _ _, Lib.iterAt_heap _ _ _ _ _ it, Lib.below_iterAt b (by omega) _ _⟩
theorem qw_drew {w wr : World} {s : ByteArray} {i : Nat} {v : Value} {xs : List Int} (h : QW w s wr i v xs) : QW w s wr.drew i v xs := ⟨h.1, h.2.1, below_drew h.2.2⟩
theorem qw_start (w : World) (s : ByteArray) : QW w s (w.iter s 0) 0 (.slice none 0 0) [] :=
  ⟨ow_nil _ _, by simpa using World.iter_heap w s 0, (Below.refl _ w).alloc (Nat.le_refl _) _⟩
/-- The run of plain runes that is not yet written. -/
def QS (s : ByteArray) (i a : Nat) (acc : Bool) (P : List Int) : Prop :=
  (acc = false ∧ P = []) ∨ (acc = true ∧ a + P.length = i ∧ PC s a P ∧ ∀ r ∈ P, 32 ≤ r ∧ r ≤ 126)
theorem qs_more {s : ByteArray} {i a : Nat} {P : List Int} {r : Int} (h : QS s i a true P) (h0 : 32 ≤ r) (h1 : r ≤ 126) (e : r = bt s i) : QS s (i + 1) a true (P ++ [r]) := by
  rcases h with ⟨h, _⟩ | ⟨_, hl, hp, hr⟩
  · cases h
  · refine .inr ⟨rfl, by simp; omega, fun k hk => ?_, fun x hx => ?_⟩
    · by_cases hh : k < P.length
      · rw [List.getElem_append_left hh]; exact hp k hh
      · have : k = P.length := by simp at hk; omega
        subst this
        simp [hl, e]
    · rcases List.mem_append.1 hx with hx | hx
      · exact hr x hx
      · simp at hx; subst hx; exact ⟨h0, h1⟩
theorem qs_first {s : ByteArray} {i : Nat} {r : Int} (h0 : 32 ≤ r) (h1 : r ≤ 126) (e : r = bt s i) : QS s (i + 1) i true [r] := by
  refine .inr ⟨rfl, rfl, fun k hk => ?_, fun x hx => ?_⟩
  · have : k = 0 := by simp at hk; omega
    subst this
    simp [e]
  · simp at hx; subst hx; exact ⟨h0, h1⟩
theorem qs_no {s : ByteArray} {i a : Nat} : QS s i a false [] := .inl ⟨rfl, rfl⟩
/-- What QuoteIdentifier hands back. -/
def Qi (w : World) (R : List Int) (e : Ending) (w' : World) : Prop := ∃ ja jc, e = .returned (.slice ja (ER R).length jc) ∧ Hid (OW w' (w.heap.size + 1) (.slice ja (ER R).length jc) (ER R)) ∧ Hid (Below w.heap.size w w')
theorem qi_of {w wr : World} {s : ByteArray} {i : Nat} {v : Value} {R xs : List Int} (h : QW w s wr i v xs) (e : xs = ER R) : Qi w R (.returned v) wr := by
  subst e
  obtain ⟨a, c, rfl⟩ := ow_slice h.1
  exact ⟨a, c, rfl, Lib.hid h.1, Lib.hid h.2.2⟩
theorem and15 (x : Int) (h0 : 0 ≤ x) (h1 : x < 2147483648) : ∃ d : Nat, bits .and .i32 x 15 = (d : Int) ∧ d < 16 ∧ (d : Int) = x % 16 :=
  ⟨(x % 16).toNat, (bits_mask .i32 31 (by decide) wraps_i32 4 (by decide) x h0 h1).trans (by omega), by omega, by omega⟩
theorem step_app {P : Program} {ops : Array Oper} {o : Oper} {a : Act} {w : World} {K : Act → World → Prop} {Q : Exit → Act → World → Prop} {F : Prop} (hg : o.guard = none) (s x : Operand) (ts : Array TypeId)
    (ho : o.op = .call { callee := .builtin .append, args := #[s, x], argTypes := ts }) {v sv : Value} (hs : a.eval s = v) (hx : a.eval x = sv) {R : Value → World → Prop}
    (hr : ∃ v' w', (Builtin.append_ ts o.type #[v, sv]).run P w = .ok v' w' ∧ R v' w') (h : ∀ v' w', R v' w' → K (a.put o.dst v') w') :
    if Region.wanted o (yielded ops a.tmps) = true then Oper.wp P o a w K Q else F := by
  have hw : Region.wanted o (yielded ops a.tmps) = true := by simp [Region.wanted, hg]
  rw [if_pos hw]
  obtain ⟨v', w', hr, hR⟩ := hr
  unfold Oper.wp execOp
  simp only [ho, resolve, invoke, builtin, Sem.run_bind, Sem.run_pure, Result.andThen_ok, List.map_toArray, List.map_cons, List.map_nil, hs, hx, hr]
  exact h v' w' hR
end Go.Proofs.YtpnhldglcnmhdaaFmt.Aux
