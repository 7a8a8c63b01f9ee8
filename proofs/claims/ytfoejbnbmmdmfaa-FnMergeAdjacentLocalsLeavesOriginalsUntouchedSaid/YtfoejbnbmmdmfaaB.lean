/- Contracts of functions that the law of this seat reaches, and plain facts; no condition. -/
import Derived.Test.YtfoejbnbmmdmfaaProg
import Derived.WalkKit
import Derived.ProofKit
import Derived.OpenShut
import Derived.ShutString
import Derived.Test.YtfoejbnbmmdmfaaAid
import Derived.Test.YtfoejbnbmmdmfaaFl
import Derived.Test.YtfoejbnbmmdmfaaPb
import Derived.Test.YtfoejbnbmmdmfaaQd
import Derived.Test.YtfoejbnbmmdmfaaAm
import Derived.ArgAppend
import Derived.WalkSpells
import Derived.LoopTactic
import Derived.IntWalk
import Derived.Outline
import Derived.Deep.QuietTactic
import Derived.BigQuiet
import Derived.Deep.RegionHeld3
import Derived.Deep.RegionLaw
import Derived.StillTailTactics
import Derived.Test.YtfoejbnbmmdmfaaA
import Derived.Deep.AppendLies
namespace Go.Proofs.Ytfoejbnbmmdmfaa.Aux
open Go.ChangeShapes Go.WideShapes Go.ChangeAt Go.RowKit
open Go.ChangeMaps (open_string shut_string)
set_option linter.unusedVariables false
open Fl Pb Qd Aux
/-- The list that is merged: its block, what it holds. -/
def In (n s : Nat) (K : Nat → Int) (E : Nat → Bool) (D : Nat → Nat) (w : World) (V : Nat → Value) : Prop :=
  Fblk w s 38 (n * 2) V ∧ OneV (n * 2) V ∧ ∀ i, i < n → SAt w (s + 1) K E D i (V (i * 2)) ∧ ∃ x, V (i * 2 + 1) = .int .i32 x
/-- What stands at the end of the merged part. -/
def Hd (h0 n : Nat) (V : Nat → Value) (M : Nat → Nat) (k : Nat) (did : Bool) (wr : World) (v : Value) : Prop :=
  (did = false ∧ ∃ j, j < n ∧ j ≤ k ∧ v = V (j * 2)) ∨ (did = true ∧ ∃ b g c kd ex L xs, v = .iface 43 (.pointer (some ⟨b, 0, none⟩)) ∧ h0 ≤ b ∧ wr.heap[b]? = some (.cells #[.slice (some ⟨g, 0, none⟩) L c, .int .u8 kd, .bool ex, .bool false] 48 (0, 0)) ∧
    wr.ownsRow h0 60 4 (.slice (some ⟨g, 0, none⟩) L c) L xs ∧ g ≠ b ∧ L ≤ M (k + 1))
def MI (w : World) (n s : Nat) (M : Nat → Nat) (V : Nat → Value) (k q : Nat) (did : Bool) (wr : World) : Prop :=
  Chg (fun b => b = s) w wr ∧ q ≤ k ∧ ∃ V', Fblk wr s 38 (n * 2) V' ∧ OneV (n * 2) V' ∧ (∀ i, k < i → i < n → V' (i * 2) = V (i * 2) ∧ V' (i * 2 + 1) = V (i * 2 + 1)) ∧ Hd w.heap.size n V M k did wr (V' (q * 2))
def MP (w : World) (s : Nat) (e : Ending) (w' : World) : Prop := (∃ l c, e = .returned (.slice (some ⟨s, 0, none⟩) l c)) ∧ Chg (fun b => b = s) w w'
theorem ta43 (b : Addr) (w : World) : (Instr.typeAssert (.iface 43 (.pointer (some b))) 34 43 true).run Try.prog w = .ok (.tuple #[.pointer (some b), .bool true]) w := by kernel_rfl
theorem ta65 (b : Addr) (w : World) : (Instr.typeAssert (.iface 65 (.pointer (some b))) 34 43 true).run Try.prog w = .ok (.tuple #[.pointer none, .bool false]) w := by kernel_rfl
theorem ta49 (b : Addr) (w : World) : (Instr.typeAssert (.iface 49 (.pointer (some b))) 52 49 true).run Try.prog w = .ok (.tuple #[.pointer (some b), .bool true]) w := by kernel_rfl
theorem nx_mono (K : Nat → Int) (D : Nat → Nat) : ∀ j i, nx K D i ≤ nx K D (i + j)
  | 0, i => Nat.le_refl _
  | j + 1, i => by
    have := nx_mono K D j i
    rw [← Nat.add_assoc]
    simp only [nx]
    split <;> omega
theorem Hd.keep {h0 n : Nat} {V : Nat → Value} {M : Nat → Nat} {k : Nat} {did : Bool} {wr w' : World} {v : Value} (h : Hd h0 n V M k did wr v) (hb : ∀ k, k < wr.heap.size → h0 ≤ k → w'.heap[k]? = wr.heap[k]?) : Hd h0 n V M k did w' v := by
  rcases h with h | ⟨h1, b, g, c, kd, ex, L, xs, h2, h3, h4, h5, h6, h7⟩
  · exact .inl h
  · refine .inr ⟨h1, b, g, c, kd, ex, L, xs, h2, h3, (hb b (lt_of_blk h4) h3).trans h4, ?_, h6, by omega⟩
    obtain ⟨a1, a2⟩ := h5
    refine ⟨a1, ?_⟩
    rcases a2 with ⟨a2, _⟩ | ⟨g', cap, cur, a2, a3, a4, a5⟩
    · cases a2
    · exact .inr ⟨g', cap, cur, a2, a3, (hb g' (lt_of_blk a4) a3).trans a4, a5⟩
theorem MI.start {w : World} {n s : Nat} {K : Nat → Int} {E : Nat → Bool} {D : Nat → Nat} {V : Nat → Value} (h : In n s K E D w V) (hn : 0 < n) (M : Nat → Nat) : MI w n s M V 0 0 false w :=
  ⟨Chg.refl _ _, Nat.le_refl _, V, h.1, h.2.1, fun i _ _ => ⟨rfl, rfl⟩, .inl ⟨rfl, 0, hn, Nat.le_refl _, rfl⟩⟩
/-- Where the walk reads and writes. -/
theorem MI.cells {w wr : World} {n s : Nat} {M : Nat → Nat} {V : Nat → Value} {k q : Nat} {did : Bool} (h : MI w n s M V k q did wr) (hk : k + 1 < n) :
    wr.cell? ⟨s, (k + 1) * 2, none⟩ = some (V ((k + 1) * 2)) ∧ wr.cell? ⟨s, (k + 1) * 2 + 1, none⟩ = some (V ((k + 1) * 2 + 1)) ∧ (∀ j, wr.frozen? ⟨s, j, none⟩ = false) ∧ (∀ j, j < n * 2 → ∃ v, wr.cell? ⟨s, j, none⟩ = some v) ∧ s < wr.heap.size ∧ w.heap.size ≤ wr.heap.size := by
  obtain ⟨h1, h2, V', h3, h4, h5, h6⟩ := h
  obtain ⟨a, b⟩ := h5 (k + 1) (by omega) hk
  exact ⟨by rw [← a]; exact h3.cell _ (by omega), by rw [← b]; exact h3.cell _ (by omega), fun j => h3.frozen j, fun j hj => ⟨_, h3.cell j hj⟩, h3.lt, h1.size⟩
theorem MI.headCell {w wr : World} {n s : Nat} {M : Nat → Nat} {V : Nat → Value} {k q : Nat} {did : Bool} (h : MI w n s M V k q did wr) (hk : k < n) : ∃ v, wr.cell? ⟨s, q * 2, none⟩ = some v ∧ Hd w.heap.size n V M k did wr v := by
  obtain ⟨h1, h2, V', h3, h4, h5, h6⟩ := h
  exact ⟨_, h3.cell _ (by omega), h6⟩
/-- The statement is put behind the merged part. -/
theorem MI.normal {w wr : World} {n s : Nat} {M : Nat → Nat} {V : Nat → Value} {k q : Nat} {did : Bool} (h : MI w n s M V k q did wr) (hV : OneV (n * 2) V) (hk : k + 1 < n) (o : Obj) :
    MI w n s M V (k + 1) (q + 1) false (((wr.setCell ⟨s, (q + 1) * 2, none⟩ (V ((k + 1) * 2))).setCell ⟨s, (q + 1) * 2 + 1, none⟩ (V ((k + 1) * 2 + 1))).alloc o) := by
  obtain ⟨h1, h2, V', h3, h4, h5, h6⟩ := h
  refine ⟨((h1.setCell (.inl rfl) _).setCell (.inl rfl) _).alloc _, by omega, _, ((h3.set _ _).set _ _).alloc _, (h4.upd _ _ (hV _ (by omega))).upd _ _ (hV _ (by omega)), fun i hi hin => ?_, .inl ⟨rfl, k + 1, hk, Nat.le_refl _, ?_⟩⟩
  · rw [upd_other _ _ _ _ (by omega), upd_other _ _ _ _ (by omega), upd_other _ _ _ _ (by omega), upd_other _ _ _ _ (by omega)]
    exact h5 i (by omega) hin
  · rw [upd_other _ _ _ _ (by omega), upd_same]
theorem MI.drewN {w wr : World} {n s : Nat} {M : Nat → Nat} {V : Nat → Value} {k q : Nat} {did : Bool} (h : MI w n s M V k q did wr) (j : Nat) : MI w n s M V k q did (wr.drewN j) := by
  obtain ⟨h1, h2⟩ := h
  exact ⟨⟨h1.os, h1.tape, h1.output, h1.size, h1.block⟩, h2⟩
theorem MI.alloc {w wr : World} {n s : Nat} {M : Nat → Nat} {V : Nat → Value} {k q : Nat} {did : Bool} (h : MI w n s M V k q did wr) (o : Obj) : MI w n s M V k q did (wr.alloc o) := by
  obtain ⟨h1, h2, V', h3, h4, h5, h6⟩ := h
  exact ⟨h1.alloc o, h2, V', h3.alloc o, h4, h5, h6.keep fun k hk _ => Below.heap_alloc _ _ _ hk⟩
theorem MI.put {w wr : World} {n s : Nat} {M : Nat → Nat} {V : Nat → Value} {k q : Nat} {did : Bool} (h : MI w n s M V k q did wr) (hV : OneV (n * 2) V) (hk : k + 1 < n) {v0 v1 : Value} (h0 : V ((k + 1) * 2) = v0) (h1 : V ((k + 1) * 2 + 1) = v1) :
    MI w n s M V (k + 1) (q + 1) false ((wr.setCell ⟨s, (q + 1) * 2, none⟩ v0).setCell ⟨s, (q + 1) * 2 + 1, none⟩ v1) := by
  obtain ⟨a1, h2, V', h3, h4, h5, h6⟩ := h
  subst h0
  subst h1
  refine ⟨(a1.setCell (.inl rfl) _).setCell (.inl rfl) _, by omega, _, (h3.set _ _).set _ _, (h4.upd _ _ (hV _ (by omega))).upd _ _ (hV _ (by omega)), fun i hi hin => ?_, .inl ⟨rfl, k + 1, hk, Nat.le_refl _, ?_⟩⟩
  · rw [upd_other _ _ _ _ (by omega), upd_other _ _ _ _ (by omega), upd_other _ _ _ _ (by omega), upd_other _ _ _ _ (by omega)]
    exact h5 i (by omega) hin
  · rw [upd_other _ _ _ _ (by omega), upd_same]
/-- make([]Decl, 0, N). -/
theorem mkD (N : Nat) (hN : N ≤ 131072) {cs : Array Value} (hcs : (Value.agg #[.nilIface, .int .i32 0, .nilIface, .int .i32 0]).cells = cs) (w : World) : (Instr.makeSlice 45 (.int .i64 0) (.int .i64 N)).run Try.prog w = .ok (.slice (some ⟨w.heap.size, 0, none⟩) 0 N) (w.alloc (.cells (madeCells cs (N * 4)) 60)) := by
  obtain ⟨i0, hi, hz0, hz1, hz2⟩ := info_parts dInfo
  have h := run_make (P := Try.prog) w 45 60 i0 _ Try.underlying45 hi hz0 .i64 .i64 0 (N : Int) (Int.le_refl _) (by omega) (by rw [hz2]; omega) (by omega)
  rw [hz1, hcs] at h
  simpa using h
def C0 (wr : World) (cb : Nat) (kd : Int) (ex : Bool) (W : World) : Prop := Chg (fun _ => False) wr W ∧ wr.heap.size ≤ cb ∧ ∃ v, W.heap[cb]? = some (.cells #[v, .int .u8 kd, .bool ex, .bool false] 48 (0, 0))
theorem C0.start (wr : World) (o : Obj) (nq : Nat) (v : Value) (kd : Int) (ex : Bool) : C0 wr (wr.heap.size + 1) kd ex (((wr.alloc o).drewN nq).alloc (.cells #[v, .int .u8 kd, .bool ex, .bool false] 48)) := by
  have h1 := heap_alloc_new ((wr.alloc o).drewN nq) (.cells #[v, .int .u8 kd, .bool ex, .bool false] 48)
  have e : ((wr.alloc o).drewN nq).heap.size = wr.heap.size + 1 := by show (wr.alloc o).heap.size = _; simp
  rw [e] at h1
  have h2 : Chg (fun _ => False) wr ((wr.alloc o).drewN nq) := by
    have h3 : Chg (fun _ => False) wr (wr.alloc o) := (Chg.refl _ _).alloc o
    exact ⟨h3.os, h3.tape, h3.output, h3.size, h3.block⟩
  exact ⟨h2.alloc _, by omega, v, h1⟩
/-- The clone under way: its block, its declarations' row. -/
def CL (S : Nat → Prop) (wr : World) (cb L : Nat) (kd : Int) (ex : Bool) (W : World) (v0 : Value) : Prop :=
  Chg S wr W ∧ wr.heap.size ≤ cb ∧ W.heap[cb]? = some (.cells #[v0, .int .u8 kd, .bool ex, .bool false] 48 (0, 0)) ∧ ∃ g c xs, v0 = .slice (some ⟨g, 0, none⟩) L c ∧ W.ownsRow wr.heap.size 60 4 v0 L xs ∧ g ≠ cb
theorem CL.drewN {S : Nat → Prop} {wr W : World} {cb L : Nat} {kd : Int} {ex : Bool} {v0 : Value} (h : CL S wr cb L kd ex W v0) (n : Nat) : CL S wr cb L kd ex (W.drewN n) v0 := by
  obtain ⟨h1, h2⟩ := h
  exact ⟨⟨h1.os, h1.tape, h1.output, h1.size, h1.block⟩, h2⟩
theorem C0.cells {wr W : World} {cb : Nat} {kd : Int} {ex : Bool} (h : C0 wr cb kd ex W) : ∃ v, W.cell? ⟨cb, 0, none⟩ = some v ∧ W.frozen? ⟨cb, 0, none⟩ = false ∧ cb < W.heap.size := by
  obtain ⟨h1, h2, v, h3⟩ := h
  exact ⟨v, by rw [cell_of_row W cb 0 _ _ _ h3]; rfl, frozen_of_row W cb 0 _ _ h3, lt_of_blk h3⟩
theorem CL.alloc {S : Nat → Prop} {wr W : World} {cb L : Nat} {kd : Int} {ex : Bool} {v0 : Value} (h : CL S wr cb L kd ex W v0) (o : Obj) : CL S wr cb L kd ex (W.alloc o) v0 := by
  obtain ⟨h1, h2, h3, g, c, xs, h4, h5, h6⟩ := h
  exact ⟨h1.alloc o, h2, by rw [Below.heap_alloc _ _ _ (lt_of_blk h3)]; exact h3, g, c, xs, h4, h5.alloc o, h6⟩
/-- What a walk reads of it. -/
theorem CL.cells {S : Nat → Prop} {wr W : World} {cb L : Nat} {kd : Int} {ex : Bool} {v0 : Value} (h : CL S wr cb L kd ex W v0) : W.cell? ⟨cb, 0, none⟩ = some v0 ∧ W.frozen? ⟨cb, 0, none⟩ = false ∧ cb < W.heap.size ∧ wr.heap.size ≤ W.heap.size := by
  obtain ⟨h1, h2, h3, h4⟩ := h
  exact ⟨by rw [cell_of_row W cb 0 _ _ _ h3]; rfl, frozen_of_row W cb 0 _ _ h3, lt_of_blk h3, h1.size⟩
theorem CL.old {wr W : World} {cb L : Nat} {kd : Int} {ex : Bool} {v0 v : Value} {a : Addr} (h : CL (fun _ => False) wr cb L kd ex W v0) (hc : wr.cell? a = some v) : W.cell? a = some v := h.1.cell hc (fun h => h)
theorem fblk_list {w : World} {d n : Nat} {V : Nat → Value} (h : Fblk w d 60 n V) : ∀ j u, ((List.range n).map V)[j]? = some u → w.cell? ((⟨d, 0, none⟩ : Addr).add j) = some u := World.news_of_block (by simpa [Fblk] using h)
theorem CL.app {S : Nat → Prop} {wr W : World} {cb L : Nat} {kd : Int} {ex : Bool} {v0 : Value} (h : CL S wr cb L kd ex W v0) {d m c : Nat} {V : Nat → Value} (hd : Fblk W d 60 (m * 4) V) (ho : OneV (m * 4) V) (hL : L ≤ 65536) (hm : m ≤ 65536) :
    ∃ v' W', (Builtin.append_ #[45, 45] 45 #[v0, .slice (some ⟨d, 0, none⟩) m c]).run Try.prog W = .ok v' W' ∧ (∃ g c', v' = .slice (some ⟨g, 0, none⟩) (L + m) c' ∧ W'.cell? ⟨cb, 0, none⟩ = some v0 ∧ W'.frozen? ⟨cb, 0, none⟩ = false ∧ cb < W'.heap.size ∧ Hid (CL S wr cb (L + m) kd ex (W'.setCell ⟨cb, 0, none⟩ v') v') ∧ Hid (∀ j, j < wr.heap.size → (W'.setCell ⟨cb, 0, none⟩ v').heap[j]? = W.heap[j]?)) := by
  obtain ⟨h1, h2, h3, g, c0, xs, rfl, h4, h5⟩ := h
  obtain ⟨i0, hi, hz0, hz1, hz2⟩ := info_parts dInfo
  have hlist := fblk_list hd
  obtain ⟨v', W', hr, a1, a2, a3⟩ := Am.app_many (P := Try.prog) W (ty := 45) Try.underlying45 hi hz0 hz1 hz2 rfl (by omega) h4 ⟨d, 0, none⟩ m c _ (by simp) hlist (by
    intro u hu
    obtain ⟨j, hj, rfl⟩ := List.mem_map.1 hu
    exact ho j (List.mem_range.1 hj)) (by unfold maxLen; omega) (by omega) h1.size
  have hcb := lt_of_blk h3
  have h3' : W'.heap[cb]? = _ := (a2.block cb hcb (by simp [Value.ownBlock]; exact fun e => h5 e.symm)).trans h3
  have hg := (h4.lt g rfl).1
  have hC : Chg S wr W' := h1.transN (Chg.of_grown a2) (fun i hi e => by simp [Value.ownBlock] at e; omega)
  have hset := heap_setCell_same W' cb 0 _ 48 v' h3'
  rcases a1.2 with ⟨e1, e2⟩ | ⟨g', cap, cur, e1, e2, e3, e4⟩
  · exfalso
    subst e1
    rcases a3 with a3 | a3
    · simp [Value.ownBlock] at a3
    · have : L + m = 0 := e2
      obtain ⟨b1, b2⟩ := a1
      rcases h4.2 with ⟨q1, _⟩ | ⟨g2, cap, cur, q1, q2, q3, q4, q5, q6, q7⟩
      · cases q1
      · obtain ⟨rfl, rfl⟩ : g = g2 ∧ c0 = cap := by simpa using q1
        have hr2 := run_append_room (P := Try.prog) W 45 45 60 i0 Try.underlying45 hi _ L c0 cur q3 ⟨d, 0, none⟩ m c ((List.range (m * 4)).map V) (by rw [hz1]; simp) hlist (by
          intro u hu
          obtain ⟨j, hj, rfl⟩ := List.mem_map.1 hu
          exact ho j (List.mem_range.1 hj)) (by omega) (by rw [hz1]; simp; omega)
        rw [hr2] at hr
        injection hr with hr
        cases hr
  · subst e1
    have hne : g' ≠ cb := by
      rcases a3 with a3 | a3
      · simp [Value.ownBlock] at a3; omega
      · have := a3 g' rfl; omega
    refine ⟨_, W', hr, g', cap, rfl, by rw [cell_of_row W' cb 0 _ _ _ h3']; rfl, frozen_of_row W' cb 0 _ _ h3', lt_of_blk h3', Lib.hid ⟨hC.setCell (.inr h2) _, h2, by simpa using hset, ?_⟩, Lib.hid fun j hj => by rw [heap_setCell_other _ _ _ _ (by show j ≠ cb; omega)]; exact a2.block j (by have := h1.size; omega) (by simp [Value.ownBlock]; omega)⟩
    refine ⟨g', cap, _, rfl, ⟨a1.1, .inr ⟨g', cap, cur, rfl, e2, ?_, e4⟩⟩, hne⟩
    rw [heap_setCell_other _ _ _ _ (by simpa using hne)]
    exact e3
theorem CL.drew {S : Nat → Prop} {wr W : World} {cb L : Nat} {kd : Int} {ex : Bool} {v0 : Value} (h : CL S wr cb L kd ex W v0) : CL S wr cb L kd ex W.drew v0 := h.drewN 1
theorem CL.start {wr W : World} {cb : Nat} {kd : Int} {ex : Bool} (h : C0 wr cb kd ex W) (N : Nat) (hN : N ≤ 131072) (cs : Array Value) :
    CL (fun _ => False) wr cb 0 kd ex (((W.setCell ⟨cb, 0, none⟩ (.slice (some ⟨W.heap.size, 0, none⟩) 0 N)).alloc (.cells (madeCells cs (N * 4)) 60)).drew) (.slice (some ⟨W.heap.size, 0, none⟩) 0 N) := by
  obtain ⟨h1, h2, v, h3⟩ := h
  have hcb := lt_of_blk h3
  have hs : (W.setCell ⟨cb, 0, none⟩ (.slice (some ⟨W.heap.size, 0, none⟩) 0 N)).heap.size = W.heap.size := by simp [World.setCell]
  have hset := heap_setCell_same W cb 0 _ 48 (.slice (some ⟨W.heap.size, 0, none⟩) 0 N) h3
  have hnew := heap_alloc_new (W.setCell ⟨cb, 0, none⟩ (.slice (some ⟨W.heap.size, 0, none⟩) 0 N)) (.cells (madeCells cs (N * 4)) 60)
  rw [hs] at hnew
  have h4 : CL (fun _ => False) wr cb 0 kd ex ((W.setCell ⟨cb, 0, none⟩ (.slice (some ⟨W.heap.size, 0, none⟩) 0 N)).alloc (.cells (madeCells cs (N * 4)) 60)) (.slice (some ⟨W.heap.size, 0, none⟩) 0 N) := by
    refine ⟨(h1.setCell (.inr h2) _).alloc _, h2, ?_, W.heap.size, N, [], rfl, ⟨rfl, .inr ⟨W.heap.size, N, _, rfl, h1.size, hnew, Nat.zero_le _, by unfold maxLen; omega, by rw [size_madeCells], by simp⟩⟩, by omega⟩
    rw [Below.heap_alloc _ _ _ (by rw [hs]; exact hcb)]
    simpa using hset
  exact h4.drew
/-- The clone takes the head's place. -/
theorem MI.merge {w wr W : World} {n s : Nat} {M : Nat → Nat} {V : Nat → Value} {k q : Nat} {did : Bool} (h : MI w n s M V k q did wr) {cb L : Nat} {kd : Int} {ex : Bool} {v0 : Value} (hc : CL (fun _ => False) wr cb L kd ex W v0) (hL : L ≤ M (k + 2)) :
    MI w n s M V (k + 1) q true (W.setCell ⟨s, q * 2, none⟩ (.iface 43 (.pointer (some ⟨cb, 0, none⟩)))) := by
  obtain ⟨h1, h2, V', h3, h4, h5, h6⟩ := h
  obtain ⟨c1, c2, c3, g, c, xs, rfl, c4, c5⟩ := hc
  have hl := h3.lt
  have hw := h1.size
  have hg := (c4.lt g rfl).1
  have h3' : Fblk W s 38 (n * 2) V' := (c1.block s hl (fun h => h)).trans h3
  by_cases hq : q * 2 < n * 2
  · refine ⟨(h1.transN c1 (fun _ _ h => h.elim)).setCell (.inl rfl) _, by omega, _, h3'.set _ _, h4.upd _ _ rfl, fun i hi hin => ?_, .inr ⟨rfl, cb, g, c, kd, ex, L, xs, by rw [upd_same], by omega, ?_, ⟨c4.1, ?_⟩, c5, hL⟩⟩
    · rw [upd_other _ _ _ _ (by omega), upd_other _ _ _ _ (by omega)]
      exact h5 i (by omega) hin
    · rw [heap_setCell_other _ _ _ _ (by show cb ≠ s; omega)]; exact c3
    · rcases c4.2 with ⟨q1, _⟩ | ⟨g', cap, cur, q1, q2, q3, q4⟩
      · cases q1
      · obtain ⟨rfl, rfl⟩ : g = g' ∧ c = cap := by simpa using q1
        exact .inr ⟨g, c, cur, rfl, by omega, by rw [heap_setCell_other _ _ _ _ (by show g ≠ s; omega)]; exact q3, q4⟩
  · refine ⟨(h1.transN c1 (fun _ _ h => h.elim)).setCell (.inl rfl) _, by omega, _, h3'.set _ _, h4.upd _ _ rfl, fun i hi hin => ?_, .inr ⟨rfl, cb, g, c, kd, ex, L, xs, by rw [upd_same], by omega, ?_, ⟨c4.1, ?_⟩, c5, hL⟩⟩
    · omega
    · rw [heap_setCell_other _ _ _ _ (by show cb ≠ s; omega)]; exact c3
    · rcases c4.2 with ⟨q1, _⟩ | ⟨g', cap, cur, q1, q2, q3, q4⟩
      · cases q1
      · obtain ⟨rfl, rfl⟩ : g = g' ∧ c = cap := by simpa using q1
        exact .inr ⟨g, c, cur, rfl, by omega, by rw [heap_setCell_other _ _ _ _ (by show g ≠ s; omega)]; exact q3, q4⟩
/-- The clone is lengthened where it stands. -/
theorem MI.inplace {w wr W : World} {n s : Nat} {M : Nat → Nat} {V : Nat → Value} {k q : Nat} {did : Bool} (h : MI w n s M V k q did wr) {cb L : Nat} {kd : Int} {ex : Bool} {v0 : Value} (hc : CL (fun b => b = s) w cb L kd ex W v0) (hsb : W.heap[s]? = wr.heap[s]?) (hv : wr.cell? ⟨s, q * 2, none⟩ = some (.iface 43 (.pointer (some ⟨cb, 0, none⟩)))) (hq : q * 2 < n * 2) (hL : L ≤ M (k + 2)) :
    MI w n s M V (k + 1) q true W := by
  obtain ⟨h1, h2, V', h3, h4, h5, h6⟩ := h
  obtain ⟨c1, c2, c3, g, c, xs, rfl, c4, c5⟩ := hc
  have hvv : V' (q * 2) = .iface 43 (.pointer (some ⟨cb, 0, none⟩)) := by
    have := h3.cell (q * 2) hq
    rw [this] at hv
    injection hv
  exact ⟨c1, by omega, V', hsb.trans h3, h4, fun i hi hin => h5 i (by omega) hin, .inr ⟨rfl, cb, g, c, kd, ex, L, xs, hvv, c2, c3, c4, c5, hL⟩⟩
/-- An append at a step of a region that draws its order. -/
theorem step_app {P : Program} {ops : Array Oper} {o : Oper} {a : Act} {w : World} {K : Act → World → Prop} {Q : Exit → Act → World → Prop} {F : Prop} (hg : o.guard = none) (s x : Operand) (ts : Array TypeId)
    (ho : o.op = .call { callee := .builtin .append, args := #[s, x], argTypes := ts }) {v sv : Value} (hs : a.eval s = v) (hx : a.eval x = sv) {R : Value → World → Prop}
    (hr : ∃ v' w', (Builtin.append_ ts o.type #[v, sv]).run P w = .ok v' w' ∧ R v' w') (h : ∀ v' w', R v' w' → K (a.put o.dst v') w') :
    if Region.wanted o (yielded ops a.tmps) = true then Oper.wp P o a w K Q else F := by
  have hw : Region.wanted o (yielded ops a.tmps) = true := by simp [Region.wanted, hg]
  rw [if_pos hw]
  obtain ⟨v', w', hr, hR⟩ := hr
  unfold Oper.wp execOp
  simp only [ho, resolve, invoke, builtin, Sem.run_bind, Sem.run_pure, Result.andThen_ok, List.map_toArray, List.map_cons, List.map_nil, hs, hx, hr]
  exact h v' w' hR
set_option maxRecDepth 100000 in
set_option maxHeartbeats 8000000 in
theorem mrg (n s : Nat) (K : Nat → Int) (E : Nat → Bool) (D : Nat → Nat) (V : Nat → Value) (w : World) (h : In n s K E D w V) (hn : n ≤ 65536) (hs : ∀ i, i ≤ n → nx K D i ≤ 65536) (hD : ∀ i, i < n → D i ≤ 255) :
    Calls Try.prog 14 #[.slice (some ⟨s, 0, none⟩) n n] w (MP w s) := by
  have H := Lib.hid h
  have HS := Lib.hid hs
  clear h hs
  by_cases hn0 : n = 0
  · subst hn0
    go_enter Try.func14, Try.ntmps14
    go_wp2_with fail
    go_ret
    exact ⟨⟨_, _, rfl⟩, Chg.refl _ _⟩
  by_cases hn1 : n = 1
  · subst hn1
    go_enter Try.func14, Try.ntmps14
    go_wp2_with fail
    go_loop [4, 19] (fun e i => e = .int .i64 1 ∧ i = .int .i64 0) (fun _ _ => 0)
    case atStart => exact ⟨rfl, rfl⟩
    case round =>
      obtain ⟨rfl, rfl⟩ := hrel
      go_wp2_with fail
      go_ret
      exact ⟨⟨_, _, rfl⟩, Chg.refl _ _⟩
  have hn2 : (1 : Int) < (n : Int) := by omega
  have hn3 : ((n : Int) == 0) = false := by simp; omega
  have hn4 : ¬ n = 1 := hn1
  obtain ⟨cs, hcs⟩ : ∃ cs, (Value.agg #[.nilIface, .int .i32 0, .nilIface, .int .i32 0]).cells = cs := ⟨_, rfl⟩
  have HD := Lib.hid hD
  clear hD
  have HM0 := Lib.hid (MI.start H.out (by omega) (nx K D))
  clear hn0 hn1
  go_enter Try.func14, Try.ntmps14
  go_wp2_with fail
  go_loopw [3, 4, 19] (fun d e i wr => ∃ (k q : Nat) (did : Bool), k + 1 ≤ n ∧ i = .int .i64 k ∧ e = .int .i64 ((q : Int) + 1) ∧ d = .bool did ∧ q ≤ k ∧ Hid (MI w n s (nx K D) V k q did wr)) (fun _ _ i _ => n - (intOf i).toNat)
  case atStart => exact ⟨0, 0, false, by omega, rfl, by go_num, rfl, Nat.le_refl _, HM0⟩
  case round =>
    obtain ⟨k, q, did, hk, rfl, rfl, rfl, hqk, HM⟩ := hrel
    by_cases hlt : k + 1 < n
    · obtain ⟨d0, d1, hz, hc, hsl, hww⟩ := HM.out.cells hlt
      have hk1 : k < n - 1 := by omega
      have hk2 : (k : Int) < ((n - 1 : Nat) : Int) := by omega
      have hq2 : (q : Int) + 1 < (n : Int) := by omega
      obtain ⟨hat, x, hx⟩ := H.out.2.2 (k + 1) hlt
      rcases hat with ⟨h8, b, hv⟩ | ⟨h8, b, hv, hloc⟩
      · rw [hv] at d0
        rw [hx] at d1
        have e1 : (k + 1) * 2 = 2 + k * 2 := by omega
        rw [e1] at d0 d1
        clear e1
        obtain ⟨y0, c0⟩ := hc ((q + 1) * 2) (by omega)
        obtain ⟨y1, c1⟩ := hc ((q + 1) * 2 + 1) (by omega)
        have z0 := hz ((q + 1) * 2)
        have z1 := hz ((q + 1) * 2 + 1)
        have HN := Lib.hid (HM.out.normal H.out.2.1 hlt (.cells #[.iface 65 (.pointer (some ⟨b, 0, none⟩)), .int .i32 x] 38))
        rw [hv, hx] at HN
        have hta := ta65 ⟨b, 0, none⟩
        clear hc hz hv hx
        go_wp2_with fail
        go_roundw
        case rel => exact ⟨k + 1, q + 1, false, by omega, by go_num, by go_num, rfl, by omega, HN⟩
        case measure => simp [intOf]; omega
      · obtain ⟨hv0, hq0, hhd⟩ := HM.out.headCell (by omega)
        have HL := Lib.hid hloc
        obtain ⟨h8a, dd, VV, h8b, hbl, hfb, hov, _⟩ := hloc
        rw [hv] at d0
        rw [hx] at d1
        have e1 : (k + 1) * 2 = 2 + k * 2 := by omega
        rw [e1] at d0 d1
        clear e1
        obtain ⟨y0, c0⟩ := hc ((q + 1) * 2) (by omega)
        obtain ⟨y1, c1⟩ := hc ((q + 1) * 2 + 1) (by omega)
        have z0 := hz ((q + 1) * 2)
        have z1 := hz ((q + 1) * 2 + 1)
        have HN := Lib.hid (HM.out.normal H.out.2.1 hlt (.cells #[.iface 43 (.pointer (some ⟨b, 0, none⟩)), .int .i32 x] 38))
        rw [hv, hx] at HN
        have HVX := Lib.hid (And.intro hv hx)
        have hta := ta43 ⟨b, 0, none⟩
        have hrow : wr.heap[b]? = some (.cells #[.slice (some ⟨dd, 0, none⟩) (D (k + 1)) (D (k + 1)), .int .u8 (K (k + 1)), .bool (E (k + 1)), .bool false] 48 (0, 0)) := (HM.out.1.block b (lt_of_blk hbl) (by show ¬ b = s; omega)).trans hbl
        have a0 := cell_of_row wr b 0 _ _ _ hrow
        have a1 := cell_of_row wr b 1 _ _ _ hrow
        have a2 := cell_of_row wr b 2 _ _ _ hrow
        simp at a0 a1 a2
        have HR := Lib.hid hrow
        have HF := Lib.hid (show Fblk wr dd 60 (D (k + 1) * 4) VV from (HM.out.1.block dd hfb.lt (by show ¬ dd = s; omega)).trans hfb)
        have HO := Lib.hid hov
        have hbw := lt_of_blk hrow
        clear hc hz hv hx hrow hbl hfb hov
        rcases hhd with ⟨rfl, j, hj, hjk, rfl⟩ | ⟨rfl, b1, g, c, kd, ex, L, xs, rfl, hb1, hrow1, hown, hgb, hL⟩
        · obtain ⟨hatj, xj, hxj⟩ := H.out.2.2 j hj
          rcases hatj with ⟨j8, bj, hvj⟩ | ⟨j8, bj, hvj, hlocj⟩
          · rw [hvj] at hq0
            have htaj := ta65 ⟨bj, 0, none⟩
            clear hvj hxj
            go_wp2_with fail
            go_roundw
            case rel => exact ⟨k + 1, q + 1, false, by omega, by go_num, by go_num, rfl, by omega, HN⟩
            case measure => simp [intOf]; omega
          · rw [hvj] at hq0
            have htaj := ta43 ⟨bj, 0, none⟩
            have HLJ := Lib.hid hlocj
            have hD1 := HD.out j hj
            have hD2 := HD.out (k + 1) hlt
            have HLM : Hid (D j + D (k + 1) ≤ nx K D (k + 2)) := Lib.hid (by
              have := nx_mono K D (k - j) (j + 1)
              rw [show j + 1 + (k - j) = k + 1 by omega] at this
              simp only [nx, if_pos h8, if_pos j8] at this ⊢
              omega)
            obtain ⟨j8a, dj, VJ, j8b, hblj, hfbj, hovj, _⟩ := hlocj
            have hrowj : wr.heap[bj]? = some (.cells #[.slice (some ⟨dj, 0, none⟩) (D j) (D j), .int .u8 (K j), .bool (E j), .bool false] 48 (0, 0)) := (HM.out.1.block bj (lt_of_blk hblj) (by show ¬ bj = s; omega)).trans hblj
            have g0 := cell_of_row wr bj 0 _ _ _ hrowj
            have g1 := cell_of_row wr bj 1 _ _ _ hrowj
            have g2 := cell_of_row wr bj 2 _ _ _ hrowj
            have g3 := cell_of_row wr bj 3 _ _ _ hrowj
            simp at g0 g1 g2 g3
            have hbwj := lt_of_blk hrowj
            have HFJ := Lib.hid (show Fblk wr dj 60 (D j * 4) VJ from (HM.out.1.block dj hfbj.lt (by show ¬ dj = s; omega)).trans hfbj)
            have HOJ := Lib.hid hovj
            clear hvj hxj hrowj hblj hfbj hovj
            by_cases hkk : K j = K (k + 1)
            · have f1 : (K j == K (k + 1)) = true := by simpa using hkk
              by_cases hee : E j = E (k + 1)
              · have f2 : (E j == E (k + 1)) = true := by simpa using hee
                clear hkk hee
                go_wp2_with fail
                go_quiet (fail)
                go_wp2_with fail
                have HC0 := Lib.hid (C0.start wr (.cells #[.iface 43 (.pointer (some ⟨b, 0, none⟩)), .int .i32 x] 38) nq (.slice (some ⟨dj, 0, none⟩) (D j) (D j)) (K j) (E j))
                generalize ((wr.alloc (.cells #[.iface 43 (.pointer (some ⟨b, 0, none⟩)), .int .i32 x] 38)).drewN nq).alloc (.cells #[.slice (some ⟨dj, 0, none⟩) (D j) (D j), .int .u8 (K j), .bool (E j), .bool false] 48) = W at HC0 ⊢
                have p0 := HC0.out.1.cell g0 (fun h => h)
                have p1 := HC0.out.1.cell a0 (fun h => h)
                obtain ⟨c2, t0, t1, t2⟩ := HC0.out.cells
                have hlw := HC0.out.1.size
                have hb2 : b < W.heap.size := by omega
                have hb3 : bj < W.heap.size := by omega
                have hne1 : b ≠ wr.heap.size + 1 := by omega
                have hne2 : bj ≠ wr.heap.size + 1 := by omega
                have hmk := mkD (D j + D (k + 1)) (by omega) hcs
                rw [Int.natCast_add] at hmk
                have HCS := Lib.hid hcs
                have G0 := Lib.hid g0
                have A0 := Lib.hid a0
                clear hcs g0 g1 g2 g3 a0 a1 a2 d0 d1 hq0
                go_region
                go_wp2_with fail
                have HC1 := Lib.hid (CL.start HC0.out (D j + D (k + 1)) (by omega) cs)
                clear p0 p1 c2 t0 t1 t2 hb2 hb3 hlw hmk HC0
                generalize (Value.slice (some ⟨W.heap.size, 0, none⟩) 0 (D j + D (k + 1))) = v1 at HC1 ⊢
                generalize ((W.setCell ⟨wr.heap.size + 1, 0, none⟩ v1).alloc (.cells (madeCells cs ((D j + D (k + 1)) * 4)) 60)).drew = W1 at HC1 ⊢
                have p0 := HC1.out.old G0.out
                have p1 := HC1.out.old A0.out
                obtain ⟨t0, t1, t2, hlw⟩ := HC1.out.cells
                have hb2 : b < W1.heap.size := by omega
                have hb3 : bj < W1.heap.size := by omega
                go_region_law (refine step_app rfl _ _ #[45, 45] rfl rfl rfl (HC1.out.drew.app (c := D j) (show Fblk W1.drew dj 60 (D j * 4) VJ from (HC1.out.1.block dj HFJ.out.lt (fun h => h)).trans HFJ.out) HOJ.out (by omega) (by omega)) ?_; rintro v2 W2 ⟨g2, c2, rfl, q0, q1, q2, HC2, _⟩)
                all_goals go_wp2_with fail
                all_goals
                  rw [Nat.zero_add] at HC2
                  have HS1 := Lib.hid (HM.out.cells hlt)
                  clear p0 p1 t0 t1 t2 hlw hb2 hb3 q0 q1 q2 HC1
                  generalize (Value.slice (some ⟨g2, 0, none⟩) (D j) c2) = v3 at HC2 ⊢
                  generalize W2.setCell ⟨wr.heap.size + 1, 0, none⟩ v3 = W3 at HC2 ⊢
                  have p1 := HC2.out.old A0.out
                  obtain ⟨t0, t1, t2, hlw⟩ := HC2.out.cells
                  have hb2 : b < W3.heap.size := by omega
                  go_region_law (refine step_app rfl _ _ #[45, 45] rfl rfl rfl (HC2.out.drew.app (c := D (k + 1)) (show Fblk W3.drew dd 60 (D (k + 1) * 4) VV from (HC2.out.1.block dd HF.out.lt (fun h => h)).trans HF.out) HO.out (by omega) (by omega)) ?_; rintro v4 W4 ⟨g4, c4, rfl, q0, q1, q2, HC4, _⟩)
                  all_goals
                    clear p1 t0 t1 t2 hlw hb2
                    generalize (Value.slice (some ⟨g4, 0, none⟩) (D j + D (k + 1)) c4) = v5 at HC4 ⊢
                    generalize W4.setCell ⟨wr.heap.size + 1, 0, none⟩ v5 = W5 at HC4 ⊢
                    obtain ⟨yq, cq⟩ := HS1.out.2.2.2.1 (q * 2) (by omega)
                    have cq := HC4.out.1.cell cq (fun h => h)
                    have zq := (HC4.out.1.frozen (a := ⟨s, q * 2, none⟩) hsl (fun h => h)).trans (HS1.out.2.2.1 (q * 2))
                    have hs5 : s < W5.heap.size := by have := HC4.out.1.size; omega
                    go_wp2_with fail
                    go_roundw
                    case rel => exact ⟨k + 1, q, true, by omega, by go_num, rfl, rfl, by omega, Lib.hid (MI.merge HM.out HC4.out HLM.out)⟩
                    case measure => simp [intOf]; omega
              · have f2 : (E j == E (k + 1)) = false := by simpa using hee
                clear hkk hee
                go_wp2_with fail
                go_quiet (fail)
                go_wp2_with fail
                go_roundw
                case rel => exact ⟨k + 1, q + 1, false, by omega, by go_num, by go_num, rfl, by omega, Lib.hid (MI.put ((HM.out.alloc _).drewN _) H.out.2.1 hlt HVX.out.1 HVX.out.2)⟩
                case measure => simp [intOf]; omega
            · have f1 : (K j == K (k + 1)) = false := by simpa using hkk
              clear hkk
              go_wp2_with fail
              go_quiet (fail)
              go_wp2_with fail
              go_roundw
              case rel => exact ⟨k + 1, q + 1, false, by omega, by go_num, by go_num, rfl, by omega, Lib.hid (MI.put ((HM.out.alloc _).drewN _) H.out.2.1 hlt HVX.out.1 HVX.out.2)⟩
              case measure => simp [intOf]; omega
        · have htaj := ta43 ⟨b1, 0, none⟩
          have hsw := H.out.1.lt
          have HLM : Hid (L + D (k + 1) ≤ nx K D (k + 2)) := Lib.hid (by simp only [nx, if_pos h8] at hL ⊢; omega)
          have hM2 := HS.out (k + 2) (by omega)
          have hD2 := HD.out (k + 1) hlt
          have g0 := cell_of_row wr b1 0 _ _ _ hrow1
          have g1 := cell_of_row wr b1 1 _ _ _ hrow1
          have g2 := cell_of_row wr b1 2 _ _ _ hrow1
          simp at g0 g1 g2
          have hbwj := lt_of_blk hrow1
          have HC0 := Lib.hid (show CL (fun b => b = s) w b1 L kd ex wr (.slice (some ⟨g, 0, none⟩) L c) from ⟨HM.out.1, hb1, hrow1, g, c, xs, rfl, hown, hgb⟩)
          have hL2 : L ≤ 65536 := by have := HLM.out; omega
          clear hrow1 hown hL
          by_cases hkk : kd = K (k + 1)
          · have f1 : (kd == K (k + 1)) = true := by simpa using hkk
            by_cases hee : ex = E (k + 1)
            · have f2 : (ex == E (k + 1)) = true := by simpa using hee
              clear hkk hee
              go_wp2_with fail
              go_quiet (fail)
              go_wp2_with fail
              have HC1 : Hid (CL (fun b => b = s) w b1 L kd ex ((wr.alloc (.cells #[.iface 43 (.pointer (some ⟨b, 0, none⟩)), .int .i32 x] 38)).drewN nq) (.slice (some ⟨g, 0, none⟩) L c)) := Lib.hid ((HC0.out.alloc _).drewN nq)
              have HX : Hid (∀ j, j < wr.heap.size → ((wr.alloc (.cells #[.iface 43 (.pointer (some ⟨b, 0, none⟩)), .int .i32 x] 38)).drewN nq).heap[j]? = wr.heap[j]?) := Lib.hid fun j hj => (show (wr.alloc (.cells #[.iface 43 (.pointer (some ⟨b, 0, none⟩)), .int .i32 x] 38)).heap[j]? = _ from Below.heap_alloc _ _ _ hj)
              have p1 : ((wr.alloc (.cells #[.iface 43 (.pointer (some ⟨b, 0, none⟩)), .int .i32 x] 38)).drewN nq).cell? ⟨b, 0, none⟩ = _ := (World.cell?_of_block (a := ⟨b, 0, none⟩) (HX.out b hbw)).trans a0
              have hlw : wr.heap.size ≤ ((wr.alloc (.cells #[.iface 43 (.pointer (some ⟨b, 0, none⟩)), .int .i32 x] 38)).drewN nq).heap.size := by show _ ≤ (wr.alloc _).heap.size; simp
              have HFX := Lib.hid (show Fblk ((wr.alloc (.cells #[.iface 43 (.pointer (some ⟨b, 0, none⟩)), .int .i32 x] 38)).drewN nq) dd 60 (D (k + 1) * 4) VV from (HX.out dd HF.out.lt).trans HF.out)
              have HQ0 := Lib.hid hq0
              generalize (wr.alloc (.cells #[.iface 43 (.pointer (some ⟨b, 0, none⟩)), .int .i32 x] 38)).drewN nq = W1 at HC1 HX p1 hlw HFX ⊢
              clear g0 g1 g2 a0 a1 a2 d0 d1 hq0 y0 y1 c0 c1 z0 z1
              obtain ⟨t0, t1, t2, hlw2⟩ := HC1.out.cells
              have hb2 : b < W1.heap.size := by omega
              generalize (Value.slice (some ⟨g, 0, none⟩) L c) = v1 at HC1 t0 ⊢
              go_region_law (refine step_app rfl _ _ #[45, 45] rfl rfl rfl (HC1.out.drew.app (c := D (k + 1)) HFX.out HO.out (by omega) (by omega)) ?_; rintro v4 W4 ⟨g4, c4, rfl, q0, q1, q2, HC4, HX4⟩)
              all_goals
                go_wp2_with fail
                go_roundw
                case rel => exact ⟨k + 1, q, true, by omega, by go_num, rfl, rfl, by omega, Lib.hid (MI.inplace HM.out HC4.out ((HX4.out s hsw).trans (HX.out s hsl)) HQ0.out (by omega) HLM.out)⟩
                case measure => simp [intOf]; omega
            · have f2 : (ex == E (k + 1)) = false := by simpa using hee
              clear hkk hee
              go_wp2_with fail
              go_quiet (fail)
              go_wp2_with fail
              go_roundw
              case rel => exact ⟨k + 1, q + 1, false, by omega, by go_num, by go_num, rfl, by omega, Lib.hid (MI.put ((HM.out.alloc _).drewN _) H.out.2.1 hlt HVX.out.1 HVX.out.2)⟩
              case measure => simp [intOf]; omega
          · have f1 : (kd == K (k + 1)) = false := by simpa using hkk
            clear hkk
            go_wp2_with fail
            go_quiet (fail)
            go_wp2_with fail
            go_roundw
            case rel => exact ⟨k + 1, q + 1, false, by omega, by go_num, by go_num, rfl, by omega, Lib.hid (MI.put ((HM.out.alloc _).drewN _) H.out.2.1 hlt HVX.out.1 HVX.out.2)⟩
            case measure => simp [intOf]; omega
    · have hk3 : ¬ k < n - 1 := by omega
      have hq1 : (q : Int) + 1 ≤ (n : Int) := by omega
      have hq2 : q + 1 ≤ n := by omega
      go_wp2_with fail
      go_ret
      exact ⟨⟨_, _, rfl⟩, HM.out.1⟩
end Go.Proofs.Ytfoejbnbmmdmfaa.Aux
