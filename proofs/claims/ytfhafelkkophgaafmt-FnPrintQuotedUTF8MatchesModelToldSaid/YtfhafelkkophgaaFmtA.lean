/- Contracts of functions that the law of this seat reaches, and plain facts; no condition. -/
import Derived.Test.YtfhafelkkophgaaFmtProg
import Derived.WalkKit
import Derived.ProofKit
import Derived.OpenShut
import Derived.ShutString
import Derived.Test.YtfhafelkkophgaaFmtAid
import Derived.Test.YtfhafelkkophgaaFmtFl
import Derived.Test.YtfhafelkkophgaaFmtStr
import Derived.Test.YtfhafelkkophgaaFmtPb
import Derived.Test.YtfhafelkkophgaaFmtQd
import Derived.Test.YtfhafelkkophgaaFmtAm
import Derived.Shelf.Spec.EncodeRune
import Derived.ArgAppend
import Derived.WalkSpells
import Derived.LoopTactic
import Derived.IntWalk
import Derived.Outline
import Derived.Deep.QuietTactic
import Derived.BigQuiet
import Derived.Deep.RegionHeld3
import Derived.Deep.RegionLaw
import Derived.StillTailTactics
import Derived.OwnWalk
import Derived.RegionTactic
namespace Go.Proofs.YtfhafelkkophgaaFmt.Aux
open Go.ChangeShapes Go.WideShapes Go.ChangeAt Go.RowKit
open Go.ChangeMaps (open_string shut_string)
set_option linter.unusedVariables false
open Fl Str Pb Qd PlainAid
def rn : Go.Shelf.Ren := ⟨fun | 30 => 41 | 47 => 42 | n => n, fun | 25 => 50 | 27 => 57 | 30 => 25 | n => n, fun | n => n⟩
theorem ly : Go.Proofs.Lays7.n30 Tryf.prog rn where
  mixed := by kernel_rfl
  f30 := Tryf.func41.trans (congrArg some (by kernel_rfl))
  f47 := Tryf.func42.trans (congrArg some (by kernel_rfl))
  t0 := Tryf.underlying0
  a0 := Tryf.isAgg0
  z0 := Tryf.sizeOf0
  v0 := Tryf.zeroValue0
  i0 := by kernel_rfl
  t3 := Tryf.underlying3
  a3 := Tryf.isAgg3
  z3 := Tryf.sizeOf3
  v3 := Tryf.zeroValue3
  i3 := by kernel_rfl
  t4 := Tryf.underlying4
  a4 := Tryf.isAgg4
  z4 := Tryf.sizeOf4
  v4 := Tryf.zeroValue4
  i4 := by kernel_rfl
  t5 := Tryf.underlying5
  a5 := Tryf.isAgg5
  z5 := Tryf.sizeOf5
  v5 := Tryf.zeroValue5
  i5 := by kernel_rfl
  t21 := Tryf.underlying21
  a21 := Tryf.isAgg21
  z21 := Tryf.sizeOf21
  v21 := Tryf.zeroValue21
  i21 := by kernel_rfl
  t25 := Tryf.underlying50
  a25 := Tryf.isAgg50
  z25 := Tryf.sizeOf50
  v25 := Tryf.zeroValue50
  i25 := by kernel_rfl
  t27 := Tryf.underlying57
  a27 := Tryf.isAgg57
  z27 := Tryf.sizeOf57
  v27 := Tryf.zeroValue57
  i27 := by kernel_rfl
  t30 := Tryf.underlying25
  a30 := Tryf.isAgg25
  z30 := Tryf.sizeOf25
  v30 := Tryf.zeroValue25
  i30 := by kernel_rfl
theorem enc (b off len cap : Nat) (r : Int) (hlo : -2147483648 ≤ r) (hhi : r ≤ 2147483647) (w : World) (hl : (Lib.runeCells r).length ≤ len)
    (hc : ∀ j, j < (Lib.runeCells r).length → (w.cell? ⟨b, off + j, none⟩).isSome = true) (hf : ∀ j, j < (Lib.runeCells r).length → w.frozen? ⟨b, off + j, none⟩ = false) :
    Calls Tryf.prog 41 #[.slice (some ⟨b, off, none⟩) len cap, .int .i32 r] w fun e w' => e = .returned (.int .i64 (Lib.runeCells r).length) ∧ w' = w.setCells b off (Lib.runeCells r) :=
  Any7.utf8_EncodeRune ly b off len cap r hlo hhi w hl hc hf
theorem info5 : (Tryf.prog.info? 5).map (fun i => (i.zero, i.size, i.bytes)) = some (some (.int .u8 0), 1, 1) := by kernel_rfl
/-- The slice v holds the bytes xs in a row of its own, no byte of which is frozen behind them (the row may bear the mark of a conversion behind its end). -/
def OwnG (w : World) (B : Nat) (v : Value) (n : Nat) (xs : List Value) : Prop :=
  xs.length = n ∧ ((v = .slice none 0 0 ∧ n = 0) ∨ ∃ g cap cur fz, v = .slice (some ⟨g, 0, none⟩) n cap ∧ B ≤ g ∧ w.heap[g]? = some (.cells cur 5 fz) ∧ (fz.2 ≤ n ∨ cur.size ≤ fz.1) ∧ n ≤ cap ∧ cap ≤ maxLen ∧ cur.size = cap ∧ cur.toList.take n = xs)
theorem OwnG.of {w : World} {B : Nat} {v : Value} {n : Nat} {xs : List Value} (h : w.ownsRow B 5 1 v n xs) : OwnG w B v n xs := by
  obtain ⟨h1, h2⟩ := h
  refine ⟨by simpa using h1, ?_⟩
  rcases h2 with h2 | ⟨g, cap, cur, rfl, hb, hg, hnc, hcm, hcs, ht⟩
  · exact .inl h2
  · exact .inr ⟨g, cap, cur, (0, 0), rfl, hb, hg, .inl (Nat.zero_le _), hnc, hcm, by simpa using hcs, by simpa using ht⟩
theorem OwnG.lt {w : World} {B : Nat} {v : Value} {n : Nat} {xs : List Value} (h : OwnG w B v n xs) : ∀ k, v.ownBlock = some k → B ≤ k ∧ k < w.heap.size := by
  intro k hk
  rcases h.2 with ⟨rfl, _⟩ | ⟨g, cap, cur, fz, rfl, hb, hg, _⟩
  · cases hk
  · simp [Value.ownBlock] at hk
    subst hk
    exact ⟨hb, (Array.getElem?_eq_some_iff.1 hg).1⟩
theorem OwnG.slice {w : World} {B : Nat} {v : Value} {n : Nat} {xs : List Value} (h : OwnG w B v n xs) : ∃ a c, v = .slice a n c := by
  rcases h.2 with ⟨rfl, rfl⟩ | ⟨g, cap, cur, fz, rfl, _⟩
  · exact ⟨_, _, rfl⟩
  · exact ⟨_, _, rfl⟩
theorem OwnG.chg {Q : Nat → Prop} {w w' : World} {B : Nat} {v : Value} {n : Nat} {xs : List Value} (h : OwnG w B v n xs) (hc : Chg Q w w') (hn : ∀ k, v.ownBlock = some k → ¬ Q k) : OwnG w' B v n xs := by
  obtain ⟨h1, h2⟩ := h
  refine ⟨h1, ?_⟩
  rcases h2 with h2 | ⟨g, cap, cur, fz, rfl, hb, hg, rest⟩
  · exact .inl h2
  · exact .inr ⟨g, cap, cur, fz, rfl, hb, (hc.block g (Array.getElem?_eq_some_iff.1 hg).1 (hn g rfl)).trans hg, rest⟩
theorem OwnG.cells {w : World} {B g : Nat} {v : Value} {n : Nat} {xs : List Value} (h : OwnG w B v n xs) (hv : v.ownBlock = some g) : ∀ j u, xs[j]? = some u → w.cell? ((⟨g, 0, none⟩ : Addr).add j) = some u := by
  intro j u hu
  rcases h.2 with ⟨rfl, _⟩ | ⟨g', cap, cur, fz, rfl, _, hg, _, _, _, _, ht⟩
  · cases hv
  · simp [Value.ownBlock] at hv
    subst hv
    have e : (⟨g', 0, none⟩ : Addr).add j = ⟨g', j, none⟩ := by unfold Addr.add; simp; try omega
    rw [e, cell_of_row w g' j cur _ fz hg]
    rw [← ht, List.getElem?_take] at hu
    split at hu
    · simpa using hu
    · cases hu
/-- Bytes stored into a row, none of the written ones frozen. -/
theorem storeG (P : Program) (g : Nat) (t : TypeId) (fz : Nat × Nat) : ∀ (vs : List Value) (o i : Nat) (cur : Array Value) (w : World), w.heap[g]? = some (.cells cur t fz) → (fz.2 ≤ o + i ∨ cur.size ≤ fz.1) → o + i + vs.length ≤ cur.size → (∀ v ∈ vs, v.oneCell' = true) →
    (storeCells ⟨g, o, none⟩ vs i).run P w = .ok () (w.setRow g (cur.toList.take (o + i) ++ vs ++ cur.toList.drop (o + i + vs.length)).toArray)
  | [], o, i, cur, w, hg, _, _, _ => by
    simp only [storeCells, List.append_nil, List.length_nil, Nat.add_zero, List.take_append_drop, Array.toArray_toList]
    rw [setRow_self w g cur t fz hg]
    rfl
  | v :: rest, o, i, cur, w, hg, hfz, hl, h1 => by
    have hi : o + i < cur.size := by simp at hl; omega
    have hadd : (⟨g, o, none⟩ : Addr).add i = ⟨g, o + i, none⟩ := by unfold Addr.add; split <;> simp_all
    have hcell : w.cell? ⟨g, o + i, none⟩ = some cur[o + i] := by simp [World.cell?, hg, hi]
    have hfro : w.frozen? ⟨g, o + i, none⟩ = false := by
      obtain ⟨lo, hi'⟩ := fz
      simp only [World.frozen?, hg, Bool.and_eq_false_iff, decide_eq_false_iff_not]
      simp only at hfz
      omega
    have hst : (store ((⟨g, o, none⟩ : Addr).add i) v).run P w = .ok () (w.setRow g (cur.setIfInBounds (o + i) v)) := by
      rw [hadd, run_store P w _ v _ (h1 v (by simp)), hcell]
      simp [hfro, setCell_eq_setRow w g (o + i) cur t fz v hg]
    have ih := storeG P g t fz rest o (i + 1) (cur.setIfInBounds (o + i) v) (w.setRow g (cur.setIfInBounds (o + i) v)) (setRow_heap w g cur _ t _ hg) (by simp; omega) (by simp at hl ⊢; omega) (fun x hx => h1 x (by simp [hx]))
    simp only [storeCells, Sem.run_bind, hst, Result.andThen_ok, ih, setRow_setRow]
    congr 3
    have e := list_seg_step cur.toList (o + i) v rest (by simp at hl ⊢; omega)
    simpa [Array.toList_setIfInBounds, Nat.add_assoc] using e
section
variable (w : World) {B : Nat} {v : Value} {xs : List Value}
theorem roomG {g cap n : Nat} {cur : Array Value} {fz : Nat × Nat} (news : List Value) {k : Nat} (hk : news.length = k) (hx : xs.length = n) (hB : B ≤ g) (hg : w.heap[g]? = some (.cells cur 5 fz)) (hfz : fz.2 ≤ n ∨ cur.size ≤ fz.1) (hroom : n + k ≤ cap) (hcm : cap ≤ maxLen) (hcs : cur.size = cap) (ht : cur.toList.take n = xs) :
    OwnG (w.setRow g (cur.toList.take n ++ news ++ cur.toList.drop (n + k)).toArray) B (.slice (some ⟨g, 0, none⟩) (n + k) cap) (n + k) (xs ++ news) ∧ w.grownBy (w.setRow g (cur.toList.take n ++ news ++ cur.toList.drop (n + k)).toArray) (some g) := by
  have hsz : (cur.toList.take n ++ news ++ cur.toList.drop (n + k)).toArray.size = cap := by
    simp only [List.size_toArray, List.length_append, List.length_take, List.length_drop, Array.length_toList]
    omega
  refine ⟨⟨by rw [List.length_append]; omega, .inr ⟨g, cap, _, fz, rfl, hB, setRow_heap w g cur _ _ _ hg, by rw [hsz]; omega, hroom, hcm, hsz, ?_⟩⟩, ⟨rfl, rfl, rfl, by simp, fun j _ hj => setRow_other w g j _ (fun e => hj (by rw [e]))⟩⟩
  rw [ht]
  have : (xs ++ news).length = n + k := by rw [List.length_append]; omega
  rw [← this]
  exact List.take_left
theorem growG {n k cap : Nat} (news : List Value) (hk : news.length = k) (hx : xs.length = n) (hB : B ≤ w.heap.size) (h63 : n + k ≤ maxLen) :
    OwnG (w.drew.alloc (.cells (xs.toArray ++ news.toArray ++ Builtin.zeroCells (Value.int .u8 0).cells (grownCap w (n + k) cap 5 - (n + k))) 5)) B (.slice (some ⟨w.heap.size, 0, none⟩) (n + k) (grownCap w (n + k) cap 5)) (n + k) (xs ++ news) := by
  have hge := grownCap_ge w (n + k) cap 5
  have hcm2 := grownCap_le_maxLen w (n + k) cap 5 h63
  have hl : (xs ++ news).length = n + k := by rw [List.length_append]; omega
  refine ⟨hl, .inr ⟨w.heap.size, _, _, (0, 0), rfl, hB, heap_alloc_new w.drew _, .inl (Nat.zero_le _), hge, hcm2, ?_, ?_⟩⟩
  · have hz1 : (Value.int IntKind.u8 0).cells.size = 1 := rfl
    simp only [Array.size_append, List.size_toArray, size_zeroCells, hz1]
    omega
  · simp only [Array.toList_append, List.append_assoc]
    rw [← List.append_assoc, ← hl]
    exact List.take_left
theorem strG (h : OwnG w B v xs.length xs) (s : ByteArray) (ty : TypeId) (h63 : xs.length + s.size ≤ 134217728) (hB : B ≤ w.heap.size) :
    ∃ v' w', (Builtin.append_ #[25, 9] ty #[v, .string s]).run Tryf.prog w = .ok v' w' ∧ OwnG w' B v' (xs.length + s.size) (xs ++ Lib.strCells s) ∧ w.grownBy w' v.ownBlock ∧ Same w v v' := by
  obtain ⟨i, hi, hz0, hz1, hz2⟩ := info_parts info5
  rcases id h.2 with ⟨rfl, hn⟩ | ⟨g, cap, cur, fz, rfl, hbg, hg, hfz, hnc, hcm, hcs, ht⟩
  · obtain ⟨v', w', q1, q2, q3, q4⟩ := app_string (P := Tryf.prog) (ty := ty) w (base := B) Tryf.underlying25 Tryf.underlying9 hi hz0 hz1 hz2 (v := .slice none 0 0) (xs := xs) ⟨by simp, .inl ⟨rfl, hn⟩⟩ s (by unfold maxLen; omega) (by omega) hB
    exact ⟨v', w', q1, OwnG.of q2, q3, q4⟩
  · by_cases hroom : xs.length + s.size ≤ cap
    · have hf := Lib.run_firstCells_string (P := Tryf.prog) w 1 s
      have hst := storeG Tryf.prog g 5 fz (Lib.strCells s) xs.length 0 cur w hg (by simpa using hfz) (by simpa [Lib.strCells_length] using (by omega : xs.length + s.size ≤ cur.size)) (Lib.strCells_oneCell s)
      simp only [Nat.add_zero, Lib.strCells_length] at hst
      have hr : (Builtin.append_ #[25, 9] ty #[.slice (some ⟨g, 0, none⟩) xs.length cap, .string s]).run Tryf.prog w = .ok (.slice (some ⟨g, 0, none⟩) (xs.length + s.size) cap) (w.setRow g (cur.toList.take xs.length ++ Lib.strCells s ++ cur.toList.drop (xs.length + s.size)).toArray) := by
        simp [Builtin.append_, run_underlying Tryf.underlying25, run_underlying Tryf.underlying9, sizeOf, typeInfo, hi, hz1, Builtin.lenOf, hroom, hf, Addr.add_lit, hst]
      obtain ⟨q1, q2⟩ := roomG w (Lib.strCells s) (Lib.strCells_length s) rfl hbg hg hfz hroom hcm hcs ht
      exact ⟨_, _, hr, q1, q2, .inl rfl⟩
    · have hr := Lib.run_append_grow_string (P := Tryf.prog) w 25 9 ty 5 i (.int .u8 0) Tryf.underlying25 Tryf.underlying9 hi hz0 ⟨g, 0, none⟩ xs.length cap xs (by rw [hz1]; simp) (h.cells (g := g) rfl) s (by omega) (by omega) (growslice_fits (by omega) (by rw [hz2]; omega))
      exact ⟨_, _, hr, growG w (Lib.strCells s) (Lib.strCells_length s) rfl hB (by unfold maxLen; omega), ⟨rfl, rfl, rfl, by simp, fun j hj _ => Below.heap_alloc w.drew _ j hj⟩, .inr fun k hk => by simp [Value.ownBlock] at hk; omega⟩
theorem slG (h : OwnG w B v xs.length xs) (a : Addr) (k c : Nat) (news : List Value) (hk : news.length = k) (hnews : ∀ j u, news[j]? = some u → w.cell? (a.add j) = some u) (h1 : ∀ u ∈ news, u.oneCell' = true) (ty : TypeId) (h63 : xs.length + k ≤ 134217728) (hB : B ≤ w.heap.size) :
    ∃ v' w', (Builtin.append_ #[25, 25] ty #[v, .slice (some a) k c]).run Tryf.prog w = .ok v' w' ∧ OwnG w' B v' (xs.length + k) (xs ++ news) ∧ w.grownBy w' v.ownBlock ∧ Same w v v' := by
  obtain ⟨i, hi, hz0, hz1, hz2⟩ := info_parts info5
  rcases id h.2 with ⟨rfl, hn⟩ | ⟨g, cap, cur, fz, rfl, hbg, hg, hfz, hnc, hcm, hcs, ht⟩
  · obtain ⟨v', w', q1, q2, q3, q4⟩ := app_slice (P := Tryf.prog) (ty := ty) w (base := B) Tryf.underlying25 hi hz0 hz1 hz2 rfl (v := .slice none 0 0) (xs := xs) ⟨by simp, .inl ⟨rfl, hn⟩⟩ a k c news hk hnews h1 (by unfold maxLen; omega) (by omega) hB
    exact ⟨v', w', q1, OwnG.of q2, q3, q4⟩
  · by_cases hroom : xs.length + k ≤ cap
    · have hf := run_firstCells_some (P := Tryf.prog) w 1 k a k c news (by omega) hnews
      have hst := storeG Tryf.prog g 5 fz news xs.length 0 cur w hg (by simpa using hfz) (by rw [hk]; omega) h1
      simp only [Nat.add_zero, hk] at hst
      have hr : (Builtin.append_ #[25, 25] ty #[.slice (some ⟨g, 0, none⟩) xs.length cap, .slice (some a) k c]).run Tryf.prog w = .ok (.slice (some ⟨g, 0, none⟩) (xs.length + k) cap) (w.setRow g (cur.toList.take xs.length ++ news ++ cur.toList.drop (xs.length + k)).toArray) := by
        simp [Builtin.append_, run_underlying Tryf.underlying25, sizeOf, typeInfo, hi, hz1, Builtin.lenOf, hroom, hf, Addr.add_lit, hst]
      obtain ⟨q1, q2⟩ := roomG w news hk rfl hbg hg hfz hroom hcm hcs ht
      exact ⟨_, _, hr, q1, q2, .inl rfl⟩
    · have hr := run_append_grow (P := Tryf.prog) w 25 ty 5 i (.int .u8 0) Tryf.underlying25 hi hz0 ⟨g, 0, none⟩ xs.length cap xs (by rw [hz1]; simp) (h.cells (g := g) rfl) a k c news (by rw [hz1]; omega) hnews (by omega) (by omega) (growslice_fits (by omega) (by rw [hz2]; omega))
      exact ⟨_, _, hr, growG w news hk rfl hB (by unfold maxLen; omega), ⟨rfl, rfl, rfl, by simp, fun j hj _ => Below.heap_alloc w.drew _ j hj⟩, .inr fun k hk => by simp [Value.ownBlock] at hk; omega⟩
end
/-- What is known of the printer's bytes while text is put behind them: v0, xs0: as they were at the start; m: how many have come at most. -/
structure US (w0 : World) (B tb : Nat) (v0 : Value) (xs0 : List Value) (m : Nat) (wr : World) (v : Value) (xs : List Value) : Prop where
  own : OwnG wr B v xs.length xs
  pre : ∃ X, xs = xs0 ++ X ∧ X.length ≤ m
  chg : Chg (fun b => v0.ownBlock = some b) w0 wr
  same : Same w0 v0 v
  tmp : ∃ cs : Array Value, wr.heap[tb]? = some (.cells cs 5 (0, 0)) ∧ cs.size = 4 ∧ (∀ u ∈ cs.toList, u.oneCell' = true)
  ne : v.ownBlock ≠ some tb
  tbl : w0.heap.size ≤ tb
section
variable {w0 wr W w' : World} {B tb m : Nat} {v0 v : Value} {xs0 xs : List Value}
theorem US.below (h : US w0 B tb v0 xs0 m wr v xs) (hb : Below wr.heap.size wr W) : US w0 B tb v0 xs0 m W v xs := by
  obtain ⟨h1, h2, h3, h4, ⟨tc, h5, h5'⟩, h6, h7⟩ := h
  have hc : Chg (fun _ => False) wr W := Chg.of_below hb (fun i a b => by omega)
  exact ⟨h1.chg hc (fun _ _ h => h), h2, h3.transN hc (fun _ _ h => h.elim), h4, ⟨tc, (hb.block _ (Array.getElem?_eq_some_iff.1 h5).1).trans h5, h5'⟩, h6, h7⟩
theorem US.mono {m' : Nat} (h : US w0 B tb v0 xs0 m wr v xs) (hm : m ≤ m') : US w0 B tb v0 xs0 m' wr v xs := by
  obtain ⟨X, e, hX⟩ := h.pre
  exact ⟨h.own, ⟨X, e, by omega⟩, h.chg, h.same, h.tmp, h.ne, h.tbl⟩
/-- After an append whose run is known. -/
theorem US.grown {v' : Value} {news : List Value} {k : Nat} (h : US w0 B tb v0 xs0 m wr v xs) (ho : OwnG w' B v' (xs.length + k) (xs ++ news)) (hk : news.length = k) (hg : wr.grownBy w' v.ownBlock) (hs : Same wr v v') : US w0 B tb v0 xs0 (m + k) w' v' (xs ++ news) := by
  obtain ⟨h1, ⟨X, e, hX⟩, h3, h4, ⟨tc, h5, h5'⟩, h6, h7⟩ := h
  have hsz := h3.size
  have htl : tb < wr.heap.size := (Array.getElem?_eq_some_iff.1 h5).1
  have hv : ∀ i, v.ownBlock = some i → v0.ownBlock = some i ∨ w0.heap.size ≤ i := fun i hi => by
    rcases h4 with h4 | h4
    · exact .inl (h4 ▸ hi)
    · exact .inr (h4 i hi)
  refine ⟨by rw [List.length_append, hk]; exact ho, ⟨X ++ news, by rw [e, List.append_assoc], by rw [List.length_append]; omega⟩, h3.transN (Chg.of_grown hg) (fun i hi he => (hv i he).elim id (fun h => absurd h (by omega))), ?_, ⟨tc, (hg.block tb htl (fun e => h6 e.symm)).trans h5, h5'⟩, ?_, h7⟩
  · rcases hs with hs | hs
    · rcases h4 with h4 | h4
      · exact .inl (hs.trans h4)
      · exact .inr fun k hk => h4 k (hs ▸ hk)
    · exact .inr fun k hk => by have := hs k hk; omega
  · rcases hs with hs | hs
    · rw [hs]; exact h6
    · exact fun e => by have := hs tb e; omega
theorem US.len (h : US w0 B tb v0 xs0 m wr v xs) : xs.length ≤ xs0.length + m := by
  obtain ⟨X, e, hX⟩ := h.pre
  rw [e, List.length_append]; omega
/-- append(js, s...). -/
theorem US.str (h : US w0 B tb v0 xs0 m wr v xs) (hB : B ≤ wr.heap.size) (s : ByteArray) (hm : xs0.length + m + s.size ≤ 134217728) (ty : TypeId) :
    ∃ v' w', (Builtin.append_ #[25, 9] ty #[v, .string s]).run Tryf.prog wr = .ok v' w' ∧ (∃ ja jn jc, v' = .slice ja jn jc ∧ Hid (US w0 B tb v0 xs0 (m + s.size) w' v' (xs ++ Lib.strCells s))) := by
  have hl := h.len
  obtain ⟨v', w', hr, ho, hg, hs⟩ := strG wr h.own s ty (by omega) hB
  obtain ⟨a', c', e⟩ := ho.slice
  exact ⟨v', w', hr, a', _, c', e, Lib.hid (h.grown ho (Lib.strCells_length s) hg hs)⟩
/-- append(js, source...), the source at the head of a block. -/
theorem US.sl (h : US w0 B tb v0 xs0 m wr v xs) (hB : B ≤ wr.heap.size) {sb k c : Nat} {cs : Array Value} (hs : wr.heap[sb]? = some (.cells cs 5 (0, 0))) (hk : k ≤ cs.size) (h1 : ∀ u ∈ cs.toList, u.oneCell' = true) (hm : xs0.length + m + k ≤ 134217728) (ty : TypeId) :
    ∃ v' w', (Builtin.append_ #[25, 25] ty #[v, .slice (some ⟨sb, 0, none⟩) k c]).run Tryf.prog wr = .ok v' w' ∧ (∃ ja jn jc, v' = .slice ja jn jc ∧ Hid (US w0 B tb v0 xs0 (m + k) w' v' (xs ++ cs.toList.take k))) := by
  have hl := h.len
  have hlk : (cs.toList.take k).length = k := by simp; omega
  obtain ⟨v', w', hr, ho, hg, hsm⟩ := slG wr h.own ⟨sb, 0, none⟩ k c (cs.toList.take k) hlk (by
    intro j u hj
    have e : (⟨sb, 0, none⟩ : Addr).add j = ⟨sb, j, none⟩ := by unfold Addr.add; simp; try omega
    have hjk : j < k := by
      by_cases hh : j < k
      · exact hh
      · rw [List.getElem?_eq_none (by omega)] at hj; cases hj
    rw [e, cell_of_row wr sb j _ _ _ hs]
    rw [List.getElem?_take_of_lt hjk] at hj
    simpa using hj) (fun u hu => h1 u (List.mem_of_mem_take hu)) ty (by omega) hB
  obtain ⟨a', c', e⟩ := ho.slice
  exact ⟨v', w', hr, a', _, c', e, Lib.hid (h.grown ho hlk hg hsm)⟩
/-- What lies below and is not the printer's bytes stays. -/
theorem US.cell (h : US w0 B tb v0 xs0 m wr v xs) {x : Addr} {u : Value} (hx : w0.cell? x = some u) (hn : v0.ownBlock ≠ some x.block) : wr.cell? x = some u := h.chg.cell hx hn
/-- append(js, b...) of a literal's bytes. -/
theorem US.one {ja : Option Addr} {jn jc : Nat} (h : US w0 B tb v0 xs0 m wr (.slice ja jn jc) xs) (hB : B ≤ w0.heap.size) (cs : Array Value) (k : Nat) (hk : cs.size = k) (h1 : ∀ u ∈ cs.toList, u.oneCell' = true) (hm : xs0.length + m + k ≤ 134217728) (ty : TypeId) (o : Nat) (ho : wr.heap.size = o) :
    ∃ v' w', (Builtin.append_ #[25, 25] ty #[.slice ja jn jc, .slice (some ⟨o, 0, none⟩) k k]).run Tryf.prog (wr.alloc (.cells cs 5)) = .ok v' w' ∧ (∃ ja jn jc, v' = .slice ja jn jc ∧ Hid (US w0 B tb v0 xs0 (m + k) w' v' (xs ++ cs.toList))) := by
  subst ho
  have hb : Below wr.heap.size wr (wr.alloc (.cells cs 5)) := by (repeat' (first | exact Below.refl _ _ | refine Below.drewR ?_ | (refine Below.alloc ?_ (by simp; omega) _) | (refine Below.alloc ?_ (by simp) _) | (refine Below.setCell ?_ (by simp; omega) _) | (refine Below.setCell ?_ (by simp) _)))
  have hz := h.chg.size
  obtain ⟨v', w', h2, ja', jn', jc', h3, h4⟩ := (h.below hb).sl (by have := hb.size; omega) (sb := wr.heap.size) (k := k) (c := k) (cs := cs) (heap_alloc_new _ _) (by omega) h1 hm ty
  refine ⟨v', w', h2, ja', jn', jc', h3, ?_⟩
  have e : cs.toList.take k = cs.toList := List.take_of_length_le (by simp; omega)
  rw [e] at h4
  exact h4
theorem US.drew (h : US w0 B tb v0 xs0 m wr v xs) : US w0 B tb v0 xs0 m wr.drew v xs := h.below (below_drew (Below.refl _ _))
def putL : List Value → Nat → List Value → List Value
  | l, _, [] => l
  | l, o, v :: r => putL (l.set o v) (o + 1) r
theorem putL_eq : ∀ (vs l : List Value) (o : Nat), o + vs.length ≤ l.length → putL l o vs = l.take o ++ vs ++ l.drop (o + vs.length)
  | [], l, o, h => by simp [putL]
  | v :: r, l, o, h => by
    simp only [List.length_cons] at h
    have ho : o < l.length := by omega
    rw [putL, putL_eq r (l.set o v) (o + 1) (by simp; omega)]
    have e1 : (l.set o v).take (o + 1) = l.take o ++ [v] := by
      rw [List.take_set, List.take_succ_eq_append_getElem ho, List.set_append_right _ _ (by simp; omega)]
      simp [Nat.min_eq_left (Nat.le_of_lt ho)]
    have e2 : (l.set o v).drop (o + 1 + r.length) = l.drop (o + (v :: r).length) := by
      rw [List.drop_set_of_lt (by omega)]
      congr 1
      simp; omega
    rw [e1, e2]
    simp
theorem row_setCells (t : TypeId) (b : Nat) : ∀ (vs : List Value) (o : Nat) (w : World) (cs : Array Value), w.heap[b]? = some (.cells cs t (0, 0)) → (w.setCells b o vs).heap[b]? = some (.cells (putL cs.toList o vs).toArray t (0, 0))
  | [], o, w, cs, h => by simpa [putL, World.setCells] using h
  | v :: r, o, w, cs, h => by
    have h2 : (w.setCell ⟨b, o, none⟩ v).heap[b]? = some (.cells (cs.setIfInBounds o v) t (0, 0)) := by rw [heap_setCell_same _ _ _ _ _ _ h]
    have := row_setCells t b r (o + 1) (w.setCell ⟨b, o, none⟩ v) _ h2
    rw [World.setCells, this]
    simp [putL]
theorem other_setCells (b j : Nat) (h : j ≠ b) : ∀ (vs : List Value) (o : Nat) (w : World), (w.setCells b o vs).heap[j]? = w.heap[j]? ∧ (w.setCells b o vs).heap.size = w.heap.size ∧ (w.setCells b o vs).os = w.os ∧ (w.setCells b o vs).tape = w.tape ∧ (w.setCells b o vs).output = w.output
  | [], o, w => ⟨rfl, rfl, rfl, rfl, rfl⟩
  | v :: r, o, w => by
    obtain ⟨h1, h2, h3, h4, h5⟩ := other_setCells b j h r (o + 1) (w.setCell ⟨b, o, none⟩ v)
    rw [World.setCells]
    exact ⟨h1.trans (heap_setCell_other _ _ _ _ (by simpa using h)), h2.trans (by simp [World.setCell]), h3, h4, h5⟩
/-- The scratch bytes are written. -/
theorem US.enc (h : US w0 B tb v0 xs0 m wr v xs) (vs : List Value) (hl : vs.length ≤ 4) (h1 : ∀ u ∈ vs, u.oneCell' = true) :
    US w0 B tb v0 xs0 m (wr.setCells tb 0 vs) v xs ∧ ∃ cs : Array Value, (wr.setCells tb 0 vs).heap[tb]? = some (.cells cs 5 (0, 0)) ∧ cs.size = 4 ∧ (∀ u ∈ cs.toList, u.oneCell' = true) ∧ cs.toList.take vs.length = vs := by
  obtain ⟨o1, o2, o3, o4, o5, o6, o7⟩ := h
  obtain ⟨tc, h5, h5', h5''⟩ := o5
  have hrow := row_setCells 5 tb vs 0 wr tc h5
  have hp := putL_eq vs tc.toList 0 (by simp; omega)
  have hall : ∀ u ∈ putL tc.toList 0 vs, u.oneCell' = true := by
    intro u hu
    rw [hp] at hu
    simp only [List.take_zero, List.nil_append, Nat.zero_add, List.mem_append] at hu
    rcases hu with hu | hu
    · exact h1 u hu
    · exact h5'' u (List.mem_of_mem_drop hu)
  have hsz : (putL tc.toList 0 vs).length = 4 := by rw [hp]; simp; omega
  have hcs : Chg (fun b => b = tb) wr (wr.setCells tb 0 vs) := by
    obtain ⟨_, q2, q3, q4, q5⟩ := other_setCells tb (tb + 1) (by omega) vs 0 wr
    exact ⟨q3, q4, q5, by omega, fun k _ hk => (other_setCells tb k hk vs 0 wr).1⟩
  refine ⟨⟨o1.chg hcs (fun k hk e => o6 (by rw [hk, e])), o2, o3.transN hcs (fun i hi e => by omega), o4, ⟨_, hrow, by simpa using hsz, by simpa using hall⟩, o6, o7⟩, _, hrow, by simpa using hsz, by simpa using hall, ?_⟩
  rw [hp]
  simp
theorem encP (h : US w0 B tb v0 xs0 m wr v xs) (r : Int) (hlo : -2147483648 ≤ r) (hhi : r ≤ 2147483647) :
    Calls Tryf.prog 41 #[.slice (some ⟨tb, 0, none⟩) 4 4, .int .i32 r] wr fun e w' => ∃ k : Nat, e = .returned (.int .i64 (k : Int)) ∧ k ≤ 4 ∧ Hid (US w0 B tb v0 xs0 m w' v xs ∧ ∃ cs : Array Value, w'.heap[tb]? = some (.cells cs 5 (0, 0)) ∧ cs.size = 4 ∧ (∀ u ∈ cs.toList, u.oneCell' = true) ∧ cs.toList.take k = Lib.runeCells r) := by
  have hlen : (Lib.runeCells r).length ≤ 4 := by rw [Lib.runeCells, List.length_map]; exact (Lib.encodeRuneZ_length r).2
  obtain ⟨tc, h5, h5', _⟩ := h.tmp
  refine (enc tb 0 4 4 r hlo hhi wr hlen (fun j hj => ?_) (fun j hj => frozen_of_row wr tb _ _ _ h5)).mono ?_
  · rw [Nat.zero_add, cell_of_row wr tb j _ _ _ h5]
    have : j < tc.size := by omega
    simp [this]
  · rintro e w' ⟨rfl, rfl⟩
    refine ⟨_, rfl, hlen, Lib.hid (h.enc _ hlen ?_)⟩
    intro u hu
    rw [Lib.runeCells] at hu
    obtain ⟨x, _, rfl⟩ := List.mem_map.1 hu
    rfl
/-- append(js, temp[:k]...). -/
theorem US.enc2 {ja : Option Addr} {jn jc k : Nat} {cs : List Value} (h : US w0 B tb v0 xs0 m wr (.slice ja jn jc) xs ∧ ∃ tc : Array Value, wr.heap[tb]? = some (.cells tc 5 (0, 0)) ∧ tc.size = 4 ∧ (∀ u ∈ tc.toList, u.oneCell' = true) ∧ tc.toList.take k = cs) (hB : B ≤ w0.heap.size) (hk : k ≤ 4) (hm : xs0.length + m + 4 ≤ 134217728) (ty : TypeId) :
    ∃ v' w', (Builtin.append_ #[25, 25] ty #[.slice ja jn jc, .slice (some ⟨tb, 0, none⟩) k 4]).run Tryf.prog wr = .ok v' w' ∧ (∃ ja jn jc, v' = .slice ja jn jc ∧ Hid (US w0 B tb v0 xs0 (m + 4) w' v' (xs ++ cs))) := by
  obtain ⟨h, tc, h1, h2, h3, rfl⟩ := h
  have hz := h.chg.size
  obtain ⟨v', w', q1, ja', jn', jc', q2, q3⟩ := h.sl (by omega) (sb := tb) (k := k) (c := 4) h1 (by omega) h3 (by omega) ty
  exact ⟨v', w', q1, ja', jn', jc', q2, Lib.hid (q3.out.mono (by omega))⟩
end
def firstLoop : Code → Option Code
  | .loop c => some c
  | .seq a b => match firstLoop a with
    | some c => some c
    | none => firstLoop b
  | .block _ c => firstLoop c
  | .scope c => firstLoop c
  | .cond _ a b => match firstLoop a with
    | some c => some c
    | none => firstLoop b
  | _ => none
noncomputable def ubody : Code := ((Tryf.f35.body.bind firstLoop).getD .skip)
/-- Where the loop stands. -/
def URel (w0 : World) (B tb : Nat) (v0 : Value) (xs0 : List Value) (n : Nat) (j i : Value) (wr : World) : Prop :=
  ∃ k : Nat, k ≤ n ∧ i = .int .i64 k ∧ ∃ ja jn jc xs, j = .slice ja jn jc ∧ Hid (US w0 B tb v0 xs0 (12 * k) wr (.slice ja jn jc) xs)
def Umu (n : Nat) (a : Act) : Nat := n - (intOf (a.tmps.getD 10 undef)).toNat
set_option maxRecDepth 1000000 in
def UI (w0 : World) (B p tb : Nat) (v0 : Value) (xs0 : List Value) (a : Option Addr) (n c : Nat) (q fl : Int) (c4 c5 c6 c7 c24 c25 c26 c27 c28 c29 c30 c31 c32 c33 c34 c35 c36 c37 c38 c39 c40 c41 c42 c43 c44 c45 c46 c47 c48 c49 c50 c51 c52 c53 c54 c55 c443 c444 c445 c446 : Value) (a' : Act) (w' : World) : Prop := ∃ u9 u10 u12 u14 u15 u16 u17 u18 u19 u20 u21 u22 u23 u56 u57 u58 u59 u60 u61 u62 u63 u64 u65 u66 u67 u68 u69 u70 u71 u72 u73 u74 u75 u76 u77 u78 u79 u80 u81 u82 u83 u84 u85 u86 u87 u88 u89 u90 u91 u92 u93 u94 u95 u96 u97 u98 u99 u100 u101 u102 u103 u104 u105 u106 u107 u108 u109 u110 u111 u112 u113 u114 u115 u116 u117 u118 u119 u120 u121 u122 u123 u124 u125 u126 u127 u128 u129 u130 u131 u132 u133 u134 u135 u136 u137 u138 u139 u140 u141 u142 u143 u144 u145 u146 u147 u148 u149 u150 u151 u152 u153 u154 u155 u156 u157 u158 u159 u160 u161 u162 u163 u164 u165 u166 u167 u168 u169 u170 u171 u172 u173 u174 u175 u176 u177 u178 u179 u180 u181 u182 u183 u184 u185 u186 u187 u188 u189 u190 u191 u192 u193 u194 u195 u196 u197 u198 u199 u200 u201 u202 u203 u204 u205 u206 u207 u208 u209 u210 u211 u212 u213 u214 u215 u216 u217 u218 u219 u220 u221 u222 u223 u224 u225 u226 u227 u228 u229 u230 u231 u232 u233 u234 u235 u236 u237 u238 u239 u240 u241 u242 u243 u244 u245 u246 u247 u248 u249 u250 u251 u252 u253 u254 u255 u256 u257 u258 u259 u260 u261 u262 u263 u264 u265 u266 u267 u268 u269 u270 u271 u272 u273 u274 u275 u276 u277 u278 u279 u280 u281 u282 u283 u284 u285 u286 u287 u288 u289 u290 u291 u292 u293 u294 u295 u296 u297 u298 u299 u300 u301 u302 u303 u304 u305 u306 u307 u308 u309 u310 u311 u312 u313 u314 u315 u316 u317 u318 u319 u320 u321 u322 u323 u324 u325 u326 u327 u328 u329 u330 u331 u332 u333 u334 u335 u336 u337 u338 u339 u340 u341 u342 u343 u344 u345 u346 u347 u348 u349 u350 u351 u352 u353 u354 u355 u356 u357 u358 u359 u360 u361 u362 u363 u364 u365 u366 u367 u368 u369 u370 u371 u372 u373 u374 u375 u376 u377 u378 u379 u380 u381 u382 u383 u384 u385 u386 u387 u388 u389 u390 u391 u392 u393 u394 u395 u396 u397 u398 u399 u400 u401 u402 u403 u404 u405 u406 u407 u408 u409 u410 u411 u412 u413 u414 u415 u416 u417 u418 u419 u420 u421 u422 u423 u424 u425 u426 u427 u428 u429 u430 u431 u432 u433 u434 u435 u436 u437 u438 u439 u440 u441 u442 : Value, URel w0 B tb v0 xs0 n u9 u10 w' ∧ a' = ⟨#[.pointer (some ⟨p, 0, none⟩), .slice a n c, .int .i32 q, .int .u8 fl, c4, c5, c6, c7, .slice (some ⟨tb, 0, none⟩) 4 4, u9, u10, .int .i64 (n : Int), u12, .bool false, u14, u15, u16, u17, u18, u19, u20, u21, u22, u23, c24, c25, c26, c27, c28, c29, c30, c31, c32, c33, c34, c35, c36, c37, c38, c39, c40, c41, c42, c43, c44, c45, c46, c47, c48, c49, c50, c51, c52, c53, c54, c55, u56, u57, u58, u59, u60, u61, u62, u63, u64, u65, u66, u67, u68, u69, u70, u71, u72, u73, u74, u75, u76, u77, u78, u79, u80, u81, u82, u83, u84, u85, u86, u87, u88, u89, u90, u91, u92, u93, u94, u95, u96, u97, u98, u99, u100, u101, u102, u103, u104, u105, u106, u107, u108, u109, u110, u111, u112, u113, u114, u115, u116, u117, u118, u119, u120, u121, u122, u123, u124, u125, u126, u127, u128, u129, u130, u131, u132, u133, u134, u135, u136, u137, u138, u139, u140, u141, u142, u143, u144, u145, u146, u147, u148, u149, u150, u151, u152, u153, u154, u155, u156, u157, u158, u159, u160, u161, u162, u163, u164, u165, u166, u167, u168, u169, u170, u171, u172, u173, u174, u175, u176, u177, u178, u179, u180, u181, u182, u183, u184, u185, u186, u187, u188, u189, u190, u191, u192, u193, u194, u195, u196, u197, u198, u199, u200, u201, u202, u203, u204, u205, u206, u207, u208, u209, u210, u211, u212, u213, u214, u215, u216, u217, u218, u219, u220, u221, u222, u223, u224, u225, u226, u227, u228, u229, u230, u231, u232, u233, u234, u235, u236, u237, u238, u239, u240, u241, u242, u243, u244, u245, u246, u247, u248, u249, u250, u251, u252, u253, u254, u255, u256, u257, u258, u259, u260, u261, u262, u263, u264, u265, u266, u267, u268, u269, u270, u271, u272, u273, u274, u275, u276, u277, u278, u279, u280, u281, u282, u283, u284, u285, u286, u287, u288, u289, u290, u291, u292, u293, u294, u295, u296, u297, u298, u299, u300, u301, u302, u303, u304, u305, u306, u307, u308, u309, u310, u311, u312, u313, u314, u315, u316, u317, u318, u319, u320, u321, u322, u323, u324, u325, u326, u327, u328, u329, u330, u331, u332, u333, u334, u335, u336, u337, u338, u339, u340, u341, u342, u343, u344, u345, u346, u347, u348, u349, u350, u351, u352, u353, u354, u355, u356, u357, u358, u359, u360, u361, u362, u363, u364, u365, u366, u367, u368, u369, u370, u371, u372, u373, u374, u375, u376, u377, u378, u379, u380, u381, u382, u383, u384, u385, u386, u387, u388, u389, u390, u391, u392, u393, u394, u395, u396, u397, u398, u399, u400, u401, u402, u403, u404, u405, u406, u407, u408, u409, u410, u411, u412, u413, u414, u415, u416, u417, u418, u419, u420, u421, u422, u423, u424, u425, u426, u427, u428, u429, u430, u431, u432, u433, u434, u435, u436, u437, u438, u439, u440, u441, u442, c443, c444, c445, c446], []⟩
theorem step_app {P : Program} {ops : Array Oper} {o : Oper} {a : Act} {w : World} {K : Act → World → Prop} {Q : Exit → Act → World → Prop} {F : Prop} (hg : o.guard = none) (s x : Operand) (ts : Array TypeId)
    (ho : o.op = .call { callee := .builtin .append, args := #[s, x], argTypes := ts }) {v sv : Value} (hs : a.eval s = v) (hx : a.eval x = sv) {R : Value → World → Prop}
    (hr : ∃ v' w', (Builtin.append_ ts o.type #[v, sv]).run P w = .ok v' w' ∧ R v' w') (h : ∀ v' w', R v' w' → K (a.put o.dst v') w') :
    if Region.wanted o (yielded ops a.tmps) = true then Oper.wp P o a w K Q else F := by
  have hw : Region.wanted o (yielded ops a.tmps) = true := by simp [Region.wanted, hg]
  rw [if_pos hw]
  obtain ⟨v', w', hr, hR⟩ := hr
  unfold Oper.wp execOp
  simp only [ho, resolve, invoke, builtin, Sem.run_bind, Sem.run_pure, Result.andThen_ok, List.map_toArray, List.map_cons, List.map_nil, hs, hx, hr]
  exact h v' w' hR
end Go.Proofs.YtfhafelkkophgaaFmt.Aux
