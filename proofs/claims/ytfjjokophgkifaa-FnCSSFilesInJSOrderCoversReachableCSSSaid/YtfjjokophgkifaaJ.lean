/- Contracts of functions that the law of this seat reaches, and plain facts; no condition. -/
import Derived.Test.YtfjjokophgkifaaProg
import Derived.WalkKit
import Derived.ProofKit
import Derived.OpenShut
import Derived.ShutString
import Derived.Test.YtfjjokophgkifaaAid
import Derived.Test.YtfjjokophgkifaaFl
import Derived.Test.YtfjjokophgkifaaStr
import Derived.Test.YtfjjokophgkifaaPb
import Derived.Test.YtfjjokophgkifaaQd
import Derived.Test.YtfjjokophgkifaaAm
import Derived.Test.YtfjjokophgkifaaMp
import Derived.Test.YtfjjokophgkifaaG
import Derived.Test.YtfjjokophgkifaaAid
import Derived.Maps.RangeRun
import Derived.Carry
import Derived.Laws.EntriesVeiled
import Derived.Laws.IdiomRangeMap
import Derived.ArgAppend
import Derived.Maps.Own
import Derived.WalkSmall
import Derived.WalkSpells
import Derived.Laws.Externs
import Derived.WalkLawsBesides
import Derived.LoopTactic
import Derived.Deep.CutBlock
import Derived.Deep.DeepCutAuto
import Derived.IntWalk
import Derived.Outline
import Derived.Deep.QuietTactic
import Derived.BigQuiet
import Derived.RegionTactic
import Derived.Deep.RegionHeld3
import Derived.Deep.RegionLaw
import Derived.Deep.MidRow
import Derived.StillTailTactics
import Derived.BigRegion
import Derived.Laws.OwnMore
import Derived.Laws.Rows
namespace Go.Proofs.Ytfjjokophgkifaa.Aux
open Go.ChangeShapes Go.WideShapes Go.ChangeAt Go.RowKit
open Go.ChangeMaps (open_string shut_string)
set_option linter.unusedVariables false
set_option linter.unusedSimpArgs false
open Fl Str Pb Qd Am Mp PlainAid Aux
open Go.ChangeMaps
def rset (R : Nat → Bool) (t : Nat) : Nat → Bool := fun i => if i = t then true else R i
def cnt (R : Nat → Bool) : Nat → Nat
  | 0 => 0
  | n + 1 => cnt R n + (if R n then 0 else 1)
theorem cnt_le (R : Nat → Bool) : ∀ n, cnt R n ≤ n := by
  intro n
  induction n with
  | zero => exact Nat.le_refl _
  | succ n ih => rw [cnt]; split <;> omega
theorem cnt_same {R R' : Nat → Bool} : ∀ n, (∀ i, i < n → R i = R' i) → cnt R n = cnt R' n := by
  intro n
  induction n with
  | zero => intro _; rfl
  | succ n ih => intro h; rw [cnt, cnt, ih (fun i hi => h i (by omega)), h n (by omega)]
theorem cnt_set {R : Nat → Bool} {t : Nat} (hR : R t = false) : ∀ n, t < n → cnt (rset R t) n + 1 = cnt R n := by
  intro n
  induction n with
  | zero => intro h; omega
  | succ n ih =>
    intro h
    rw [cnt, cnt]
    by_cases e : t = n
    · subst e
      have h1 : cnt (rset R t) t = cnt R t := cnt_same t (fun i hi => by unfold rset; rw [if_neg (by omega)])
      have h2 : rset R t t = true := by unfold rset; rw [if_pos rfl]
      rw [h1, h2, hR]; rfl
    · have := ih (by omega)
      have h2 : rset R t n = R n := by unfold rset; rw [if_neg (fun x => e x.symm)]
      rw [h2]
      omega
open Classical in
noncomputable def cntW (w : World) (rb n : Nat) : Nat := cnt (fun i => decide (w.cell? ⟨rb, i, none⟩ = some (.bool true))) n
theorem cntW_eq {w : World} {rb n : Nat} {R : Nat → Bool} (h : ∀ i, i < n → w.cell? ⟨rb, i, none⟩ = some (.bool (R i))) : cntW w rb n = cnt R n := by
  unfold cntW
  apply cnt_same
  intro i hi
  rw [h i hi]
  cases R i <;> simp
def lenOf : Value → Nat
  | .slice _ n _ => n
  | _ => 0
/-- The plain part of the search: R reached, W to do. -/
structure RP (n : Nat) (F : Nat → FD) (f : Nat) (R : Nat → Bool) (W : List Nat) : Prop where
  s : R f = true
  w : ∀ x ∈ W, x < n ∧ R x = true
  r : ∀ i, i < n → R i = true → Rch F f i
  c : ∀ i, i < n → R i = true → i ∈ W ∨ ∀ y, Adj F i y → R y = true
  b : W.length + cnt R n ≤ n + 1
/-- While g's imports are looked at. -/
structure RQ (n : Nat) (F : Nat → FD) (f g j k : Nat) (M : Nat) (R : Nat → Bool) (W : List Nat) : Prop where
  s : R f = true
  gg : g < n ∧ R g = true
  w : ∀ x ∈ W, x < n ∧ R x = true
  r : ∀ i, i < n → R i = true → Rch F f i
  c : ∀ i, i < n → R i = true → i ∈ W ∨ i = g ∨ ∀ y, Adj F i y → R y = true
  d : ∀ j' k', (j' < j ∨ (j' = j ∧ k' < k)) → j' < (F g).np → k' < (F g).nk j' → ((F g).im j' k').v = true → ∀ y : Nat, ((F g).im j' k').t = (y : Int) → R y = true
  m : W.length + cnt R n = M
theorem RP.pop {n : Nat} {F : Nat → FD} {f g : Nat} {R : Nat → Bool} {W : List Nat} (h : RP n F f R (W ++ [g])) : RQ n F f g 0 0 (W.length + cnt R n) R W :=
  ⟨h.s, h.w g (by simp), fun x hx => h.w x (List.mem_append.2 (.inl hx)), h.r, fun i hi hr => by
    rcases h.c i hi hr with q | q
    · rcases List.mem_append.1 q with q | q
      · exact .inl q
      · exact .inr (.inl (by simpa using q))
    · exact .inr (.inr q), fun j' k' hd => by omega, rfl⟩
theorem RQ.skip {n : Nat} {F : Nat → FD} {f g j k M : Nat} {R : Nat → Bool} {W : List Nat} (h : RQ n F f g j k M R W) (hs : ((F g).im j k).v = true → ∀ y : Nat, ((F g).im j k).t = (y : Int) → R y = true) : RQ n F f g j (k + 1) M R W :=
  ⟨h.s, h.gg, h.w, h.r, h.c, fun j' k' hd h1 h2 h3 y hy => by
    by_cases e : j' = j ∧ k' = k
    · obtain ⟨rfl, rfl⟩ := e; exact hs h3 y hy
    · exact h.d j' k' (by omega) h1 h2 h3 y hy, h.m⟩
theorem RQ.push {n : Nat} {F : Nat → FD} {f g j k M : Nat} {R : Nat → Bool} {W : List Nat} {t : Nat} (h : RQ n F f g j k M R W) (hj : j < (F g).np) (hk : k < (F g).nk j) (hv : ((F g).im j k).v = true) (ht : ((F g).im j k).t = (t : Int)) (hn : t < n) (hR : R t = false) : RQ n F f g j (k + 1) M (rset R t) (W ++ [t]) := by
  have mono : ∀ y, R y = true → rset R t y = true := fun y hy => by unfold rset; split; rfl; exact hy
  have same : rset R t t = true := by unfold rset; rw [if_pos rfl]
  refine ⟨mono _ h.s, ⟨h.gg.1, mono _ h.gg.2⟩, fun x hx => ?_, fun i hi hr => ?_, fun i hi hr => ?_, fun j' k' hd h1 h2 h3 y hy => ?_, ?_⟩
  · rcases List.mem_append.1 hx with hx | hx
    · exact ⟨(h.w x hx).1, mono _ (h.w x hx).2⟩
    · rw [List.mem_singleton] at hx; subst hx; exact ⟨hn, same⟩
  · by_cases e : i = t
    · subst e; exact .step (h.r g h.gg.1 h.gg.2) ⟨j, k, hj, hk, hv, ht⟩
    · exact h.r i hi (by unfold rset at hr; rwa [if_neg e] at hr)
  · by_cases e : i = t
    · subst e; exact .inl (List.mem_append.2 (.inr (by simp)))
    · rcases h.c i hi (by unfold rset at hr; rwa [if_neg e] at hr) with q | q | q
      · exact .inl (List.mem_append.2 (.inl q))
      · exact .inr (.inl q)
      · exact .inr (.inr fun y hy => mono _ (q y hy))
  · by_cases e : j' = j ∧ k' = k
    · obtain ⟨rfl, rfl⟩ := e
      have : y = t := by rw [ht] at hy; omega
      subst this; exact same
    · exact mono _ (h.d j' k' (by omega) h1 h2 h3 y hy)
  · have := cnt_set hR n hn
    have := h.m
    simp only [List.length_append, List.length_singleton]
    omega
theorem RQ.next {n : Nat} {F : Nat → FD} {f g j k M : Nat} {R : Nat → Bool} {W : List Nat} (h : RQ n F f g j k M R W) (hk : (F g).nk j ≤ k) : RQ n F f g (j + 1) 0 M R W :=
  ⟨h.s, h.gg, h.w, h.r, h.c, fun j' k' hd h1 h2 h3 y hy => by
    by_cases e : j' = j
    · subst e; exact h.d j' k' (by omega) h1 h2 h3 y hy
    · exact h.d j' k' (by omega) h1 h2 h3 y hy, h.m⟩
theorem RQ.fin {n : Nat} {F : Nat → FD} {f g j M : Nat} {R : Nat → Bool} {W : List Nat} (h : RQ n F f g j 0 M R W) (hj : (F g).np ≤ j) (hM : M ≤ n + 1) : RP n F f R W :=
  ⟨h.s, h.w, h.r, fun i hi hr => by
    rcases h.c i hi hr with q | q | q
    · exact .inl q
    · subst q
      refine .inr fun y hy => ?_
      obtain ⟨j', k', h1, h2, h3, h4⟩ := hy
      exact h.d j' k' (by omega) h1 h2 h3 y h4
    · exact .inr q, by rw [h.m]; exact hM⟩
/-- The memory's part. -/
structure WK (w : World) (n : Nat) (wr : World) (R : Nat → Bool) (W : List Nat) (v : Value) : Prop where
  bl : Below w.heap.size w wr
  bk : Blk wr w.heap.size 4 n
  cl : ∀ i, i < n → wr.cell? ⟨w.heap.size, i, none⟩ = some (.bool (R i))
  own : wr.ownsRow (w.heap.size + 1) 23 1 v W.length (W.map fun x : Nat => Value.int .u32 (x : Int))
theorem WK.pop {w wr : World} {n : Nat} {R : Nat → Bool} {W : List Nat} {g c x : Nat} (h : WK w n wr R (W ++ [x]) (.slice (some ⟨g, 0, none⟩) (W.length + 1) c)) : WK w n wr R W (.slice (some ⟨g, 0, none⟩) W.length c) := by
  refine ⟨h.bl, h.bk, h.cl, by simp, ?_⟩
  rcases h.own.2 with ⟨e, _⟩ | ⟨g', cap, cur, e, h1, h2, h3, h4, h5, h6⟩
  · cases e
  · injection e with e1 e2 e3
    injection e1 with e1
    injection e1 with e1
    subst e1 e3
    refine .inr ⟨g, c, cur, rfl, h1, h2, by simp at h3; omega, h4, h5, ?_⟩
    have h7 := congrArg (List.take W.length) h6
    simp only [List.length_append, List.length_singleton, Nat.mul_one, List.take_take, List.map_append] at h7
    rw [Nat.min_eq_left (by omega), List.take_left' (by simp)] at h7
    simpa using h7
theorem WK.last {w wr : World} {n : Nat} {R : Nat → Bool} {W : List Nat} {g c x l : Nat} (h : WK w n wr R (W ++ [x]) (.slice (some ⟨g, 0, none⟩) l c)) : wr.cell? ⟨g, W.length, none⟩ = some (.int .u32 (x : Int)) := by
  have := h.own.cells (g := g) rfl W.length (.int .u32 (x : Int)) (by simp)
  have e : ∀ m : Nat, (⟨g, 0, none⟩ : Addr).add m = ⟨g, m, none⟩ := fun m => by unfold Addr.add; simp; try omega
  rwa [e W.length] at this
theorem WK.some_ {w wr : World} {n : Nat} {R : Nat → Bool} {W : List Nat} {a : Option Addr} {c x l : Nat} (h : WK w n wr R (W ++ [x]) (.slice a l c)) : ∃ g, a = some ⟨g, 0, none⟩ := by
  obtain ⟨g, e, _⟩ := own_some h.own (by simp)
  exact ⟨g, e⟩
theorem WK.push {w wr : World} {n : Nat} {R : Nat → Bool} {W : List Nat} {v : Value} (h : WK w n wr R W v) {t : Nat} (ht : t < n) (hl : W.length ≤ 1048577) {c : Nat} (ty : TypeId) :
    ∃ v' w', (Builtin.append_ #[88, 88] ty #[v, .slice (some ⟨wr.heap.size, 0, none⟩) 1 c]).run Try.prog ((wr.setCell ⟨w.heap.size, t, none⟩ (.bool true)).alloc (.cells #[.int .u32 (t : Int)] 23)) = .ok v' w' ∧ (∃ a' c', v' = .slice a' (W ++ [t]).length c' ∧ Hid (WK w n w' (rset R t) (W ++ [t]) v')) := by
  obtain ⟨i, hi, hz, hsz, hb⟩ := info_parts infoU
  have hc1 : Chg (fun k => k = w.heap.size) wr (wr.setCell ⟨w.heap.size, t, none⟩ (.bool true)) := chg_set (n := 0) (t := 0) _
  have hbk1 := h.bk.set t (.bool true)
  have hcs := h.bk.cell_set ht (.bool true)
  have hot : ∀ i, i ≠ t → (wr.setCell ⟨w.heap.size, t, none⟩ (.bool true)).cell? ⟨w.heap.size, i, none⟩ = wr.cell? ⟨w.heap.size, i, none⟩ := fun i hi => World.cell?_setCell_other wr ⟨w.heap.size, t, none⟩ _ _ (fun e => by injection e with _ e; omega)
  have hs1 : (wr.setCell ⟨w.heap.size, t, none⟩ (.bool true)).heap.size = wr.heap.size := by simp [World.setCell]
  have ho1 : (wr.setCell ⟨w.heap.size, t, none⟩ (.bool true)).ownsRow (w.heap.size + 1) 23 1 v W.length (W.map fun x : Nat => Value.int .u32 (x : Int)) := hc1.owns h.own (fun g hg e => by have := (h.own.lt g hg).1; omega)
  generalize wr.setCell ⟨w.heap.size, t, none⟩ (.bool true) = W1 at hc1 hbk1 hcs hot hs1 ho1 ⊢
  have hb2 : Below W1.heap.size W1 (W1.alloc (.cells #[.int .u32 (t : Int)] 23)) := (Below.refl _ _).alloc (Nat.le_refl _) _
  have hrow := heap_alloc_new W1 (.cells #[.int .u32 (t : Int)] 23)
  rw [hs1] at hrow
  generalize W1.alloc (.cells #[.int .u32 (t : Int)] 23) = W2 at hb2 hrow ⊢
  have ho2 := owns_below ho1 hb2
  have hbk2 := blk_below hbk1 hb2 (blk_lt hbk1)
  have hsz2 : wr.heap.size ≤ W2.heap.size := by have := hb2.size; omega
  have hbw := blk_lt h.bk
  obtain ⟨v', w', hr, ho, hg, _⟩ := app_keep (P := Try.prog) W2 (ty := ty) Try.underlying88 hi hz hsz hb rfl (by omega) ho2 ⟨wr.heap.size, 0, none⟩ 1 c [.int .u32 (t : Int)] rfl (cells_at (cs := [.int .u32 (t : Int)]) hrow) (by intro u hu; simp at hu; subst hu; rfl) (by unfold maxLen; omega) (by omega) (by omega)
  have hc3 : Chg (fun k => v.ownBlock = some k) W2 w' := Chg.of_grown hg
  have hne : ¬ v.ownBlock = some w.heap.size := fun e => by have := (ho2.lt _ e).1; omega
  obtain ⟨a', c', e⟩ := own_slice ho
  have hbl : w'.heap[w.heap.size]? = W1.heap[w.heap.size]? := (hc3.block _ (by omega) hne).trans (hb2.block _ (by omega))
  refine ⟨v', w', hr, a', c', by simpa using e, Lib.hid ⟨?_, ?_, fun i hi => ?_, ?_⟩⟩
  · have l1 := hc1.below (B := w.heap.size) (Nat.le_of_lt hbw) (fun i e => by omega)
    exact ((h.bl.trans l1).trans (hb2.mono (by omega))).trans (hc3.below (by omega) (fun i e => by have := (ho2.lt i e).1; omega))
  · obtain ⟨cur, q1, q2⟩ := hbk1
    exact ⟨cur, hbl.trans q1, q2⟩
  · rw [World.cell?_of_block (a := ⟨w.heap.size, i, none⟩) hbl]
    unfold rset
    by_cases e : i = t
    · subst e; rw [if_pos rfl]; exact hcs
    · rw [if_neg e, hot i e]; exact h.cl i hi
  · simpa using ho
def Rr (n : Nat) (F : Nat → FD) (f : Nat) (w : World) (e : Ending) (w' : World) : Prop :=
  ∃ rb R, e = .returned (.slice (some ⟨rb, 0, none⟩) n n) ∧ RP n F f R [] ∧ Hid (rb < w'.heap.size ∧ ∀ i, i < n → w'.cell? ⟨rb, i, none⟩ = some (.bool (R i))) ∧ Hid (Below w.heap.size w w')
theorem own_cap {w : World} {base size n m c : Nat} {e : TypeId} {a : Option Addr} {xs : List Value} (h : w.ownsRow base e size (.slice a m c) n xs) : n ≤ c := by
  rcases h.2 with ⟨_, e0⟩ | ⟨g, cap, cur, e0, _, _, h3, _⟩
  · omega
  · injection e0 with _ _ e3
    omega
theorem infoB : (Try.prog.info? 4).map (fun i => (i.zero, i.size, i.bytes)) = some (some (.bool false), 1, 1) := by kernel_rfl
theorem wk_start {n f : Nat} (w : World) (hf : f < n) : WK w n (((w.alloc (.cells (madeCells #[.bool false] n) 4)).setCell ⟨w.heap.size, f, none⟩ (.bool true)).alloc (.cells #[.int .u32 (f : Int)] 23)) (rset (fun _ => false) f) [f] (.slice (some ⟨w.heap.size + 1, 0, none⟩) 1 1) := by
  have hbk := blk_made w 4 #[.bool false] n
  have hcl : ∀ i, i < n → (w.alloc (.cells (madeCells #[.bool false] n) 4)).cell? ⟨w.heap.size, i, none⟩ = some (.bool false) := fun i hi => by
    rw [made_at _ _ _ _ _ hi]
    show some (#[Value.bool false][i % 1]!) = _
    rw [Nat.mod_one]; rfl
  have hbl : Below w.heap.size w (w.alloc (.cells (madeCells #[.bool false] n) 4)) := (Below.refl _ _).alloc (Nat.le_refl _) _
  have hs : (w.alloc (.cells (madeCells #[.bool false] n) 4)).heap.size = w.heap.size + 1 := by simp
  generalize w.alloc (.cells (madeCells #[.bool false] n) 4) = W1 at hbk hcl hbl hs ⊢
  have hbk1 := hbk.set f (.bool true)
  have hcs := hbk.cell_set hf (.bool true)
  have hot : ∀ i, i ≠ f → (W1.setCell ⟨w.heap.size, f, none⟩ (.bool true)).cell? ⟨w.heap.size, i, none⟩ = W1.cell? ⟨w.heap.size, i, none⟩ := fun i hi => World.cell?_setCell_other W1 ⟨w.heap.size, f, none⟩ _ _ (fun e => by injection e with _ e; omega)
  have hbl1 := hbl.setCell (p := ⟨w.heap.size, f, none⟩) (Nat.le_refl _) (.bool true)
  have hs1 : (W1.setCell ⟨w.heap.size, f, none⟩ (.bool true)).heap.size = w.heap.size + 1 := by simp [World.setCell, hs]
  generalize W1.setCell ⟨w.heap.size, f, none⟩ (.bool true) = W2 at hbk1 hcs hot hbl1 hs1 ⊢
  have hb3 : Below W2.heap.size W2 (W2.alloc (.cells #[.int .u32 (f : Int)] 23)) := (Below.refl _ _).alloc (Nat.le_refl _) _
  have hrow := heap_alloc_new W2 (.cells #[.int .u32 (f : Int)] 23)
  rw [hs1] at hrow
  refine ⟨hbl1.trans (hb3.mono (by omega)), blk_below hbk1 hb3 (blk_lt hbk1), fun i hi => ?_, by simp, .inr ⟨w.heap.size + 1, 1, _, rfl, Nat.le_refl _, hrow, Nat.le_refl _, by decide, rfl, rfl⟩⟩
  refine cell_below ?_ hb3 (by omega)
  unfold rset
  by_cases e : i = f
  · subst e; rw [if_pos rfl]; exact hcs
  · rw [if_neg e, hot i e]; exact hcl i hi
theorem rp_start (n : Nat) (F : Nat → FD) {f : Nat} (hf : f < n) : RP n F f (rset (fun _ => false) f) [f] := by
  have hr : ∀ i, rset (fun _ => false) f i = true → i = f := fun i h => by
    unfold rset at h
    by_cases e : i = f
    · exact e
    · rw [if_neg e] at h; cases h
  refine ⟨by unfold rset; rw [if_pos rfl], fun x hx => ?_, fun i hi h => ?_, fun i hi h => ?_, ?_⟩
  · rw [List.mem_singleton] at hx; subst hx; exact ⟨hf, by unfold rset; rw [if_pos rfl]⟩
  · rw [hr i h]; exact .refl _
  · exact .inl (by rw [hr i h]; simp)
  · have := cnt_le (rset (fun _ => false) f) n
    simp only [List.length_singleton]
    omega
set_option maxRecDepth 100000 in
set_option maxHeartbeats 40000000 in
theorem reach11 (a : Option Addr) (n cap : Nat) (F : Nat → FD) (f : Nat) (w : World) (h : FilesIn w a n F) (hfb : FB n F) (hvl : VL n F) (hfw : FW n F) (hf : f < n) : Calls Try.prog 11 #[.slice a n cap, .int .u32 (f : Int)] w (Rr n F f w) := by
  have hn20 : n ≤ 1048576 := hfb.1
  obtain ⟨b, o, rfl, hb, hA⟩ := h.block (by omega)
  have HA := Lib.hid hA
  have HFB := Lib.hid hfb.2
  have HVL := Lib.hid hvl
  have HFW := Lib.hid hfw
  clear hA h hfb hvl hfw
  have hmk := run_make_one (P := Try.prog) Try.underlying90 infoB rfl (by omega) n (by omega)
  have hfz : (f : Int) < (n : Int) := by omega
  have hf0 : (0 : Int) ≤ (f : Int) := by omega
  have HMA : Hid (∀ w : World, ∃ v, (w.alloc (.cells (madeCells #[.bool false] n) 4)).cell? ⟨w.heap.size, f, none⟩ = some v) := Lib.hid fun w => ⟨_, made_at _ _ _ _ _ hf⟩
  have h0 := wk_start w hf
  rw [World.setCell_alloc_at _ _ _ _ _ rfl] at h0
  have H0 := Lib.hid h0
  clear h0
  have HP0 := Lib.hid (rp_start n F hf)
  obtain ⟨u0, hu0⟩ := HMA.out w
  have hz0 : (w.alloc (.cells (madeCells #[.bool false] n) 4)).frozen? ⟨w.heap.size, f, none⟩ = false := blk_fz (blk_made w 4 #[.bool false] n) f
  go_enter Try.func11, Try.ntmps11
  go_wp2_with fail
  clear hmk hu0 hz0 HMA
  go_loopw [6] (fun s6 wr => ∃ (a : Option Addr) (c : Nat) (W : List Nat), s6 = .slice a W.length c ∧ Hid (∃ R, WK w n wr R W (.slice a W.length c) ∧ RP n F f R W)) (fun s6 wr => lenOf s6 + cntW wr w.heap.size n)
  case atStart => exact ⟨_, _, [f], rfl, Lib.hid ⟨_, H0.out, HP0.out⟩⟩
  case round =>
    clear H0 HP0
    obtain ⟨a6, c6, W, rfl, HR⟩ := hrel
    obtain ⟨R, hWK, hRP⟩ := HR.out
    clear HR
    rcases List.eq_nil_or_concat W with hW | ⟨Wr, g, hW⟩
    · subst hW
      have HWK := Lib.hid hWK
      clear hWK
      go_wp2_with fail
      go_ret
      exact ⟨_, R, rfl, hRP, Lib.hid ⟨blk_lt HWK.out.bk, HWK.out.cl⟩, Lib.hid HWK.out.bl⟩
    · rw [List.concat_eq_append] at hW
      subst hW
      obtain ⟨gb, hgb⟩ := hWK.some_
      subst hgb
      have hlen : (Wr ++ [g]).length = Wr.length + 1 := by simp
      have hcap0 := own_cap hWK.own
      rw [hlen] at hWK ⊢
      have hcw := cntW_eq hWK.cl
      have hM : Wr.length + cnt R n ≤ n + 1 := by have := hRP.b; rw [hlen] at this; omega
      have hMM : lenOf (.slice (some ⟨gb, 0, none⟩) (Wr.length + 1) c6) + cntW wr w.heap.size n = Wr.length + cnt R n + 1 := by rw [hcw]; show Wr.length + 1 + cnt R n = _; omega
      obtain ⟨M, hMe⟩ : ∃ M, Wr.length + cnt R n = M := ⟨_, rfl⟩
      have hgn : g < n := (hRP.w g (by simp)).1
      have x1 : wr.cell? ⟨gb, Wr.length, none⟩ = some (.int .u32 (g : Int)) := hWK.last
      have HQ : Hid (RQ n F f g 0 0 M R Wr) := Lib.hid (by rw [← hMe]; exact hRP.pop)
      have HWK := Lib.hid hWK.pop
      rw [hMe] at hM hMM
      have HMM := Lib.hid hMM
      obtain ⟨l, hl⟩ : ∃ l, Wr.length = l := ⟨_, rfl⟩
      have hl20 : l ≤ 1048577 := by omega
      have hcap : l ≤ c6 := by rw [hlen] at hcap0; omega
      have hcapz : (l : Int) ≤ (c6 : Int) := by omega
      clear hcap0
      have HL := Lib.hid hl
      rw [hl] at x1 HWK ⊢
      clear hWK hRP hcw hMM hMe hl hlen
      obtain ⟨pa, pc, hAt, hP⟩ := HA.out g hgn
      have HAT := Lib.hid hAt
      have HPP := Lib.hid hP
      have hnp := (HFB.out g hgn).1
      have HPS := Lib.hid (HFB.out g hgn).2
      have HVG := Lib.hid (HVL.out g hgn).2
      have HUG := Lib.hid (HFW.out g hgn).2
      clear hAt hP
      have hgz : (g : Int) < (n : Int) := by omega
      have hg0 : (0 : Int) ≤ (g : Int) := by omega
      obtain ⟨wo, hwo⟩ : ∃ wo, wo = wr := ⟨_, rfl⟩
      rw [← hwo] at x1 HWK HMM ⊢
      clear hwo
      go_wp2_with fail
      go_loopw [6, 8] (fun s6 s8 w2 => ∃ (j : Nat) (a : Option Addr) (c : Nat) (W : List Nat), j ≤ (F g).np ∧ s8 = .int .i64 j ∧ s6 = .slice a W.length c ∧ Hid (∃ R, WK w n w2 R W (.slice a W.length c) ∧ RQ n F f g j 0 M R W)) (fun _ s8 _ => (F g).np - (intOf s8).toNat)
      case atStart => exact ⟨0, some ⟨gb, 0, none⟩, c6, Wr, by omega, rfl, by rw [HL.out], Lib.hid ⟨R, by rw [HL.out]; exact HWK.out, HQ.out⟩⟩
      case round =>
        clear HWK HQ x1
        obtain ⟨j, a7, c7, W7, hj, rfl, rfl, HR7⟩ := hrel
        obtain ⟨R7, hWK7, hRQ7⟩ := HR7.out
        have HWK7 := Lib.hid hWK7
        have HRQ7 := Lib.hid hRQ7
        have c0 := (HAT.out.below hb hWK7.bl) 0 _ rfl
        rw [Nat.add_zero] at c0
        clear HR7 hWK7 hRQ7
        obtain ⟨w2, hw2⟩ : ∃ w2, w2 = wr := ⟨_, rfl⟩
        rw [← hw2] at HWK7 c0 ⊢
        clear hw2
        by_cases hjl : j < (F g).np
        · have hjz : (j : Int) < ((F g).np : Int) := by omega
          obtain ⟨b2, o2, hpa, hb2, hI⟩ := HPP.out.block (by omega)
          subst hpa
          obtain ⟨ia, ic, d00, hIm⟩ := hI j hjl
          have HIm := Lib.hid hIm
          have d0 := cell_below d00 HWK7.out.bl hb2
          have hnk := Nat.le_trans (psum_le (F g).nk hjl) HPS.out
          obtain ⟨nkj, hnkj⟩ : ∃ m, (F g).nk j = m := ⟨_, rfl⟩
          rw [hnkj] at d0 hnk HIm
          have HNK := Lib.hid hnkj
          clear hI hIm d00 hnkj
          go_wp2_with fail
          go_loopw [6, 10] (fun s6 s10 w3 => ∃ (k : Nat) (a : Option Addr) (c : Nat) (W : List Nat), k ≤ nkj ∧ s10 = .int .i64 k ∧ s6 = .slice a W.length c ∧ Hid (∃ R, WK w n w3 R W (.slice a W.length c) ∧ RQ n F f g j k M R W)) (fun _ s10 _ => nkj - (intOf s10).toNat)
          case atStart => exact ⟨0, a7, c7, W7, by omega, rfl, rfl, Lib.hid ⟨R7, HWK7.out, HRQ7.out⟩⟩
          case round =>
            clear HWK7 HRQ7 c0 d0
            obtain ⟨k, a8, c8, W8, hk, rfl, rfl, HR8⟩ := hrel
            obtain ⟨R8, hWK8, hRQ8⟩ := HR8.out
            have HWK8 := Lib.hid hWK8
            have HRQ8 := Lib.hid hRQ8
            clear HR8 hWK8 hRQ8
            by_cases hkl : k < nkj
            · have hkz : (k : Int) < (nkj : Int) := by omega
              obtain ⟨b3, o3, hia, hb3, hA3⟩ := HIm.out.block (by omega)
              subst hia
              have hAk := (hA3 k hkl).below hb3 HWK8.out.bl
              have e0 := hAk 0 _ rfl
              rw [Nat.add_zero] at e0
              have e1 := hAk 1 _ rfl
              have hkF : k < (F g).nk j := by rw [HNK.out]; exact hkl
              have hut := HUG.out j hjl k hkF
              have hit := HVG.out j hjl k hkF
              have hsk := HRQ8.out.skip (R := R8)
              have HSK := Lib.hid hsk
              obtain ⟨z, hz⟩ : ∃ z, (F g).im j k = z := ⟨_, rfl⟩
              rw [hz] at e0 e1 hut hit
              obtain ⟨vv, tt⟩ := z
              have HZ := Lib.hid hz
              have HUT : Hid (U32 tt) := Lib.hid hut
              have HIT : Hid (vv = true → tt < n) := Lib.hid hit
              have hne3 : b3 ≠ w.heap.size := Nat.ne_of_lt hb3
              have hbw := blk_lt HWK8.out.bk
              have hb3w : b3 < wr.heap.size := Nat.lt_trans hb3 hbw
              clear hA3 hAk hz hut hit hsk
              cases vv with
              | false =>
                go_wp2_with fail
                go_roundw
                case rel => exact ⟨k + 1, a8, c8, W8, by omega, by go_num, rfl, Lib.hid ⟨R8, HWK8.out, HSK.out (by rw [HZ.out]; intro h; cases h)⟩⟩
                case measure => simp [intOf]; omega
              | true =>
                obtain ⟨y, rfl⟩ := Int.eq_ofNat_of_zero_le HUT.out.1
                have hyn : y < n := by have := HIT.out rfl; omega
                have e1' : wr.cell? ⟨b3, o3 + k * 2 + 1, none⟩ = some (.int .u32 (y : Int)) := e1
                have hyz : (y : Int) < (n : Int) := by omega
                have hy0 : (0 : Int) ≤ (y : Int) := by omega
                have r1 := HWK8.out.cl y hyn
                have r2 := blk_fz HWK8.out.bk y
                clear e1
                cases hRy : R8 y with
                | true =>
                  rw [hRy] at r1
                  go_wp2_with fail
                  go_roundw
                  case rel => exact ⟨k + 1, a8, c8, W8, by omega, by go_num, rfl, Lib.hid ⟨R8, HWK8.out, HSK.out (fun _ z hz => by rw [HZ.out] at hz; have : z = y := by simp only at hz; omega
                                                                                                                                   subst this; exact hRy)⟩⟩
                  case measure => simp [intOf]; omega
                | false =>
                  rw [hRy] at r1
                  have HRY := Lib.hid hRy
                  have hW20 : W8.length ≤ 1048577 := by have := HRQ8.out.m; omega
                  have HAP := Lib.hid (fun ty => HWK8.out.push hyn hW20 (c := 1) ty)
                  clear hRy
                  go_wp2_with (refine Am.wpList_app (o := ⟨some 87, _, _, _, _, _⟩) rfl (.tmp 80) (.tmp 86) #[88, 88] rfl rfl rfl (HAP.out _) ?_; rintro v' w6 ⟨a', c', rfl, HN6⟩)
                  go_roundw
                  case rel => exact ⟨k + 1, a', c', W8 ++ [y], by omega, by go_num, by simp, Lib.hid ⟨_, HN6.out, HRQ8.out.push hjl hkF (by rw [HZ.out]) (by rw [HZ.out]) hyn HRY.out⟩⟩
                  case measure => simp [intOf]; omega
            · have hkz : ¬ (k : Int) < (nkj : Int) := by omega
              go_wp2_with fail
              go_roundw
              case rel => exact ⟨j + 1, a8, c8, W8, by omega, by go_num, rfl, Lib.hid ⟨R8, HWK8.out, HRQ8.out.next (by rw [HNK.out]; omega)⟩⟩
              case measure => simp [intOf]; omega
        · have hjz : ¬ (j : Int) < ((F g).np : Int) := by omega
          go_wp2_with fail
          go_roundw
          case rel => exact ⟨a7, c7, W7, rfl, Lib.hid ⟨R7, HWK7.out, HRQ7.out.fin (by omega) hM⟩⟩
          case measure =>
            have h1 := HMM.out
            rw [HL.out] at h1
            have h2 := cntW_eq HWK7.out.cl
            have h3 := HRQ7.out.m
            rw [h1, h2]
            show W7.length + cnt R7 n < M + 1
            omega
end Go.Proofs.Ytfjjokophgkifaa.Aux
