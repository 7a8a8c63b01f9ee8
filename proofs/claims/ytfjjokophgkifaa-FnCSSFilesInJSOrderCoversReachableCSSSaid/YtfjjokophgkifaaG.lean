/- Contracts of functions that the law of this seat reaches, and plain facts; no condition. -/
import Derived.Test.YtfjjokophgkifaaProg
import Derived.WalkKit
import Derived.ProofKit
import Derived.OpenShut
import Derived.ShutString
import Derived.Test.YtfjjokophgkifaaAid
import Derived.Test.YtfjjokophgkifaaFl
import Derived.Test.YtfjjokophgkifaaStr
import Derived.Test.YtfjjokophgkifaaPb
import Derived.Test.YtfjjokophgkifaaQd
import Derived.Test.YtfjjokophgkifaaAm
import Derived.Test.YtfjjokophgkifaaMp
import Derived.Test.YtfjjokophgkifaaD
import Derived.Test.YtfjjokophgkifaaAid
import Derived.Maps.RangeRun
import Derived.Carry
import Derived.Laws.EntriesVeiled
import Derived.Laws.IdiomRangeMap
import Derived.ArgAppend
import Derived.Maps.Own
import Derived.WalkSmall
import Derived.WalkSpells
import Derived.Laws.Externs
import Derived.WalkLawsBesides
import Derived.LoopTactic
import Derived.Deep.CutBlock
import Derived.Deep.DeepCutAuto
import Derived.IntWalk
import Derived.Outline
import Derived.Deep.QuietTactic
import Derived.BigQuiet
import Derived.RegionTactic
import Derived.Deep.RegionHeld3
import Derived.Deep.RegionLaw
import Derived.Deep.MidRow
import Derived.StillTailTactics
import Derived.BigRegion
import Derived.Laws.OwnMore
import Derived.Laws.Rows
namespace Go.Proofs.Ytfjjokophgkifaa.Aux
open Go.ChangeShapes Go.WideShapes Go.ChangeAt Go.RowKit
open Go.ChangeMaps (open_string shut_string)
set_option linter.unusedVariables false
set_option linter.unusedSimpArgs false
open Fl Str Pb Qd Am Mp PlainAid Aux
open Go.ChangeMaps
theorem infoG : (Try.prog.info? 106).map (fun i => match i.zero with | some (.agg cs) => (cs.size, cs.all (·.oneCell')) | _ => (0, false)) = some (7, true) := by kernel_rfl
theorem infoC : (Try.prog.info? 127).map (fun i => match i.zero with | some (.agg cs) => (cs.size, cs.all (·.oneCell')) | _ => (0, false)) = some (29, true) := by kernel_rfl
theorem ov_list (o : Nat) : ∀ (Y : List Value) (k : Nat) (base : Array Value), (List.foldl (fun cs x => cs.setIfInBounds (o + x.snd) x.fst) base (Y.zipIdx k)).size = base.size ∧ ∀ i, (List.foldl (fun cs x => cs.setIfInBounds (o + x.snd) x.fst) base (Y.zipIdx k))[i]? = if o + k ≤ i ∧ i < o + k + Y.length ∧ i < base.size then Y[i - (o + k)]? else base[i]? := by
  intro Y
  induction Y with
  | nil => intro k base; exact ⟨rfl, fun i => by rw [if_neg (by simp; omega)]; rfl⟩
  | cons v r ih =>
    intro k base
    simp only [List.zipIdx_cons, List.foldl_cons, List.length_cons]
    obtain ⟨h1, h2⟩ := ih (k + 1) (base.setIfInBounds (o + k) v)
    refine ⟨by rw [h1]; simp, fun i => ?_⟩
    rw [h2, Array.size_setIfInBounds, Array.getElem?_setIfInBounds]
    by_cases e : o + k = i
    · subst e
      by_cases hb : o + k < base.size
      · rw [if_neg (by omega), if_pos rfl, if_pos hb, if_pos ⟨by omega, by omega, hb⟩]
        simp
      · rw [if_neg (by omega), if_pos rfl, if_neg hb, if_neg (by omega), Array.getElem?_eq_none (by omega)]
    · rw [if_neg e]
      by_cases hc : o + (k + 1) ≤ i ∧ i < o + (k + 1) + r.length ∧ i < base.size
      · rw [if_pos hc, if_pos ⟨by omega, by omega, hc.2.2⟩, show i - (o + k) = (i - (o + (k + 1))) + 1 by omega, List.getElem?_cons_succ]
      · rw [if_neg hc, if_neg (by omega)]
theorem ov_get (o : Nat) (Y base : Array Value) (n : Nat) (hn : n = Y.size) (i : Nat) : (Array.foldl (fun cs x => cs.setIfInBounds (o + x.snd) x.fst) base Y.zipIdx 0 n)[i]? = if o ≤ i ∧ i < o + Y.size ∧ i < base.size then Y[i - o]? else base[i]? := by
  have e : n = Y.zipIdx.size := by simp [hn]
  rw [e, ← Array.foldl_toList, Array.toList_zipIdx]
  have := (ov_list o Y.toList 0 base).2 i
  simpa using this
def Nl (v : Value) (w : World) (e : Ending) (w' : World) : Prop := ∃ cb, e = .returned (.pointer (some ⟨cb, 0, none⟩)) ∧ Hid (w'.cell? ⟨cb, 10, none⟩ = some v) ∧ Hid (Below w.heap.size w w')
set_option maxRecDepth 100000 in
set_option maxHeartbeats 4000000 in
theorem new8 (a : Option Addr) (n c : Nat) (x : Option Addr) (w : World) : Calls Try.prog 8 #[.slice a n c, .pointer x] w (Nl (.slice a n c) w) := by
  obtain ⟨Y, hy, hyz, _⟩ := zero_of infoG
  obtain ⟨Z, hz, hsz, _⟩ := zero_of infoC
  have hne : ¬ Z = #[] := by intro e; rw [e] at hsz; cases hsz
  have hne2 : ¬ Y = #[] := by intro e; rw [e] at hyz; cases hyz
  go_enter Try.func8, Try.ntmps8
  go_wp2_with fail
  go_ret
  refine ⟨w.heap.size, rfl, Lib.hid ?_, Lib.hid ((Below.refl _ _).alloc (Nat.le_refl _) _)⟩
  rw [cell_of_row _ _ 10 _ _ _ (heap_alloc_new _ _), ov_get 10 _ _ 7 (by simp [hyz]) 10, if_pos ⟨by omega, by simp [hyz], by simp [hsz]⟩]
  simp [hyz]
/-- x imports y. -/
def Adj (F : Nat → FD) (x y : Nat) : Prop := ∃ j k, j < (F x).np ∧ k < (F x).nk j ∧ ((F x).im j k).v = true ∧ ((F x).im j k).t = (y : Int)
inductive Rch (F : Nat → FD) : Nat → Nat → Prop
  | refl (a : Nat) : Rch F a a
  | step {a b c : Nat} : Rch F a b → Adj F b c → Rch F a c
theorem Rch.trans {F : Nat → FD} {a b c : Nat} (h : Rch F a b) (k : Rch F b c) : Rch F a c := by
  induction k with
  | refl => exact h
  | step _ e ih => exact .step ih e
def cssOf (F : Nat → FD) (x : Nat) : Option Int := if (F x).has then some (F x).css else none
/-- What a visit of f adds to V: the files L, in postorder. -/
structure VS (n : Nat) (F : Nat → FD) (V : List Nat) (f : Nat) (L : List Nat) : Prop where
  nd : L.Nodup
  new : ∀ x ∈ L, x ∉ V ∧ x < n
  inn : f ∈ V ∨ f ∈ L
  cl : ∀ x ∈ L, ∀ y, Adj F x y → y ∈ V ∨ y ∈ L
  rc : ∀ x ∈ L, Rch F f x
  last : f ∉ V → ∃ L0, L = L0 ++ [f]
theorem VS.old (n : Nat) (F : Nat → FD) {V : List Nat} {f : Nat} (h : f ∈ V) : VS n F V f [] :=
  ⟨List.nodup_nil, fun x hx => absurd hx List.not_mem_nil, .inl h, fun x hx => absurd hx List.not_mem_nil, fun x hx => absurd hx List.not_mem_nil, fun hn => absurd h hn⟩
/-- While f's imports are visited. -/
structure BS (n : Nat) (F : Nat → FD) (V : List Nat) (f j k : Nat) (L : List Nat) : Prop where
  nd : L.Nodup
  new : ∀ x ∈ L, x ∉ V ∧ x ≠ f ∧ x < n
  dn : ∀ j' k', (j' < j ∨ (j' = j ∧ k' < k)) → j' < (F f).np → k' < (F f).nk j' → ((F f).im j' k').v = true → ∀ y : Nat, ((F f).im j' k').t = (y : Int) → y ∈ V ∨ y = f ∨ y ∈ L
  cl : ∀ x ∈ L, ∀ y, Adj F x y → y ∈ V ∨ y = f ∨ y ∈ L
  rc : ∀ x ∈ L, Rch F f x
theorem BS.start (n : Nat) (F : Nat → FD) (V : List Nat) (f : Nat) : BS n F V f 0 0 [] :=
  ⟨List.nodup_nil, fun x hx => absurd hx List.not_mem_nil, fun j' k' h => by omega, fun x hx => absurd hx List.not_mem_nil, fun x hx => absurd hx List.not_mem_nil⟩
theorem BS.step {n : Nat} {F : Nat → FD} {V : List Nat} {f j k : Nat} {L L2 : List Nat} {y : Nat} (h : BS n F V f j k L) (hj : j < (F f).np) (hk : k < (F f).nk j) (hv : ((F f).im j k).v = true) (ht : ((F f).im j k).t = (y : Int)) (h2 : VS n F (L ++ f :: V) y L2) : BS n F V f j (k + 1) (L ++ L2) := by
  have hadj : Adj F f y := ⟨j, k, hj, hk, hv, ht⟩
  have hm : ∀ x, x ∉ L ++ f :: V → x ∉ L ∧ x ≠ f ∧ x ∉ V := fun x hx => by
    rw [List.mem_append, List.mem_cons] at hx
    exact ⟨fun q => hx (.inl q), fun q => hx (.inr (.inl q)), fun q => hx (.inr (.inr q))⟩
  have hin : ∀ z, z ∈ L ++ f :: V ∨ z ∈ L2 → z ∈ V ∨ z = f ∨ z ∈ L ++ L2 := fun z hz => by
    rw [List.mem_append, List.mem_cons] at hz
    rw [List.mem_append]
    rcases hz with (hz | hz | hz) | hz
    · exact .inr (.inr (.inl hz))
    · exact .inr (.inl hz)
    · exact .inl hz
    · exact .inr (.inr (.inr hz))
  have hw : ∀ z, (z ∈ V ∨ z = f ∨ z ∈ L) → z ∈ V ∨ z = f ∨ z ∈ L ++ L2 := fun z hz => by
    rcases hz with hz | hz | hz
    · exact .inl hz
    · exact .inr (.inl hz)
    · exact .inr (.inr (List.mem_append.2 (.inl hz)))
  refine ⟨?_, fun x hx => ?_, fun j' k' hd h1 h2' h3 z hz => ?_, fun x hx z hz => ?_, fun x hx => ?_⟩
  · rw [List.nodup_append]
    exact ⟨h.nd, h2.nd, fun a ha b hb e => (hm b (h2.new b hb).1).1 (e ▸ ha)⟩
  · rcases List.mem_append.1 hx with hx | hx
    · exact h.new x hx
    · have := h2.new x hx
      exact ⟨(hm x this.1).2.2, (hm x this.1).2.1, this.2⟩
  · by_cases e : j' = j ∧ k' = k
    · obtain ⟨rfl, rfl⟩ := e
      have : z = y := by rw [ht] at hz; omega
      subst this
      exact hin _ h2.inn
    · exact hw _ (h.dn j' k' (by omega) h1 h2' h3 z hz)
  · rcases List.mem_append.1 hx with hx | hx
    · exact hw _ (h.cl x hx z hz)
    · exact hin _ (h2.cl x hx z hz)
  · rcases List.mem_append.1 hx with hx | hx
    · exact h.rc x hx
    · exact (Rch.step (.refl f) hadj).trans (h2.rc x hx)
theorem BS.skip {n : Nat} {F : Nat → FD} {V : List Nat} {f j k : Nat} {L : List Nat} (h : BS n F V f j k L) (hv : ((F f).im j k).v = false) : BS n F V f j (k + 1) L :=
  ⟨h.nd, h.new, fun j' k' hd h1 h2 h3 z hz => by
    by_cases e : j' = j ∧ k' = k
    · obtain ⟨rfl, rfl⟩ := e
      rw [hv] at h3; cases h3
    · exact h.dn j' k' (by omega) h1 h2 h3 z hz, h.cl, h.rc⟩
theorem BS.next {n : Nat} {F : Nat → FD} {V : List Nat} {f j k : Nat} {L : List Nat} (h : BS n F V f j k L) (hk : (F f).nk j ≤ k) : BS n F V f (j + 1) 0 L :=
  ⟨h.nd, h.new, fun j' k' hd h1 h2 h3 z hz => by
    by_cases e : j' = j
    · subst e
      exact h.dn j' k' (by omega) h1 h2 h3 z hz
    · exact h.dn j' k' (by omega) h1 h2 h3 z hz, h.cl, h.rc⟩
theorem BS.fin {n : Nat} {F : Nat → FD} {V : List Nat} {f j : Nat} {L : List Nat} (h : BS n F V f j 0 L) (hj : (F f).np ≤ j) (hf : f ∉ V) (hn : f < n) : VS n F V f (L ++ [f]) := by
  have hin : ∀ z, (z ∈ V ∨ z = f ∨ z ∈ L) → z ∈ V ∨ z ∈ L ++ [f] := fun z hz => by
    rw [List.mem_append, List.mem_singleton]
    rcases hz with hz | hz | hz
    · exact .inl hz
    · exact .inr (.inr hz)
    · exact .inr (.inl hz)
  refine ⟨?_, fun x hx => ?_, .inr (by simp), fun x hx y hy => ?_, fun x hx => ?_, fun _ => ⟨L, rfl⟩⟩
  · rw [List.nodup_append]
    exact ⟨h.nd, by simp, fun a ha b hb e => by rw [List.mem_singleton] at hb; exact (h.new a ha).2.1 (e.trans hb)⟩
  · rcases List.mem_append.1 hx with hx | hx
    · exact ⟨(h.new x hx).1, (h.new x hx).2.2⟩
    · rw [List.mem_singleton] at hx; subst hx; exact ⟨hf, hn⟩
  · rcases List.mem_append.1 hx with hx | hx
    · exact hin _ (h.cl x hx y hy)
    · rw [List.mem_singleton] at hx
      subst hx
      obtain ⟨j', k', h1, h2, h3, h4⟩ := hy
      exact hin _ (h.dn j' k' (by omega) h1 h2 h3 y h4)
  · rcases List.mem_append.1 hx with hx | hx
    · exact h.rc x hx
    · rw [List.mem_singleton] at hx; subst hx; exact .refl _
theorem nodup_len : ∀ (n : Nat) (l : List Nat), l.Nodup → (∀ x ∈ l, x < n) → l.length ≤ n := by
  intro n
  induction n with
  | zero =>
    intro l _ h
    cases l with
    | nil => exact Nat.le_refl _
    | cons a l => exact absurd (h a List.mem_cons_self) (Nat.not_lt_zero _)
  | succ n ih =>
    intro l hd h
    by_cases hm : n ∈ l
    · have h1 := ih (l.erase n) (hd.erase n) (fun x hx => by
        have h2 := (List.Nodup.mem_erase_iff hd).1 hx
        have := h x h2.2
        omega)
      have := List.length_erase_of_mem hm
      omega
    · have := ih l hd (fun x hx => by
        have h1 := h x hx
        have h2 : x ≠ n := fun e => hm (e ▸ hx)
        omega)
      omega
theorem filter_len {F : Nat → FD} : ∀ (l : List Nat), (l.filterMap (cssOf F)).length ≤ l.length := fun l => List.length_filterMap_le _ _
theorem BS.ok {n : Nat} {F : Nat → FD} {V : List Nat} {f j k : Nat} {L : List Nat} (h : BS n F V f j k L) (hnd : V.Nodup) (hvn : ∀ x ∈ V, x < n) (hf : f < n) (hfV : f ∉ V) : (L ++ f :: V).Nodup ∧ ∀ x ∈ L ++ f :: V, x < n := by
  refine ⟨?_, fun x hx => ?_⟩
  · rw [List.nodup_append]
    exact ⟨h.nd, List.nodup_cons.2 ⟨hfV, hnd⟩, fun a ha b hb e => by
      rcases List.mem_cons.1 hb with hb | hb
      · exact (h.new a ha).2.1 (e.trans hb)
      · exact (h.new a ha).1 (e ▸ hb)⟩
  · rcases List.mem_append.1 hx with hx | hx
    · exact (h.new x hx).2.2
    · rcases List.mem_cons.1 hx with rfl | hx
      · exact hf
      · exact hvn x hx
theorem u32wf {x : Int} (h : U32 x) : (Lit.int .u32 x).wf = true := by
  simp only [Lit.wf, Bool.and_eq_true, decide_eq_true_eq]
  exact ⟨h.1, h.2⟩
theorem mk23 : Go.Maps.Keyed Try.prog 23 := Go.Maps.int_keyed Try.underlying23
theorem key23 {x : Int} (h : U32 x) : keyOf Try.prog 23 (.int .u32 x) = some (.int .u32 x) := Go.Maps.keyOf_int_mk Try.underlying23 (u32wf h)
/-- The map of visited files. -/
def vmap (V : List Nat) : Value → Option Value
  | .int .u32 z => if 0 ≤ z ∧ z.toNat ∈ V then some (.bool true) else none
  | _ => none
theorem vmap_mem {V : List Nat} {f : Nat} (h : f ∈ V) : vmap V (.int .u32 (f : Int)) = some (.bool true) := by
  show (if 0 ≤ (f : Int) ∧ (f : Int).toNat ∈ V then some (Value.bool true) else none) = _
  rw [if_pos ⟨by omega, by simpa using h⟩]
theorem vmap_not {V : List Nat} {f : Nat} (h : f ∉ V) : vmap V (.int .u32 (f : Int)) = none := by
  show (if 0 ≤ (f : Int) ∧ (f : Int).toNat ∈ V then some (Value.bool true) else none) = _
  rw [if_neg (fun e => h (by simpa using e.2))]
theorem vmap_set {V : List Nat} {f : Nat} : setM (vmap V) (.int .u32 (f : Int)) (.bool true) = vmap (f :: V) := by
  funext x
  by_cases e : x = .int .u32 (f : Int)
  · subst e
    rw [setM_same, vmap_mem List.mem_cons_self]
  · rw [setM_other _ _ _ _ e]
    unfold vmap
    split
    · rename_i z
      have hz : 0 ≤ z → z.toNat ≠ f := fun h0 h1 => e (by rw [← h1, Int.toNat_of_nonneg h0])
      by_cases h0 : 0 ≤ z
      · simp [h0, hz h0]
      · simp [h0]
    · rfl
theorem vmap_congr {V V' : List Nat} (h : ∀ x, x ∈ V ↔ x ∈ V') : vmap V = vmap V' := by
  funext x
  unfold vmap
  split
  · simp [h]
  · rfl
theorem vmap_nil : vmap [] = noneM := by
  funext x
  unfold vmap noneM
  split
  · simp
  · rfl
/-- The graph, as it lies ahead of the search. -/
structure Gr (w0 : World) (cb lb n : Nat) (F : Nat → FD) : Prop where
  c10 : w0.cell? ⟨cb, 10, none⟩ = some (.slice (some ⟨lb, 0, none⟩) n n)
  lf : LFiles w0 lb n F
/-- The closure. -/
def clos (z : Nat) : Value := .func (.func 15) #[] #[.pointer (some ⟨z + 3, 0, none⟩), .pointer (some ⟨z, 0, none⟩), .pointer (some ⟨z + 4, 0, none⟩), .pointer (some ⟨z + 1, 0, none⟩)]
/-- While the files are visited: V visited, P done, in postorder. -/
structure St (w0 : World) (cb : Nat) (F : Nat → FD) (w : World) (V P : List Nat) (ov : Value) : Prop where
  bl : Below w0.heap.size w0 w
  k0 : w.heap[w0.heap.size]? = some (.cells #[.pointer (some ⟨cb, 0, none⟩)] 27 (0, 0))
  k1 : w.heap[w0.heap.size + 1]? = some (.cells #[ov] 88 (0, 0))
  k3 : w.heap[w0.heap.size + 3]? = some (.cells #[.map (some (w0.heap.size + 2))] 204 (0, 0))
  k4 : w.heap[w0.heap.size + 4]? = some (.cells #[clos w0.heap.size] 205 (0, 0))
  mp : MapIs Try.prog 23 w (w0.heap.size + 2) (vmap V)
  own : w.ownsRow (w0.heap.size + 5) 23 1 ov (P.filterMap (cssOf F)).length ((P.filterMap (cssOf F)).map (Value.int .u32))
  pv : ∀ x ∈ P, x ∈ V
  pd : P.Nodup
theorem St.size {w0 w : World} {cb : Nat} {F : Nat → FD} {V P : List Nat} {ov : Value} (h : St w0 cb F w V P ov) : w0.heap.size + 4 < w.heap.size := (Array.getElem?_eq_some_iff.1 h.k4).1
/-- New blocks alone. -/
theorem St.below {w0 w w' : World} {cb : Nat} {F : Nat → FD} {V P : List Nat} {ov : Value} (h : St w0 cb F w V P ov) (hb : Below w.heap.size w w') : St w0 cb F w' V P ov := by
  have hs := h.size
  exact ⟨h.bl.trans (hb.mono h.bl.size), (hb.block _ (by omega)).trans h.k0, (hb.block _ (by omega)).trans h.k1, (hb.block _ (by omega)).trans h.k3, (hb.block _ (by omega)).trans h.k4, h.mp.below hb h.mp.lt, owns_below h.own hb, h.pv, h.pd⟩
theorem St.congr {w0 w : World} {cb : Nat} {F : Nat → FD} {V V' P : List Nat} {ov : Value} (h : St w0 cb F w V P ov) (hv : ∀ x, x ∈ V ↔ x ∈ V') : St w0 cb F w V' P ov :=
  ⟨h.bl, h.k0, h.k1, h.k3, h.k4, by rw [← vmap_congr hv]; exact h.mp, h.own, fun x hx => (hv x).1 (h.pv x hx), h.pd⟩
theorem St.mark {w0 w : World} {cb : Nat} {F : Nat → FD} {V P : List Nat} {ov : Value} {f : Nat} (h : St w0 cb F w V P ov) (hu : U32 (f : Int)) :
    ∃ w', (Instr.mapUpdate 204 (.map (some (w0.heap.size + 2))) (.int .u32 (f : Int)) (.bool true)).run Try.prog w = .ok () w' ∧ Hid (St w0 cb F w' (f :: V) P ov) := by
  obtain ⟨o, hr, hm⟩ := h.mp.update mk23 Try.underlying204 (key23 hu) (.bool true)
  rw [vmap_set] at hm
  refine ⟨_, hr, Lib.hid ⟨setBlock_below h.bl (by omega) _, (block_other _ _ _ _ (by omega)).trans h.k0, (block_other _ _ _ _ (by omega)).trans h.k1, (block_other _ _ _ _ (by omega)).trans h.k3, (block_other _ _ _ _ (by omega)).trans h.k4, hm, ?_, fun x hx => List.mem_cons_of_mem _ (h.pv x hx), h.pd⟩⟩
  obtain ⟨h1, h2⟩ := h.own
  refine ⟨h1, ?_⟩
  rcases h2 with h2 | ⟨g, cap, cur, e, a, b, rest⟩
  · exact .inl h2
  · exact .inr ⟨g, cap, cur, e, a, (block_other _ _ _ _ (by omega)).trans b, rest⟩
theorem infoU : (Try.prog.info? 23).map (fun i => (i.zero, i.size, i.bytes)) = some (some (.int .u32 0), 1, 4) := by kernel_rfl
/-- f's number is appended. -/
theorem St.app {w0 w : World} {cb : Nat} {F : Nat → FD} {V P : List Nat} {ov : Value} (h : St w0 cb F w V P ov) {f : Nat} (hfV : f ∈ V) (hfP : f ∉ P) (hc : cssOf F f = some (F f).css) (hlen : (P.filterMap (cssOf F)).length ≤ 1048576) {sb c : Nat} (hs : w.heap[sb]? = some (.cells #[.int .u32 (F f).css] 23 (0, 0))) (ty : TypeId) :
    ∃ v' w', (Builtin.append_ #[88, 88] ty #[ov, .slice (some ⟨sb, 0, none⟩) 1 c]).run Try.prog w = .ok v' w' ∧ (∃ a' l' c', v' = .slice a' l' c' ∧ w.heap.size ≤ w'.heap.size ∧ w'.cell? ⟨w0.heap.size + 1, 0, none⟩ = some ov ∧ w'.frozen? ⟨w0.heap.size + 1, 0, none⟩ = false ∧ Hid (Chg (fun k => ov.ownBlock = some k) w w') ∧ Hid (St w0 cb F (w'.setCell ⟨w0.heap.size + 1, 0, none⟩ v') V (P ++ [f]) v')) := by
  obtain ⟨i, hi, hz, hsz, hb⟩ := info_parts infoU
  obtain ⟨v', w', hr, ho, hg, _⟩ := app_keep (P := Try.prog) w (ty := ty) Try.underlying88 hi hz hsz hb rfl (by omega) h.own ⟨sb, 0, none⟩ 1 c [.int .u32 (F f).css] rfl (cells_at (cs := [.int .u32 (F f).css]) hs) (by intro u hu; simp at hu; subst hu; rfl) (by unfold maxLen; omega) (by omega) (by have := h.size; omega)
  have hc2 : Chg (fun k => ov.ownBlock = some k) w w' := Chg.of_grown hg
  have hne : ∀ k, k < w0.heap.size + 5 → ¬ ov.ownBlock = some k := fun k hk e => by have := (h.own.lt k e).1; omega
  have hs4 := h.size
  have hk : ∀ k, k < w0.heap.size + 5 → w'.heap[k]? = w.heap[k]? := fun k h1 => hc2.block k (by omega) (hne k h1)
  obtain ⟨a', c', e⟩ := own_slice ho
  have k1' := (hk _ (by omega)).trans h.k1
  refine ⟨v', w', hr, a', _, c', e, hc2.size, by rw [cell_of_row _ _ 0 _ _ _ k1']; rfl, frozen_of_row _ _ 0 _ _ k1', Lib.hid hc2, Lib.hid ?_⟩
  have hso : ∀ k, k ≠ w0.heap.size + 1 → (w'.setCell ⟨w0.heap.size + 1, 0, none⟩ v').heap[k]? = w'.heap[k]? := fun k hk => heap_setCell_other _ _ _ _ (by simpa using hk)
  have hfm : (P ++ [f]).filterMap (cssOf F) = P.filterMap (cssOf F) ++ [(F f).css] := by
    rw [List.filterMap_append]
    simp [List.filterMap_cons, hc]
  refine ⟨(h.bl.trans (hc2.below h.bl.size (fun k e => by have := (h.own.lt k e).1; omega))).setCell (Nat.le_succ _) _, ?_, ?_, ?_, ?_, ?_, ?_, ?_, ?_⟩
  · rw [hso _ (by omega), hk _ (by omega)]; exact h.k0
  · rw [heap_setCell_same _ _ _ _ _ _ k1']; rfl
  · rw [hso _ (by omega), hk _ (by omega)]; exact h.k3
  · rw [hso _ (by omega), hk _ (by omega)]; exact h.k4
  · exact h.mp.of_block (by rw [hso _ (by omega), hk _ (by omega)])
  · rw [hfm, List.length_append, List.map_append]
    exact (chg_set (w := w') (b := w0.heap.size + 1) (o := 0) (n := 0) (t := 0) v').owns ho (fun g hg' e2 => by have := (ho.lt g hg').1; omega)
  · intro x hx
    rcases List.mem_append.1 hx with hx | hx
    · exact h.pv x hx
    · rw [List.mem_singleton] at hx; subst hx; exact hfV
  · rw [List.nodup_append]
    exact ⟨h.pd, by simp, fun a ha b hb e => by rw [List.mem_singleton] at hb; subst hb; exact hfP (e ▸ ha)⟩
theorem St.noapp {w0 w : World} {cb : Nat} {F : Nat → FD} {V P : List Nat} {ov : Value} (h : St w0 cb F w V P ov) {f : Nat} (hfV : f ∈ V) (hfP : f ∉ P) (hc : cssOf F f = none) : St w0 cb F w V (P ++ [f]) ov := by
  have hfm : (P ++ [f]).filterMap (cssOf F) = P.filterMap (cssOf F) := by
    rw [List.filterMap_append]
    simp [List.filterMap_cons, hc]
  refine ⟨h.bl, h.k0, h.k1, h.k3, h.k4, h.mp, by rw [hfm]; exact h.own, fun x hx => ?_, ?_⟩
  · rcases List.mem_append.1 hx with hx | hx
    · exact h.pv x hx
    · rw [List.mem_singleton] at hx; subst hx; exact hfV
  · rw [List.nodup_append]
    exact ⟨h.pd, by simp, fun a ha b hb e => by rw [List.mem_singleton] at hb; subst hb; exact hfP (e ▸ ha)⟩
/-- What a visit leaves. -/
def Vp (w0 : World) (cb n : Nat) (F : Nat → FD) (V P : List Nat) (f : Nat) (e : Ending) (w' : World) : Prop := e = .returned (.tuple #[]) ∧ Hid (∃ L ov', VS n F V f L ∧ St w0 cb F w' (L ++ V) (P ++ L) ov')
theorem zbool (w : World) : (zeroValue 4).run Try.prog w = .ok (.bool false) w := by kernel_rfl
theorem f32 {f n : Nat} (h : f < n) (hn : n ≤ 1048576) : U32 (f : Int) := ⟨by omega, by omega⟩
set_option maxRecDepth 100000 in
theorem visit_old (w0 : World) (cb n : Nat) (F : Nat → FD) (V P : List Nat) (ov : Value) (f : Nat) (w : World) (hu : U32 (f : Int)) (hfV : f ∈ V) (hst : St w0 cb F w V P ov) :
      Calls Try.prog 15 #[.int .u32 (f : Int), .pointer (some ⟨w0.heap.size + 3, 0, none⟩), .pointer (some ⟨w0.heap.size, 0, none⟩), .pointer (some ⟨w0.heap.size + 4, 0, none⟩), .pointer (some ⟨w0.heap.size + 1, 0, none⟩)] w (Vp w0 cb n F V P f) := by
  have HS := Lib.hid hst
  have hlook := hst.mp.look mk23 Try.underlying204 (key23 hu) (vmap_mem hfV) false
  have c3 : w.cell? ⟨w0.heap.size + 3, 0, none⟩ = some (.map (some (w0.heap.size + 2))) := by rw [cell_of_row _ _ 0 _ _ _ hst.k3]; rfl
  have HV := Lib.hid hfV
  clear hst hfV
  go_enter Try.func15, Try.ntmps15
  go_wp2_with (refine wpList_look rfl _ _ 204 false rfl rfl rfl hlook ?_)
  go_end0
  exact ⟨rfl, Lib.hid ⟨[], ov, VS.old n F HV.out, by simpa using HS.out⟩⟩
set_option maxRecDepth 100000 in
set_option maxHeartbeats 40000000 in
theorem visit_new (w0 : World) (cb lb n : Nat) (F : Nat → FD) (hG : Gr w0 cb lb n F) (hfb : FB n F) (hfw : FW n F) (hvl : VL n F) (m : Nat) (V P : List Nat) (ov : Value) (f : Nat) (w : World) (hm : n - V.length ≤ m + 1) (hnd : V.Nodup) (hvn : ∀ x ∈ V, x < n) (hf : f < n) (hst : St w0 cb F w V P ov) (hfV : f ∉ V)
    (IH : ∀ (V P : List Nat) (ov : Value) (f : Nat) (w : World), n - V.length ≤ m → V.Nodup → (∀ x ∈ V, x < n) → f < n → St w0 cb F w V P ov → Calls Try.prog 15 #[.int .u32 (f : Int), .pointer (some ⟨w0.heap.size + 3, 0, none⟩), .pointer (some ⟨w0.heap.size, 0, none⟩), .pointer (some ⟨w0.heap.size + 4, 0, none⟩), .pointer (some ⟨w0.heap.size + 1, 0, none⟩)] w (Vp w0 cb n F V P f)) :
      Calls Try.prog 15 #[.int .u32 (f : Int), .pointer (some ⟨w0.heap.size + 3, 0, none⟩), .pointer (some ⟨w0.heap.size, 0, none⟩), .pointer (some ⟨w0.heap.size + 4, 0, none⟩), .pointer (some ⟨w0.heap.size + 1, 0, none⟩)] w (Vp w0 cb n F V P f) := by
  have hn20 := hfb.1
  have hu := f32 hf hn20
  have hlook := hst.mp.look_no mk23 Try.underlying204 (key23 hu) (vmap_not hfV) (zbool w) false
  have c3 : w.cell? ⟨w0.heap.size + 3, 0, none⟩ = some (.map (some (w0.heap.size + 2))) := by rw [cell_of_row _ _ 0 _ _ _ hst.k3]; rfl
  have HMK := hst.mark hu
  have HPV := Lib.hid hst.pv
  have HIH := Lib.hid IH
  have HND := Lib.hid hnd
  have HVN := Lib.hid hvn
  have HFV := Lib.hid hfV
  have hcbl := Aux.lt_of_cell hG.c10
  have hlbl := blk_lt hG.lf.1
  obtain ⟨rb, hrc, hrep⟩ := hG.lf.2 f hf
  obtain ⟨pb, ra, rc, q1, q2, q3, q4, q5, q6, q7⟩ := hrep
  have HC10 := Lib.hid hG.c10
  have HRC := Lib.hid hrc
  have HQ2 := Lib.hid q2
  have HQ3 := Lib.hid q3
  have HQ4 := Lib.hid q4
  have HQ6 := Lib.hid q6
  have HQ7 := Lib.hid q7
  have hrbl := blk_lt q1
  have hpbl := blk_lt q5
  have hnp : (F f).np ≤ 1048576 := (hfb.2 f hf).1
  have HPS : Hid (psum (F f).nk (F f).np ≤ 1048576) := Lib.hid (hfb.2 f hf).2
  have HCSU : Hid (U32 (F f).css) := Lib.hid (hfw f hf).1
  have HIU : Hid (∀ j, j < (F f).np → ∀ k, k < (F f).nk j → U32 ((F f).im j k).t) := Lib.hid (hfw f hf).2
  have HCS : Hid ((F f).has = true → (F f).css ≠ 4294967295) := Lib.hid (hvl f hf).1
  have HIT : Hid (∀ j, j < (F f).np → ∀ k, k < (F f).nk j → ((F f).im j k).v = true → ((F f).im j k).t < n) := Lib.hid (hvl f hf).2
  have hta : ∀ w : World, (Instr.typeAssert (.iface 152 (.pointer (some ⟨rb, 0, none⟩))) 185 152 false).run Try.prog w = .ok (.pointer (some ⟨rb, 0, none⟩)) w := fun w => by kernel_rfl
  have hfz : (f : Int) < (n : Int) := by omega
  have hf0 : (0 : Int) ≤ (f : Int) := by omega
  have HLEN : Hid (∀ (P : List Nat), P.Nodup → (∀ x ∈ P, x < n) → (P.filterMap (cssOf F)).length ≤ 1048576) := Lib.hid fun P h1 h2 => Nat.le_trans (filter_len P) (Nat.le_trans (nodup_len n P h1 h2) hn20)
  clear hst IH hnd hvn hfV hrc q1 q2 q3 q4 q5 q6 q7 hG hfb hfw hvl
  go_enter Try.func15, Try.ntmps15
  go_wp2_with (first
    | (refine wpList_look rfl _ _ 204 false rfl rfl rfl hlook ?_)
    | (refine wpList_mapSet rfl _ _ _ 204 rfl rfl rfl rfl HMK ?_
       intro w2 hw2
       have d0 : w2.cell? ⟨w0.heap.size, 0, none⟩ = some (.pointer (some ⟨cb, 0, none⟩)) := by rw [cell_of_row _ _ 0 _ _ _ hw2.out.k0]; rfl
       have d10 := cell_below HC10.out hw2.out.bl hcbl
       have drb := cell_below HRC.out hw2.out.bl hlbl
       have d20 := cell_below HQ2.out hw2.out.bl hrbl))
  have HW2 := hw2
  clear d0 d10 drb d20 c3 hlook HMK
  go_loopw [37] (fun s37 w3 => ∃ (j : Nat), j ≤ (F f).np ∧ s37 = .int .i64 j ∧ Hid (∃ L ov', BS n F V f j 0 L ∧ St w0 cb F w3 (L ++ f :: V) (P ++ L) ov')) (fun s37 _ => (F f).np - (intOf s37).toNat)
  case atStart => exact ⟨0, by omega, rfl, Lib.hid ⟨[], ov, BS.start n F V f, by rw [List.append_nil]; exact HW2.out⟩⟩
  case round =>
    clear hw2 HW2
    obtain ⟨j, hj, rfl, HJ⟩ := hrel
    obtain ⟨L, ovL, hBS, hST⟩ := HJ.out
    have HBS := Lib.hid hBS
    have HST := Lib.hid hST
    clear HJ hBS hST
    obtain ⟨w3, hw3⟩ : ∃ w3, w3 = wr := ⟨_, rfl⟩
    rw [← hw3] at HST ⊢
    clear hw3
    by_cases hjl : j < (F f).np
    · have hjz : (j : Int) < ((F f).np : Int) := by omega
      obtain ⟨xb, hAt, hIx, hIx2⟩ := HQ6.out j hjl
      have hnk := Nat.le_trans (psum_le (F f).nk hjl) HPS.out
      have hps : psum (F f).nk j + (F f).nk j ≤ psum (F f).nk (F f).np := by have := psum_mono (F f).nk (F f).np (j + 1) hjl; rwa [psum] at this
      have hpt : psum (F f).nk (F f).np ≤ 1048576 := HPS.out
      obtain ⟨nkj, hnkj⟩ : ∃ m, (F f).nk j = m := ⟨_, rfl⟩
      obtain ⟨s, hs⟩ : ∃ s, psum (F f).nk j = s := ⟨_, rfl⟩
      obtain ⟨tot, htot⟩ : ∃ t, psum (F f).nk (F f).np = t := ⟨_, rfl⟩
      rw [hnkj] at hAt hIx2 hnk hps
      rw [hs] at hIx2 hps
      rw [htot] at hps hpt
      have hAw := hAt.below hpbl HST.out.bl
      have d0 := hAw 0 _ rfl
      rw [Nat.add_zero] at d0
      have d1 := hAw 1 _ rfl
      have d2 := hAw 2 _ rfl
      have d3 := hAw 3 _ rfl
      have d4 := hAw 4 _ rfl
      have d5 := hAw 5 _ rfl
      have d6 := hAw 6 _ rfl
      have d7 := hAw 7 _ rfl
      have d8 := hAw 8 _ rfl
      have d9 := hAw 9 _ rfl
      have d10 := hAw 10 _ rfl
      have HIX := Lib.hid hIx2
      have hxbl := blk_lt hIx
      have HNK := Lib.hid hnkj
      have HS := Lib.hid hs
      have HTOT := Lib.hid htot
      clear hAt hAw hIx hIx2 hnkj hs htot
      go_wp2_with fail
      have HSTa := Lib.hid (HST.out.below (((Below.refl w3.heap.size w3).alloc (Nat.le_refl _) (.cells #[.slice none 0 0, .slice none 0 0, .slice (some ⟨xb, 0, none⟩) nkj nkj, .slice none 0 0, .map none, .map none, .map none, .slice none 0 0, .bool false, .bool false, .bool false] 151))))
      go_loopw [44] (fun s44 w4 => ∃ (k : Nat), k ≤ nkj ∧ s44 = .int .i64 k ∧ Hid (∃ L ov', BS n F V f j k L ∧ St w0 cb F w4 (L ++ f :: V) (P ++ L) ov')) (fun s44 _ => nkj - (intOf s44).toNat)
      case atStart => exact ⟨0, by omega, rfl, Lib.hid ⟨L, ovL, HBS.out, HSTa.out⟩⟩
      case round =>
        clear HSTa HST HBS d0 d1 d2 d3 d4 d5 d6 d7 d8 d9 d10
        obtain ⟨k, hk, rfl, HK⟩ := hrel
        obtain ⟨L, ovL, hBS, hST⟩ := HK.out
        have HBS := Lib.hid hBS
        have HST := Lib.hid hST
        clear HK hBS hST
        by_cases hkl : k < nkj
        · have hkz : (k : Int) < (nkj : Int) := by omega
          have e0 := cell_below (HIX.out k hkl) HST.out.bl hxbl
          obtain ⟨q, hq⟩ : ∃ q, s + k = q := ⟨_, rfl⟩
          rw [hq] at e0
          have hqt : q < tot := by omega
          obtain ⟨gb, cur, hra, hgb, hgc⟩ := HQ7.out (by rw [HTOT.out]; omega)
          subst hra
          have hkF : k < (F f).nk j := by rw [HNK.out]; exact hkl
          have hg := hgc j hjl k hkF
          rw [HS.out, hq] at hg
          have hgbl := Aux.lt_of_cell hg
          have HGC := Lib.hid hg
          have e1 := cell_below hg HST.out.bl hgbl
          have e35 := cell_below HQ3.out HST.out.bl hrbl
          rw [HTOT.out] at e35
          have hqz : (q : Int) < (tot : Int) := by omega
          have hq0 : (0 : Int) ≤ (q : Int) := by omega
          have hut := HIU.out j hjl k hkF
          have hit := HIT.out j hjl k hkF
          have hsk : ((F f).im j k).v = false → BS n F V f j (k + 1) L := fun hv => HBS.out.skip hv
          have HSK := Lib.hid hsk
          obtain ⟨z, hz⟩ : ∃ z, (F f).im j k = z := ⟨_, rfl⟩
          rw [hz] at e1 hg HGC hut hit
          obtain ⟨vv, tt⟩ := z
          have HZ := Lib.hid hz
          have HUT : Hid (U32 tt) := Lib.hid hut
          have HITT : Hid (vv = true → tt < n) := Lib.hid hit
          clear hgb hgc hg hz hut hit hsk
          cases vv with
          | false =>
            have e1' : wr.cell? ⟨gb, q * 15 + 10, none⟩ = some (.int .u32 0) := e1
            clear e1
            go_wp2_with fail
            refine (val16 0 _).mono ?_
            rintro e w5 ⟨rfl, hb5⟩
            have HST5 := Lib.hid (HST.out.below hb5.out)
            go_wp2_with fail
            go_roundw
            case rel => exact ⟨k + 1, by omega, by go_num, Lib.hid ⟨L, ovL, HSK.out (by rw [HZ.out]), HST5.out⟩⟩
            case measure => simp [intOf]; omega
          | true =>
            obtain ⟨y, rfl⟩ := Int.eq_ofNat_of_zero_le HUT.out.1
            have hyn : y < n := by have := HITT.out rfl; omega
            have e1' : wr.cell? ⟨gb, q * 15 + 10, none⟩ = some (.int .u32 (Aux.flip (y : Int))) := e1
            have hfu : U32 (Aux.flip (y : Int)) := flip_u32 HUT.out
            have hfl : (Aux.flip (y : Int) == 0) = false := by rw [beq_eq_false_iff_ne]; unfold Aux.flip; omega
            obtain ⟨ff, hff⟩ : ∃ ff, Aux.flip (y : Int) = ff := ⟨_, rfl⟩
            have HFF : Hid (Aux.flip ff = (y : Int)) := Lib.hid (by rw [← hff, Aux.flip_flip])
            have HGC' : Hid (w0.cell? ⟨gb, q * 15 + 10, none⟩ = some (.int .u32 ff)) := Lib.hid (by rw [← hff]; exact HGC.out)
            rw [hff] at e1' hfu hfl
            have HFU := Lib.hid hfu
            clear e1 hff hfu HGC
            go_wp2_with fail
            refine (val16 ff _).mono ?_
            rintro e w5 ⟨rfl, hb5⟩
            rw [hfl]
            have HST5 := Lib.hid (HST.out.below hb5.out)
            clear HST e0 e35 e1' hb5
            have e4 : w5.cell? ⟨w0.heap.size + 4, 0, none⟩ = some (clos w0.heap.size) := by rw [cell_of_row _ _ 0 _ _ _ HST5.out.k4]; rfl
            have e1' := cell_below HGC'.out HST5.out.bl hgbl
            have hok := HBS.out.ok HND.out HVN.out hf HFV.out
            have HOK := Lib.hid hok
            have hlen : n - (L ++ f :: V).length ≤ m := by rw [List.length_append, List.length_cons]; omega
            have hclos : clos w0.heap.size = .func (.func 15) #[] #[.pointer (some ⟨w0.heap.size + 3, 0, none⟩), .pointer (some ⟨w0.heap.size, 0, none⟩), .pointer (some ⟨w0.heap.size + 4, 0, none⟩), .pointer (some ⟨w0.heap.size + 1, 0, none⟩)] := rfl
            rw [hclos] at e4
            have HGET := Lib.hid (fun w => get17 ff HFU.out w)
            rw [HFF.out] at HGET
            clear hok
            go_wp2_with fail
            go_region_held3 (fun w' => w'.cell? ⟨w0.heap.size + 4, 0, none⟩ = some (.func (.func 15) #[] #[.pointer (some ⟨w0.heap.size + 3, 0, none⟩), .pointer (some ⟨w0.heap.size, 0, none⟩), .pointer (some ⟨w0.heap.size + 4, 0, none⟩), .pointer (some ⟨w0.heap.size + 1, 0, none⟩)]) ∧ w'.cell? ⟨gb, q * 15 + 10, none⟩ = some (.int .u32 ff))
              (first | with_reducible exact ⟨cell_dr e4, cell_dr e1'⟩ | with_reducible exact HS6.out | with_reducible exact HS7.out)
              (first
                | (go_at_call 17
                   refine (HGET.out _).mono ?_
                   rintro e w6 ⟨rfl, hb6⟩
                   have HST6 := Lib.hid (HST5.out.below (below_of_drew hb6.out))
                   have HS6 : Hid ((fun w' : World => w'.cell? ⟨w0.heap.size + 4, 0, none⟩ = some (.func (.func 15) #[] #[.pointer (some ⟨w0.heap.size + 3, 0, none⟩), .pointer (some ⟨w0.heap.size, 0, none⟩), .pointer (some ⟨w0.heap.size + 4, 0, none⟩), .pointer (some ⟨w0.heap.size + 1, 0, none⟩)]) ∧ w'.cell? ⟨gb, q * 15 + 10, none⟩ = some (.int .u32 ff)) w6) := Lib.hid ⟨(by rw [cell_of_row _ _ 0 _ _ _ HST6.out.k4]; rfl), cell_below HGC'.out HST6.out.bl hgbl⟩)
                | (go_at_call 15
                   refine (HIH.out (L ++ f :: V) (P ++ L) ovL y w6 hlen HOK.out.1 HOK.out.2 hyn HST6.out).mono ?_
                   rintro e w7 ⟨rfl, HV7⟩
                   have HS7 : Hid ((fun w' : World => w'.cell? ⟨w0.heap.size + 4, 0, none⟩ = some (.func (.func 15) #[] #[.pointer (some ⟨w0.heap.size + 3, 0, none⟩), .pointer (some ⟨w0.heap.size, 0, none⟩), .pointer (some ⟨w0.heap.size + 4, 0, none⟩), .pointer (some ⟨w0.heap.size + 1, 0, none⟩)]) ∧ w'.cell? ⟨gb, q * 15 + 10, none⟩ = some (.int .u32 ff)) w7) := Lib.hid (by
                     obtain ⟨_, _, _, hst7⟩ := HV7.out
                     exact ⟨(by rw [cell_of_row _ _ 0 _ _ _ hst7.k4]; rfl), cell_below HGC'.out hst7.bl hgbl⟩)))
            go_wp2_with fail
            go_roundw
            case rel =>
              obtain ⟨L2, ov7, hvs, hst7⟩ := HV7.out
              refine ⟨k + 1, by omega, by go_num, Lib.hid ⟨L ++ L2, ov7, HBS.out.step hjl hkF (by rw [HZ.out]) (by rw [HZ.out]) hvs, ?_⟩⟩
              rw [← List.append_assoc]
              refine hst7.congr (fun x => ?_)
              simp only [List.mem_append, List.mem_cons]
              constructor
              · rintro (h | h | h)
                · exact .inl (.inr h)
                · exact .inl (.inl h)
                · exact .inr h
              · rintro ((h | h) | h)
                · exact .inr (.inl h)
                · exact .inl h
                · exact .inr (.inr h)
            case measure => simp [intOf]; omega
        · have hkz : ¬ (k : Int) < (nkj : Int) := by omega
          go_wp2_with fail
          go_roundw
          case rel => exact ⟨j + 1, by omega, by go_num, Lib.hid ⟨L, ovL, HBS.out.next (by rw [HNK.out]; omega), HST.out⟩⟩
          case measure => simp [intOf]; omega
    · have hjz : ¬ (j : Int) < ((F f).np : Int) := by omega
      have hje : (F f).np ≤ j := by omega
      have e63 := cell_below HQ4.out HST.out.bl hrbl
      have HVS := Lib.hid (HBS.out.fin hje HFV.out hf)
      have hfm : f ∈ L ++ f :: V := List.mem_append.2 (.inr List.mem_cons_self)
      have hfP : f ∉ P ++ L := fun h => by
        rcases List.mem_append.1 h with h | h
        · exact HFV.out (HPV.out f h)
        · exact (HBS.out.new f h).2.1 rfl
      have HFM := Lib.hid hfm
      have HFP := Lib.hid hfP
      have HEQ : Hid (L ++ [f] ++ V = L ++ f :: V ∧ P ++ (L ++ [f]) = P ++ L ++ [f]) := Lib.hid ⟨by simp, by simp⟩
      have hplen := HLEN.out (P ++ L) HST.out.pd (fun x hx => (HBS.out.ok HND.out HVN.out hf HFV.out).2 x (HST.out.pv x hx))
      have HPL := Lib.hid hplen
      clear hfm hfP hplen
      cases hh : (F f).has with
      | false =>
        have hc : cssOf F f = none := by unfold cssOf; rw [hh]; rfl
        have HC := Lib.hid hc
        rw [hh] at e63
        have e63' : w3.cell? ⟨rb, 63, none⟩ = some (.int .u32 0) := e63
        clear e63 hh hc
        go_wp2_with fail
        refine (val16 0 _).mono ?_
        rintro e w5 ⟨rfl, hb5⟩
        have HST5 := Lib.hid (HST.out.below hb5.out)
        go_wp2_with fail
        go_end0
        exact ⟨rfl, Lib.hid ⟨L ++ [f], ovL, HVS.out, by rw [HEQ.out.1, HEQ.out.2]; exact HST5.out.noapp HFM.out HFP.out HC.out⟩⟩
      | true =>
        have hc : cssOf F f = some (F f).css := by unfold cssOf; rw [hh]; rfl
        have HC := Lib.hid hc
        have hcne := HCS.out hh
        rw [hh] at e63
        have e63' : w3.cell? ⟨rb, 63, none⟩ = some (.int .u32 (Aux.flip (F f).css)) := e63
        have HQ4' : Hid (w0.cell? ⟨rb, 63, none⟩ = some (.int .u32 (Aux.flip (F f).css))) := Lib.hid (by have := HQ4.out; rw [hh] at this; exact this)
        obtain ⟨css, hcss⟩ : ∃ c, (F f).css = c := ⟨_, rfl⟩
        rw [hcss] at e63' hcne HCSU HQ4'
        have HCSS := Lib.hid hcss
        have hfu : U32 (Aux.flip css) := flip_u32 HCSU.out
        have hfl : (Aux.flip css == 0) = false := by rw [beq_eq_false_iff_ne]; unfold Aux.flip; intro h; exact hcne (by omega)
        obtain ⟨ff, hff⟩ : ∃ ff, Aux.flip css = ff := ⟨_, rfl⟩
        have HFF : Hid (Aux.flip ff = css) := Lib.hid (by rw [← hff, Aux.flip_flip])
        rw [hff] at e63' hfu hfl HQ4'
        have HFU := Lib.hid hfu
        clear e63 hh hc hcss hff hfu hcne
        go_wp2_with fail
        refine (val16 ff _).mono ?_
        rintro e w5 ⟨rfl, hb5⟩
        rw [hfl]
        have HST5 := Lib.hid (HST.out.below hb5.out)
        clear HST e63' hb5
        have HGET := Lib.hid (fun w => get17 ff HFU.out w)
        rw [HFF.out] at HGET
        have HSTD : Hid (St w0 cb F w5.drew (L ++ f :: V) (P ++ L) ovL) := Lib.hid (HST5.out.below (below_drew (Below.refl _ _)))
        go_wp2_with fail
        refine wp_region_any (by kernel_rfl) ?_
        try (change wpAny _ _ _ _ _ _ _ (World.drew _))
        obtain ⟨WD, hWD⟩ : ∃ WD, w5.drew = WD := ⟨_, rfl⟩
        rw [hWD] at HSTD ⊢
        clear hWD HST5
        have x1 : WD.cell? ⟨w0.heap.size + 1, 0, none⟩ = some ovL := by rw [cell_of_row _ _ 0 _ _ _ HSTD.out.k1]; rfl
        have x63 := cell_below HQ4'.out HSTD.out.bl hrbl
        have hs5 := HSTD.out.size
        refine wpAny_take (i := 1) (v := .pointer (some ⟨rb, 0, none⟩)) rfl (by kernel_rfl) (by kernel_rfl) (by kernel_rfl) (fun _ _ _ h => h) (Or.inl ⟨by rfl, fun w => by go_simp⟩) ?_
        refine wpAny_take (i := 2) (v := .pointer (some ⟨rb, 0, none⟩)) rfl (by kernel_rfl) (by kernel_rfl) (by kernel_rfl) (fun _ _ _ h => h) (Or.inl ⟨by rfl, fun w => by go_simp⟩) ?_
        refine wpAny_take (i := 3) (v := .pointer (some ⟨rb, 63, none⟩)) rfl (by kernel_rfl) (by kernel_rfl) (by kernel_rfl) (fun _ _ _ h => h) (Or.inl ⟨by rfl, fun w => by go_simp⟩) ?_
        refine wpAny_ready (rs := [0, 4]) (by kernel_rfl) (by simp) ?_
        refine AllReady.cons rfl (fun K hK => ?_) (AllReady.cons rfl (fun K hK => ?_) AllReady.nil)
        · go_simp
          refine hK _ _ ?_
          clear hK K
          refine wpAny_ready (rs := [4]) (by kernel_rfl) (by simp) ?_
          refine AllReady.cons rfl (fun K hK => ?_) AllReady.nil
          go_simp
          refine hK _ _ ?_
          clear hK K
          refine wpAny_ready (rs := [5]) (by kernel_rfl) (by simp) ?_
          refine AllReady.cons rfl (fun K hK => ?_) AllReady.nil
          go_simp
          refine (HGET.out _).mono ?_
          rintro e w6 ⟨rfl, hb6⟩
          have HST6 := Lib.hid (HSTD.out.below hb6.out)
          have y1 : w6.cell? ⟨w0.heap.size + 1, 0, none⟩ = some ovL := by rw [cell_of_row _ _ 0 _ _ _ HST6.out.k1]; rfl
          have hs6 : w0.heap.size + 1 < w6.heap.size := by have := HST6.out.size; omega
          have HB6 : Hid (Below w6.heap.size w6 (w6.alloc (.cells #[.int .u32 css] 23))) := Lib.hid ((Below.refl _ _).alloc (Nat.le_refl _) _)
          have HAP := Lib.hid (fun ty => (HST6.out.below HB6.out).app HFM.out HFP.out HC.out HPL.out (c := 1) (by rw [HCSS.out]; exact heap_alloc_new w6 (.cells #[.int .u32 css] 23)) ty)
          refine hK _ _ ?_
          clear hK K
          refine wpAny_ready (rs := [6]) (by kernel_rfl) (by simp) ?_
          refine AllReady.cons rfl (fun K hK => ?_) AllReady.nil
          go_simp
          refine hK _ _ ?_
          clear hK K
          refine wpAny_ready (rs := [7]) (by kernel_rfl) (by simp) ?_
          refine AllReady.cons rfl (fun K hK => ?_) AllReady.nil
          refine step_app rfl _ _ #[88, 88] rfl rfl rfl (HAP.out _) ?_
          rintro v8 w8 ⟨a8, l8, c8, rfl, hv2, hv3, hv4, hv5, HN8⟩
          refine hK _ _ ?_
          clear hK K
          refine wpAny_ready (rs := [8]) (by kernel_rfl) (by simp) ?_
          refine AllReady.cons rfl (fun K hK => ?_) AllReady.nil
          go_simp
          refine hK _ _ ?_
          clear hK K
          refine wpAny_done (by kernel_rfl) ?_ _
          go_wp2_with fail
          go_end0
          exact ⟨rfl, Lib.hid ⟨L ++ [f], _, HVS.out, by rw [HEQ.out.1, HEQ.out.2]; exact HN8.out⟩⟩
        · go_simp
          refine hK _ _ ?_
          clear hK K
          refine wpAny_ready (rs := [0, 5]) (by kernel_rfl) (by simp) ?_
          refine AllReady.cons rfl (fun K hK => ?_) (AllReady.cons rfl (fun K hK => ?_) AllReady.nil)
          · go_simp
            refine hK _ _ ?_
            clear hK K
            refine wpAny_ready (rs := [5]) (by kernel_rfl) (by simp) ?_
            refine AllReady.cons rfl (fun K hK => ?_) AllReady.nil
            go_simp
            refine (HGET.out _).mono ?_
            rintro e w6 ⟨rfl, hb6⟩
            have HST6 := Lib.hid (HSTD.out.below hb6.out)
            have y1 : w6.cell? ⟨w0.heap.size + 1, 0, none⟩ = some ovL := by rw [cell_of_row _ _ 0 _ _ _ HST6.out.k1]; rfl
            have hs6 : w0.heap.size + 1 < w6.heap.size := by have := HST6.out.size; omega
            have HB6 : Hid (Below w6.heap.size w6 (w6.alloc (.cells #[.int .u32 css] 23))) := Lib.hid ((Below.refl _ _).alloc (Nat.le_refl _) _)
            have HAP := Lib.hid (fun ty => (HST6.out.below HB6.out).app HFM.out HFP.out HC.out HPL.out (c := 1) (by rw [HCSS.out]; exact heap_alloc_new w6 (.cells #[.int .u32 css] 23)) ty)
            refine hK _ _ ?_
            clear hK K
            refine wpAny_ready (rs := [6]) (by kernel_rfl) (by simp) ?_
            refine AllReady.cons rfl (fun K hK => ?_) AllReady.nil
            go_simp
            refine hK _ _ ?_
            clear hK K
            refine wpAny_ready (rs := [7]) (by kernel_rfl) (by simp) ?_
            refine AllReady.cons rfl (fun K hK => ?_) AllReady.nil
            refine step_app rfl _ _ #[88, 88] rfl rfl rfl (HAP.out _) ?_
            rintro v8 w8 ⟨a8, l8, c8, rfl, hv2, hv3, hv4, hv5, HN8⟩
            refine hK _ _ ?_
            clear hK K
            refine wpAny_ready (rs := [8]) (by kernel_rfl) (by simp) ?_
            refine AllReady.cons rfl (fun K hK => ?_) AllReady.nil
            go_simp
            refine hK _ _ ?_
            clear hK K
            refine wpAny_done (by kernel_rfl) ?_ _
            go_wp2_with fail
            go_end0
            exact ⟨rfl, Lib.hid ⟨L ++ [f], _, HVS.out, by rw [HEQ.out.1, HEQ.out.2]; exact HN8.out⟩⟩
          · go_simp
            refine (HGET.out _).mono ?_
            rintro e w6 ⟨rfl, hb6⟩
            have HST6 := Lib.hid (HSTD.out.below hb6.out)
            have y1 : w6.cell? ⟨w0.heap.size + 1, 0, none⟩ = some ovL := by rw [cell_of_row _ _ 0 _ _ _ HST6.out.k1]; rfl
            have hs6 : w0.heap.size + 1 < w6.heap.size := by have := HST6.out.size; omega
            have HB6 : Hid (Below w6.heap.size w6 (w6.alloc (.cells #[.int .u32 css] 23))) := Lib.hid ((Below.refl _ _).alloc (Nat.le_refl _) _)
            have HAP := Lib.hid (fun ty => (HST6.out.below HB6.out).app HFM.out HFP.out HC.out HPL.out (c := 1) (by rw [HCSS.out]; exact heap_alloc_new w6 (.cells #[.int .u32 css] 23)) ty)
            refine hK _ _ ?_
            clear hK K
            refine wpAny_ready (rs := [0, 6]) (by kernel_rfl) (by simp) ?_
            refine AllReady.cons rfl (fun K hK => ?_) (AllReady.cons rfl (fun K hK => ?_) AllReady.nil)
            · go_simp
              refine hK _ _ ?_
              clear hK K
              refine wpAny_ready (rs := [6]) (by kernel_rfl) (by simp) ?_
              refine AllReady.cons rfl (fun K hK => ?_) AllReady.nil
              go_simp
              refine hK _ _ ?_
              clear hK K
              refine wpAny_ready (rs := [7]) (by kernel_rfl) (by simp) ?_
              refine AllReady.cons rfl (fun K hK => ?_) AllReady.nil
              refine step_app rfl _ _ #[88, 88] rfl rfl rfl (HAP.out _) ?_
              rintro v8 w8 ⟨a8, l8, c8, rfl, hv2, hv3, hv4, hv5, HN8⟩
              refine hK _ _ ?_
              clear hK K
              refine wpAny_ready (rs := [8]) (by kernel_rfl) (by simp) ?_
              refine AllReady.cons rfl (fun K hK => ?_) AllReady.nil
              go_simp
              refine hK _ _ ?_
              clear hK K
              refine wpAny_done (by kernel_rfl) ?_ _
              go_wp2_with fail
              go_end0
              exact ⟨rfl, Lib.hid ⟨L ++ [f], _, HVS.out, by rw [HEQ.out.1, HEQ.out.2]; exact HN8.out⟩⟩
            · go_simp
              refine hK _ _ ?_
              clear hK K
              refine wpAny_ready (rs := [0]) (by kernel_rfl) (by simp) ?_
              refine AllReady.cons rfl (fun K hK => ?_) AllReady.nil
              go_simp
              refine hK _ _ ?_
              clear hK K
              refine wpAny_ready (rs := [7]) (by kernel_rfl) (by simp) ?_
              refine AllReady.cons rfl (fun K hK => ?_) AllReady.nil
              refine step_app rfl _ _ #[88, 88] rfl rfl rfl (HAP.out _) ?_
              rintro v8 w8 ⟨a8, l8, c8, rfl, hv2, hv3, hv4, hv5, HN8⟩
              refine hK _ _ ?_
              clear hK K
              refine wpAny_ready (rs := [8]) (by kernel_rfl) (by simp) ?_
              refine AllReady.cons rfl (fun K hK => ?_) AllReady.nil
              go_simp
              refine hK _ _ ?_
              clear hK K
              refine wpAny_done (by kernel_rfl) ?_ _
              go_wp2_with fail
              go_end0
              exact ⟨rfl, Lib.hid ⟨L ++ [f], _, HVS.out, by rw [HEQ.out.1, HEQ.out.2]; exact HN8.out⟩⟩
theorem fl_u32 {v : Bool} {t : Int} (h : U32 t) : U32 (fl v t) := by
  unfold fl
  split
  · exact flip_u32 h
  · exact ⟨by omega, by omega⟩
set_option maxRecDepth 100000 in
set_option maxHeartbeats 40000000 in
theorem visit15 (w0 : World) (cb lb n : Nat) (F : Nat → FD) (hG : Gr w0 cb lb n F) (hfb : FB n F) (hfw : FW n F) (hvl : VL n F) :
    ∀ (m : Nat) (V P : List Nat) (ov : Value) (f : Nat) (w : World), n - V.length ≤ m → V.Nodup → (∀ x ∈ V, x < n) → f < n → St w0 cb F w V P ov →
      Calls Try.prog 15 #[.int .u32 (f : Int), .pointer (some ⟨w0.heap.size + 3, 0, none⟩), .pointer (some ⟨w0.heap.size, 0, none⟩), .pointer (some ⟨w0.heap.size + 4, 0, none⟩), .pointer (some ⟨w0.heap.size + 1, 0, none⟩)] w (Vp w0 cb n F V P f) := by
  intro m
  induction m with
  | zero =>
    intro V P ov f w hm hnd hvn hf hst
    have hfV : f ∈ V := Classical.byContradiction fun hn => by
      have h1 := nodup_len n (f :: V) (List.nodup_cons.2 ⟨hn, hnd⟩) (fun x hx => by
        rcases List.mem_cons.1 hx with rfl | hx
        · exact hf
        · exact hvn x hx)
      simp only [List.length_cons] at h1
      omega
    exact visit_old w0 cb n F V P ov f w (f32 hf hfb.1) hfV hst
  | succ m IH =>
    intro V P ov f w hm hnd hvn hf hst
    by_cases hfV : f ∈ V
    · exact visit_old w0 cb n F V P ov f w (f32 hf hfb.1) hfV hst
    · exact visit_new w0 cb lb n F hG hfb hfw hvl m V P ov f w hm hnd hvn hf hst hfV IH
end Go.Proofs.Ytfjjokophgkifaa.Aux
