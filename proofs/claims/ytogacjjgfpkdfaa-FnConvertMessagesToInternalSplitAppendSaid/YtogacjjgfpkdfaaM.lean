/- Contracts of functions that the law of this seat reaches, and plain facts; no condition. -/
import Derived.Test.YtogacjjgfpkdfaaProg
import Derived.WalkKit
import Derived.ProofKit
import Derived.OpenShut
import Derived.ShutString
import Derived.Test.YtogacjjgfpkdfaaAid
import Derived.Test.YtogacjjgfpkdfaaFl
import Derived.Test.YtogacjjgfpkdfaaStr
import Derived.Test.YtogacjjgfpkdfaaPb
import Derived.Test.YtogacjjgfpkdfaaQd
import Derived.Test.YtogacjjgfpkdfaaAm
import Derived.Test.YtogacjjgfpkdfaaMp
import Derived.Test.YtogacjjgfpkdfaaL
import Derived.Test.YtogacjjgfpkdfaaAid
import Derived.Maps.RangeRun
import Derived.Carry
import Derived.Laws.IdiomRangeMap
import Derived.ArgAppend
import Derived.Maps.Own
import Derived.WalkSmall
import Derived.WalkSpells
import Derived.Laws.Externs
import Derived.WalkLawsBesides
import Derived.LoopTactic
import Derived.Deep.CutBlock
import Derived.Deep.DeepCutAuto
import Derived.IntWalk
import Derived.Outline
import Derived.Deep.QuietTactic
import Derived.BigQuiet
import Derived.RegionTactic
import Derived.Deep.RegionHeld3
import Derived.Deep.MidRow
import Derived.StillTailTactics
import Derived.BigRegion
import Derived.Laws.OwnMore
import Derived.Laws.Rows
namespace Go.Proofs.Ytogacjjgfpkdfaa.Aux
open Go.ChangeShapes Go.WideShapes Go.ChangeAt Go.RowKit
open Go.ChangeMaps (open_string shut_string)
set_option linter.unusedVariables false
set_option linter.unusedSimpArgs false
open Fl Str Pb Qd Am Mp PlainAid Aux
open Go.ChangeMaps
/-- The block of an appended value: the old one, or a new one, and then nothing old changes. -/
theorem app_keep {P : Program} (w : World) {t ty e : TypeId} {i : TypeInfo} {z : Value} {size bytes base : Nat} (ht : P.underlying t = some (.slice e)) (hi : P.info? e = some i) (hz : i.zero = some z)
    (hsize : i.size = size) (hby : i.bytes = bytes) (hzs : z.cells.size = size) (hpos : 0 < size) {v : Value} {n : Nat} {xs : List Value} (hown : w.ownsRow base e size v n xs)
    (a : Addr) (m c : Nat) (news : List Value) (hl : news.length = m * size) (hnews : ∀ j u, news[j]? = some u → w.cell? (a.add j) = some u) (h1 : ∀ u ∈ news, u.oneCell' = true)
    (h63 : n + m ≤ maxLen) (hbytes : (n + m) * bytes ≤ 140737488355328) (hbase : base ≤ w.heap.size) :
    ∃ v' w', (Builtin.append_ #[t, t] ty #[v, .slice (some a) m c]).run P w = .ok v' w' ∧ w'.ownsRow base e size v' (n + m) (xs ++ news) ∧ w.grownBy w' v.ownBlock ∧ (v'.ownBlock = v.ownBlock ∨ (w.grownBy w' none ∧ ∀ k, v'.ownBlock = some k → w.heap.size ≤ k)) := by
  obtain ⟨v', w', hr, h2, h3, h4⟩ := Am.app_many (P := P) w (ty := ty) ht hi hz hsize hby hzs hpos hown a m c news hl hnews h1 h63 hbytes hbase
  refine ⟨v', w', hr, h2, h3, ?_⟩
  have ho := hown
  rcases hown.2 with ⟨rfl, hn⟩ | ⟨g, cap, cur, rfl, hbg, hg, hnc, hcm, hcs, htake⟩
  · rcases h4 with h4 | h4
    · exact .inl h4
    · exact .inr ⟨h3, h4⟩
  · by_cases hroom : n + m ≤ cap
    · left
      have hfit : n * i.size + news.length ≤ cur.size := by
        rw [hsize, hl, hcs, ← Nat.add_mul]
        exact Nat.mul_le_mul_right _ hroom
      have hr2 := run_append_room (P := P) w t ty e i ht hi g n cap cur hg a m c news (by rw [hsize]; exact hl) hnews h1 hroom hfit
      rw [hr2] at hr
      injection hr with e1 e2
      subst e1
      rfl
    · right
      have hr2 := run_append_grow (P := P) w t ty e i z ht hi hz ⟨g, 0, none⟩ n cap xs (by rw [hsize]; exact ho.1) (ho.cells (g := g) rfl) a m c news (by rw [hsize]; exact hl) hnews (by omega) (by simp only [maxLen] at h63; omega) (growslice_fits (by omega) (by rw [hby]; exact hbytes))
      rw [hr2] at hr
      injection hr with e1 e2
      subst e1 e2
      refine ⟨⟨rfl, rfl, rfl, by simp, fun k hk _ => ?_⟩, fun k hk => ?_⟩
      · exact Below.heap_alloc w.drew _ k hk
      · simp [Value.ownBlock] at hk
        omega
def ncell (d : NoteD) (p : Option Addr) : List Value := [.nilIface, .pointer p, .string d.text, .bool false]
def icell (m : MD) (nv : Value) (p : Option Addr) (kind : Int) : List Value := [nv, .string m.plug, .nilIface, .pointer p, .string m.text, .bool false, .int .u8 kind, .int .u8 (mx m.id : Nat)]
def Seg (xs : List Value) (o : Nat) (cs : List Value) : Prop := ∀ j v, cs[j]? = some v → xs[o + j]? = some v
theorem seg_left {xs ys cs : List Value} {o : Nat} (h : Seg xs o cs) : Seg (xs ++ ys) o cs := fun j v hj => by
  have h1 := h j v hj
  rw [List.getElem?_append_left ((List.getElem?_eq_some_iff.1 h1).1)]
  exact h1
theorem seg_end {xs cs : List Value} {o : Nat} (h : xs.length = o) : Seg (xs ++ cs) o cs := fun j v hj => by
  rw [List.getElem?_append_right (by omega), show o + j - xs.length = j by omega]
  exact hj
/-- Blocks of type t alone. -/
def Sep (S : Nat → Prop) (w : World) (t : TypeId) : Prop := ∀ k, S k → ∃ cur, w.heap[k]? = some (.cells cur t (0, 0))
theorem sep_own {w : World} {base size n : Nat} {e : TypeId} {v : Value} {xs : List Value} (h : w.ownsRow base e size v n xs) : Sep (fun k => v.ownBlock = some k) w e := by
  intro k hk
  rcases h.2 with ⟨rfl, _⟩ | ⟨g, cap, cur, rfl, _, hg, _⟩
  · cases hk
  · simp [Value.ownBlock] at hk
    subst hk
    exact ⟨_, hg⟩
theorem sep_block {S : Nat → Prop} {w w' : World} {t t2 : TypeId} {b : Nat} {cur : Array Value} (hc : Chg S w w') (hs : Sep S w t) (hb : w.heap[b]? = some (.cells cur t2 (0, 0))) (ht : t2 ≠ t) : w'.heap[b]? = w.heap[b]? := by
  refine hc.block b (Classical.byContradiction fun hn => by rw [Array.getElem?_eq_none (by omega)] at hb; cases hb) fun h => ?_
  obtain ⟨_, q⟩ := hs b h
  rw [hb] at q
  injection q with q
  injection q with _ q
  exact ht q
theorem at_heap {w w' : World} {b o : Nat} {cs : List Value} (h : At w b o cs) (hb : w'.heap[b]? = w.heap[b]?) : At w' b o cs := fun j v hj => (World.cell?_of_block (a := ⟨b, o + j, none⟩) hb).trans (h j v hj)
theorem blk_chg {S : Nat → Prop} {w w' : World} {t t2 : TypeId} {b n : Nat} (hc : Chg S w w') (hs : Sep S w t) (hb : Blk w b t2 n) (ht : t2 ≠ t) : Blk w' b t2 n ∧ w'.heap[b]? = w.heap[b]? := by
  obtain ⟨cur, h1, h2⟩ := hb
  have := sep_block hc hs h1 ht
  exact ⟨⟨cur, this.trans h1, h2⟩, this⟩
theorem iloc_chg {S : Nat → Prop} {w w' : World} {t : TypeId} {v : Value} {o : Option LocD} (hc : Chg S w w') (hs : Sep S w t) (h : ILoc w v o) (ht : 61 ≠ t) : ILoc w' v o := by
  cases o with
  | none => exact h
  | some d =>
    obtain ⟨b, h1, h2, h3⟩ := h
    exact ⟨b, Nat.lt_of_lt_of_le h1 hc.size, h2, (sep_block hc hs h3 ht).trans h3⟩
theorem aloc_chg {S : Nat → Prop} {w w' : World} {t : TypeId} {v : Value} {o : Option LocD} (hc : Chg S w w') (hs : Sep S w t) (h : ALoc w v o) (ht : 57 ≠ t) : ALoc w' v o := by
  cases o with
  | none => exact h
  | some d =>
    obtain ⟨b, h1, h2, h3⟩ := h
    exact ⟨b, Nat.lt_of_lt_of_le h1 hc.size, h2, (sep_block hc hs h3 ht).trans h3⟩
theorem amsgs_chg {S : Nat → Prop} {w w' : World} {t : TypeId} {b n : Nat} {M : Nat → MD} (hc : Chg S w w') (hs : Sep S w t) (h : AMsgs w b n M) (h1 : 57 ≠ t) (h2 : 50 ≠ t) (h3 : 52 ≠ t) : AMsgs w' b n M := by
  obtain ⟨q1, q2⟩ := blk_chg hc hs h.1 h3
  refine ⟨q1, fun i hi => ?_⟩
  obtain ⟨p, na, nc, a1, a2, a3⟩ := h.2 i hi
  refine ⟨p, na, nc, at_heap a1 q2, aloc_chg hc hs a2 h1, ?_⟩
  rcases a3 with a3 | ⟨c, e, b1, b2⟩
  · exact .inl a3
  · obtain ⟨r1, r2⟩ := blk_chg hc hs b1 h2
    refine .inr ⟨c, e, r1, fun k hk => ?_⟩
    obtain ⟨p', z1, z2⟩ := b2 k hk
    exact ⟨p', at_heap z1 r2, aloc_chg hc hs z2 h1⟩
/-- Notes of the internal kind. -/
def INotes (w : World) (nv : Value) (n : Nat) (nd : Nat → NoteD) : Prop :=
  (nv = .slice none 0 0 ∧ n = 0) ∨ ∃ b cap cur, 0 < n ∧ nv = .slice (some ⟨b, 0, none⟩) n cap ∧ w.heap[b]? = some (.cells cur 35 (0, 0)) ∧ ∀ i, i < n → ∃ p, At w b (i * 4) (ncell (nd i) p) ∧ ILoc w (.pointer p) (nd i).loc.opt
theorem inotes_chg {S : Nat → Prop} {w w' : World} {t : TypeId} {v : Value} {n : Nat} {nd : Nat → NoteD} (hc : Chg S w w') (hs : Sep S w t) (h : INotes w v n nd) (h1 : 61 ≠ t) (h2 : 35 ≠ t) : INotes w' v n nd := by
  rcases h with h | ⟨b, cap, cur, q1, q2, q3, q4⟩
  · exact .inl h
  · have hb := sep_block hc hs q3 h2
    refine .inr ⟨b, cap, cur, q1, q2, hb.trans q3, fun i hi => ?_⟩
    obtain ⟨p, z1, z2⟩ := q4 i hi
    exact ⟨p, at_heap z1 hb, iloc_chg hc hs z2 h1⟩
theorem chg_none {w w' : World} (h : Below w.heap.size w w') : Chg (fun _ => False) w w' := Chg.of_below h (fun i h1 h2 => by omega)
theorem sep_none {w : World} {t : TypeId} : Sep (fun _ => False) w t := fun _ h => h.elim
theorem inotes_below {w w' : World} {v : Value} {n : Nat} {nd : Nat → NoteD} (h : INotes w v n nd) (hb : Below w.heap.size w w') : INotes w' v n nd := inotes_chg (chg_none hb) (sep_none (t := 0)) h (by decide) (by decide)
theorem owns_below {w w' : World} {base size n : Nat} {e : TypeId} {v : Value} {xs : List Value} (h : w.ownsRow base e size v n xs) (hb : Below w.heap.size w w') : w'.ownsRow base e size v n xs := (chg_none hb).owns h (fun _ _ h => h)
theorem ncell_one (d : NoteD) (p : Option Addr) : ∀ u ∈ ncell d p, u.oneCell' = true := by
  intro u hu
  simp [ncell] at hu
  rcases hu with rfl | rfl | rfl | rfl <;> rfl
/-- While a message's notes are converted. -/
structure IN (w1 : World) (nd : Nat → NoteD) (j : Nat) (w : World) (v : Value) (xs : List Value) : Prop where
  bl : Below w1.heap.size w1 w
  own : w.ownsRow w1.heap.size 35 4 v j xs
  nz : j = 0 → v = .slice none 0 0
  row : ∀ i, i < j → ∃ p, Seg xs (i * 4) (ncell (nd i) p) ∧ ILoc w (.pointer p) (nd i).loc.opt
theorem IN.below {w1 w w' : World} {nd : Nat → NoteD} {j : Nat} {v : Value} {xs : List Value} (h : IN w1 nd j w v xs) (hb : Below w.heap.size w w') : IN w1 nd j w' v xs := by
  refine ⟨h.bl.trans (hb.mono h.bl.size), owns_below h.own hb, h.nz, fun i hi => ?_⟩
  obtain ⟨p, q1, q2⟩ := h.row i hi
  exact ⟨p, q1, q2.below hb⟩
theorem dataInfo : ∃ i, Try.prog.info? 35 = some i ∧ i.zero = some (.agg #[.nilIface, .pointer none, .string ⟨#[]⟩, .bool false]) ∧ i.size = 4 ∧ i.bytes = 48 := by
  have h : (Try.prog.info? 35).map (fun i => (i.zero, i.size, i.bytes)) = some (some (.agg #[.nilIface, .pointer none, .string ⟨#[]⟩, .bool false]), 4, 48) := by kernel_rfl
  exact info_parts h
theorem msgInfo : ∃ i, Try.prog.info? 37 = some i ∧ i.zero = some (.agg #[.slice none 0 0, .string ⟨#[]⟩, .nilIface, .pointer none, .string ⟨#[]⟩, .bool false, .int .u8 0, .int .u8 0]) ∧ i.size = 8 ∧ i.bytes = 96 := by
  have h : (Try.prog.info? 37).map (fun i => (i.zero, i.size, i.bytes)) = some (some (.agg #[.slice none 0 0, .string ⟨#[]⟩, .nilIface, .pointer none, .string ⟨#[]⟩, .bool false, .int .u8 0, .int .u8 0]), 8, 96) := by kernel_rfl
  exact info_parts h
theorem cells_at {w : World} {sb : Nat} {cs : List Value} {t : TypeId} (hs : w.heap[sb]? = some (.cells cs.toArray t (0, 0))) : ∀ j u, cs[j]? = some u → w.cell? ((⟨sb, 0, none⟩ : Addr).add j) = some u := by
  intro j u hj
  have e : (⟨sb, 0, none⟩ : Addr).add j = ⟨sb, j, none⟩ := by unfold Addr.add; simp; try omega
  rw [e, cell_of_row w sb j _ _ _ hs]
  simpa using hj
theorem own_slice {w : World} {base size n : Nat} {e : TypeId} {v : Value} {xs : List Value} (h : w.ownsRow base e size v n xs) : ∃ a c, v = .slice a n c := by
  rcases h.2 with ⟨rfl, rfl⟩ | ⟨g, cap, cur, rfl, _⟩
  · exact ⟨_, _, rfl⟩
  · exact ⟨_, _, rfl⟩
theorem own_len {w : World} {base size n : Nat} {e : TypeId} {v : Value} {xs : List Value} (h : w.ownsRow base e size v n xs) : xs.length = n * size := h.1
theorem IN.app {w1 w : World} {nd : Nat → NoteD} {j : Nat} {v : Value} {xs : List Value} (h : IN w1 nd j w v xs) {p : Option Addr} (hp : ILoc w (.pointer p) (nd j).loc.opt) {sb c : Nat} (hs : w.heap[sb]? = some (.cells (ncell (nd j) p).toArray 35 (0, 0))) (hj : j ≤ 1048576) (ty : TypeId) :
    ∃ v' w', (Builtin.append_ #[32, 32] ty #[v, .slice (some ⟨sb, 0, none⟩) 1 c]).run Try.prog w = .ok v' w' ∧ (∃ a' c', v' = .slice a' (j + 1) c' ∧ Hid (Chg (fun k => v.ownBlock = some k) w w') ∧ Hid (∃ xs', IN w1 nd (j + 1) w' v' xs')) := by
  obtain ⟨i, hi, hz, hsz, hb⟩ := dataInfo
  obtain ⟨v', w', hr, ho, hg, _⟩ := app_keep (P := Try.prog) w (ty := ty) Try.underlying32 hi hz hsz hb rfl (by omega) h.own ⟨sb, 0, none⟩ 1 c (ncell (nd j) p) rfl (cells_at hs) (ncell_one _ _) (by unfold maxLen; omega) (by omega) h.bl.size
  have hc : Chg (fun k => v.ownBlock = some k) w w' := Chg.of_grown hg
  have hsep := sep_own h.own
  obtain ⟨a', c', e⟩ := own_slice ho
  refine ⟨v', w', hr, a', c', e, Lib.hid hc, Lib.hid ⟨_, ⟨h.bl.trans (hc.below h.bl.size (fun k e => (h.own.lt k e).1)), ho, fun e => by omega, fun k hk => ?_⟩⟩⟩
  by_cases e : k = j
  · subst e
    exact ⟨p, seg_end (own_len h.own), iloc_chg hc hsep hp (by decide)⟩
  · obtain ⟨p', q1, q2⟩ := h.row k (by omega)
    exact ⟨p', seg_left q1, iloc_chg hc hsep q2 (by decide)⟩
theorem own_at {w : World} {base size n g c : Nat} {e : TypeId} {xs : List Value} (h : w.ownsRow base e size (.slice (some ⟨g, 0, none⟩) n c) n xs) {o : Nat} {cs : List Value} (hs : Seg xs o cs) : At w g o cs := fun j v hj => by
  have := h.cells (g := g) rfl (o + j) v (hs j v hj)
  have e : (⟨g, 0, none⟩ : Addr).add (o + j) = ⟨g, o + j, none⟩ := by unfold Addr.add; simp; try omega
  rwa [e] at this
theorem IN.fin {w1 w : World} {nd : Nat → NoteD} {n : Nat} {v : Value} {xs : List Value} (h : IN w1 nd n w v xs) : INotes w v n nd := by
  rcases Nat.eq_zero_or_pos n with h0 | hpos
  · exact .inl ⟨h.nz h0, h0⟩
  · rcases id h.own.2 with ⟨_, e⟩ | ⟨g, cap, cur, e, _, hg, _⟩
    · omega
    · have ho := h.own
      rw [e] at ho
      refine .inr ⟨g, cap, cur, hpos, e, hg, fun i hi => ?_⟩
      obtain ⟨p, q1, q2⟩ := h.row i hi
      exact ⟨p, own_at ho q1, q2⟩
theorem step_app {P : Program} {ops : Array Oper} {o : Oper} {a : Act} {w : World} {K : Act → World → Prop} {Q : Exit → Act → World → Prop} {F : Prop} (hg : o.guard = none) (s x : Operand) (ts : Array TypeId)
    (ho : o.op = .call { callee := .builtin .append, args := #[s, x], argTypes := ts }) {v sv : Value} (hs : a.eval s = v) (hx : a.eval x = sv) {R : Value → World → Prop}
    (hr : ∃ v' w', (Builtin.append_ ts o.type #[v, sv]).run P w = .ok v' w' ∧ R v' w') (h : ∀ v' w', R v' w' → K (a.put o.dst v') w') :
    if Region.wanted o (yielded ops a.tmps) = true then Oper.wp P o a w K Q else F := by
  have hw : Region.wanted o (yielded ops a.tmps) = true := by simp [Region.wanted, hg]
  rw [if_pos hw]
  obtain ⟨v', w', hr, hR⟩ := hr
  unfold Oper.wp execOp
  simp only [ho, resolve, invoke, builtin, Sem.run_bind, Sem.run_pure, Result.andThen_ok, List.map_toArray, List.map_cons, List.map_nil, hs, hx, hr]
  exact h v' w' hR
theorem cell_al {w : World} {o : Obj} {a : Addr} {v : Value} (h : w.cell? a = some v) : (w.alloc o).cell? a = some v := by
  have := World.block_lt_of_cell? w a h
  rw [World.cell?_of_block (Below.heap_alloc w o a.block this)]
  exact h
theorem own_ne {w : World} {base size n : Nat} {e : TypeId} {v : Value} {xs : List Value} (h : w.ownsRow base e size v n xs) {b : Nat} (hb : w.heap.size ≤ b) : ¬ v.ownBlock = some b := fun e => by have := (h.lt b e).2; omega
def PK (w : World) (v0 : Value) (xs0 : List Value) : Prop := ∀ g, v0.ownBlock = some g → ∀ j u, xs0[j]? = some u → w.cell? ⟨g, j, none⟩ = some u
/-- A message of the internal kind among the cells. -/
def IRow (w : World) (ys : List Value) (k : Nat) (m : MD) (kind : Int) : Prop := ∃ p nv, Seg ys (k * 8) (icell m nv p kind) ∧ ILoc w (.pointer p) m.loc.opt ∧ INotes w nv m.nl m.nd
/-- While the messages are converted. -/
structure KO (w : World) (B : Nat) (v0 : Value) (m : Nat) (xs0 : List Value) (M : Nat → MD) (kind : Int) (i : Nat) (wr : World) (v : Value) (ys : List Value) : Prop where
  ch : Chg (fun k => v0.ownBlock = some k) w wr
  own : wr.ownsRow B 37 8 v (m + i) (xs0 ++ ys)
  fr : v.ownBlock = v0.ownBlock ∨ ∀ k, v.ownBlock = some k → w.heap.size ≤ k
  len : ys.length = i * 8
  row : ∀ k, k < i → IRow wr ys k (M k) kind
  pk : PK wr v0 xs0
theorem pk_below {w w' : World} {v0 : Value} {xs0 : List Value} (h : PK w v0 xs0) (hb : Below w.heap.size w w') : PK w' v0 xs0 := fun g hg j u hj => by
  have h1 := h g hg j u hj
  exact (hb.cell (p := ⟨g, j, none⟩) (World.block_lt_of_cell? w ⟨g, j, none⟩ h1)).trans h1
theorem irow_below {w w' : World} {ys : List Value} {k : Nat} {m : MD} {kind : Int} (h : IRow w ys k m kind) (hb : Below w.heap.size w w') : IRow w' ys k m kind := by
  obtain ⟨p, nv, a1, a2, a3⟩ := h
  exact ⟨p, nv, a1, a2.below hb, inotes_below a3 hb⟩
theorem KO.below {w wr w' : World} {B : Nat} {v0 : Value} {m : Nat} {xs0 : List Value} {M : Nat → MD} {kind : Int} {i : Nat} {v : Value} {ys : List Value} (h : KO w B v0 m xs0 M kind i wr v ys) (hb : Below wr.heap.size wr w') : KO w B v0 m xs0 M kind i w' v ys :=
  ⟨h.ch.transN (chg_none hb) (fun _ _ h => h.elim), owns_below h.own hb, h.fr, h.len, fun k hk => irow_below (h.row k hk) hb, pk_below h.pk hb⟩
theorem icell_one (m : MD) (na : Option Addr) (nc : Nat) (p : Option Addr) (kind : Int) : ∀ u ∈ icell m (.slice na m.nl nc) p kind, u.oneCell' = true := by
  intro u hu
  simp [icell] at hu
  rcases hu with rfl | rfl | rfl | rfl | rfl | rfl | rfl | rfl <;> rfl
theorem KO.app {w wr : World} {B : Nat} {v0 : Value} {m : Nat} {xs0 : List Value} {M : Nat → MD} {kind : Int} {i : Nat} {v : Value} {ys : List Value} (h : KO w B v0 m xs0 M kind i wr v ys) (hB : B ≤ w.heap.size) (hm : m ≤ 1048576) (hi20 : i ≤ 1048576) (hl0 : xs0.length = m * 8) {p : Option Addr} {na : Option Addr} {nc : Nat} (hp : ILoc wr (.pointer p) (M i).loc.opt) (hN : INotes wr (.slice na (M i).nl nc) (M i).nl (M i).nd)
    {sb c : Nat} (hs : wr.heap[sb]? = some (.cells (icell (M i) (.slice na (M i).nl nc) p kind).toArray 37 (0, 0))) (ty : TypeId) :
    ∃ v' w', (Builtin.append_ #[27, 27] ty #[v, .slice (some ⟨sb, 0, none⟩) 1 c]).run Try.prog wr = .ok v' w' ∧ (∃ a' c', v' = .slice a' (m + (i + 1)) c' ∧ Hid (Chg (fun k => v.ownBlock = some k) wr w') ∧ Hid (∃ ys', KO w B v0 m xs0 M kind (i + 1) w' v' ys')) := by
  obtain ⟨ti, hi, hz, hsz, hb⟩ := msgInfo
  obtain ⟨v', w', hr, ho, hg, hsame⟩ := app_keep (P := Try.prog) wr (ty := ty) Try.underlying27 hi hz hsz hb rfl (by omega) h.own ⟨sb, 0, none⟩ 1 c _ rfl (cells_at hs) (icell_one _ _ _ _ _) (by unfold maxLen; omega) (by omega) (Nat.le_trans hB h.ch.size)
  have hc : Chg (fun k => v.ownBlock = some k) wr w' := Chg.of_grown hg
  have hsep := sep_own h.own
  obtain ⟨a', c', e⟩ := own_slice ho
  have hlen : (xs0 ++ ys).length = (m + i) * 8 := own_len h.own
  refine ⟨v', w', hr, a', c', e, Lib.hid hc, Lib.hid ⟨ys ++ icell (M i) (.slice na (M i).nl nc) p kind, ⟨?_, ?_, ?_, ?_, ?_, ?_⟩⟩⟩
  · refine h.ch.transN hc (fun k hk e => ?_)
    rcases h.fr with f | f
    · rw [← f]; exact e
    · have := f k e; omega
  · rw [← List.append_assoc]; exact ho
  · rcases hsame with f | ⟨_, f⟩
    · rw [f]; exact h.fr
    · exact .inr fun k hk => Nat.le_trans h.ch.size (f k hk)
  · rw [List.length_append, h.len]; simp [icell]; omega
  · intro k hk
    by_cases e : k = i
    · subst e
      exact ⟨p, _, seg_end h.len, iloc_chg hc hsep hp (by decide), inotes_chg hc hsep hN (by decide) (by decide)⟩
    · obtain ⟨p', nv', q1, q2, q3⟩ := h.row k (by omega)
      exact ⟨p', nv', seg_left q1, iloc_chg hc hsep q2 (by decide), inotes_chg hc hsep q3 (by decide) (by decide)⟩
  · intro g hg0 j u hj
    have h1 := h.pk g hg0 j u hj
    have hjl : j < m * 8 := by have := (List.getElem?_eq_some_iff.1 hj).1; omega
    have hgl := World.block_lt_of_cell? wr ⟨g, j, none⟩ h1
    by_cases hv : v.ownBlock = some g
    · rcases hsame with f | ⟨f, _⟩
      · rw [hv] at f
        rcases id ho.2 with ⟨e0, _⟩ | ⟨g', cap, cur, e0, _⟩
        · rw [e0] at f; cases f
        · rw [e0] at f
          simp [Value.ownBlock] at f
          subst f
          have ho2 := ho
          rw [e0] at ho2
          have h2 := ho2.cells (g := g') rfl j u (by
            rw [List.append_assoc, List.getElem?_append_left (by omega)]
            exact hj)
          have e : (⟨g', 0, none⟩ : Addr).add j = ⟨g', j, none⟩ := by unfold Addr.add; simp; try omega
          rwa [e] at h2
      · exact (World.cell?_of_block (a := ⟨g, j, none⟩) (f.block g hgl (by simp))).trans h1
    · exact hc.cell h1 hv
theorem KO.app2 {w wr : World} {B : Nat} {v0 : Value} {m : Nat} {xs0 : List Value} {M : Nat → MD} {kind : Int} {i : Nat} {v : Value} {ys : List Value} (h : KO w B v0 m xs0 M kind i wr v ys) {mm : MD} (hmm : M i = mm) (hB : B ≤ w.heap.size) (hm : m ≤ 1048576) (hi20 : i ≤ 1048576) (hl0 : xs0.length = m * 8) {p : Option Addr} {na : Option Addr} {nc : Nat} (hp : ILoc wr (.pointer p) mm.loc.opt) (hN : INotes wr (.slice na mm.nl nc) mm.nl mm.nd)
    {sb c : Nat} (hs : wr.heap[sb]? = some (.cells (icell mm (.slice na mm.nl nc) p kind).toArray 37 (0, 0))) (ty : TypeId) :
    ∃ v' w', (Builtin.append_ #[27, 27] ty #[v, .slice (some ⟨sb, 0, none⟩) 1 c]).run Try.prog wr = .ok v' w' ∧ (∃ a' c', v' = .slice a' (m + (i + 1)) c' ∧ Hid (Chg (fun k => v.ownBlock = some k) wr w') ∧ Hid (∃ ys', KO w B v0 m xs0 M kind (i + 1) w' v' ys')) := by
  subst hmm
  exact h.app hB hm hi20 hl0 hp hN hs ty
theorem iloc_ptr {w : World} {v : Value} {o : Option LocD} (h : ILoc w v o) : ∃ p, v = .pointer p := by
  cases o with
  | none => exact ⟨_, h⟩
  | some d => obtain ⟨b, _, e, _⟩ := h; exact ⟨_, e⟩
def CV (w : World) (B : Nat) (v0 : Value) (m : Nat) (xs0 : List Value) (M : Nat → MD) (n : Nat) (kind : Int) (e : Ending) (w' : World) : Prop :=
  ∃ a' c', e = .returned (.slice a' (m + n) c') ∧ Hid (∃ ys, KO w B v0 m xs0 M kind n w' (.slice a' (m + n) c') ys)
end Go.Proofs.Ytogacjjgfpkdfaa.Aux
