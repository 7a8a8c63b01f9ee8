/- Contracts of functions that the law of this seat reaches, and plain facts; no condition. -/
import Derived.Test.YtfjjokophgkifaaProg
import Derived.WalkKit
import Derived.ProofKit
import Derived.OpenShut
import Derived.ShutString
import Derived.Test.YtfjjokophgkifaaAid
import Derived.Test.YtfjjokophgkifaaFl
import Derived.Test.YtfjjokophgkifaaStr
import Derived.Test.YtfjjokophgkifaaPb
import Derived.Test.YtfjjokophgkifaaQd
import Derived.Test.YtfjjokophgkifaaAm
import Derived.Test.YtfjjokophgkifaaMp
import Derived.Test.YtfjjokophgkifaaC
import Derived.Test.YtfjjokophgkifaaAid
import Derived.Maps.RangeRun
import Derived.Carry
import Derived.Laws.IdiomRangeMap
import Derived.ArgAppend
import Derived.Maps.Own
import Derived.WalkSmall
import Derived.WalkSpells
import Derived.Laws.Externs
import Derived.WalkLawsBesides
import Derived.LoopTactic
import Derived.Deep.CutBlock
import Derived.Deep.DeepCutAuto
import Derived.IntWalk
import Derived.Outline
import Derived.Deep.QuietTactic
import Derived.BigQuiet
import Derived.RegionTactic
import Derived.Deep.RegionHeld3
import Derived.Deep.MidRow
import Derived.StillTailTactics
import Derived.BigRegion
import Derived.Laws.OwnMore
import Derived.Laws.Rows
namespace Go.Proofs.Ytfjjokophgkifaa.Aux
open Go.ChangeShapes Go.WideShapes Go.ChangeAt Go.RowKit
open Go.ChangeMaps (open_string shut_string)
set_option linter.unusedVariables false
set_option linter.unusedSimpArgs false
open Fl Str Pb Qd Am Mp PlainAid Aux
open Go.ChangeMaps
/-- The flipped bits: flip x = the other number. -/
def flip (x : Int) : Int := 4294967295 - x
def fl (v : Bool) (t : Int) : Int := if v then flip t else 0
theorem flip_bits (a : Int) (h : 0 ≤ a ∧ a ≤ 4294967295) : bits .xor .u32 IntKind.u32.max a = 4294967295 - a := by
  obtain ⟨n, rfl⟩ := Int.eq_ofNat_of_zero_le h.1
  have e := u32_xor_nat 4294967295 n (by omega) (by omega)
  rw [IntKind.max_u32]
  rw [show ((4294967295 : Nat) : Int) = 4294967295 from rfl] at e
  rw [e]
  have h2 : 4294967295 ^^^ n = 4294967295 - n := by
    have e1 : (BitVec.allOnes 32 ^^^ BitVec.ofNat 32 n).toNat = (~~~ BitVec.ofNat 32 n).toNat := by rw [BitVec.allOnes_xor]
    rw [BitVec.toNat_xor, BitVec.toNat_not, BitVec.toNat_allOnes, BitVec.toNat_ofNat, Nat.mod_eq_of_lt (by omega)] at e1
    exact e1
  rw [h2]; omega

theorem flip_u32 {x : Int} (h : U32 x) : U32 (flip x) := by unfold U32 flip at *; omega
theorem flip_flip (x : Int) : flip (flip x) = x := by unfold flip; omega
def FL (v : Value) (w : World) (e : Ending) (w' : World) : Prop := e = .returned v ∧ Hid (Below w.heap.size w w')
theorem make12 (x : Int) (hx : U32 x) (w : World) : Calls Try.prog 12 #[.int .u32 x] w (FL (.agg #[.int .u32 (flip x)]) w) := by
  have e := flip_bits x hx
  have e2 : flip x = 4294967295 - x := rfl
  go_enter Try.func12, Try.ntmps12
  go_wp2_with fail
  exact bodyPost_ret (v := .agg #[.int .u32 (flip x)]) (by rw [e2, ← e]; simp [results, Try.results12, go_sem]) rfl ⟨rfl, Lib.hid ((Below.refl _ _).alloc (Nat.le_refl _) _)⟩
theorem val16 (x : Int) (w : World) : Calls Try.prog 16 #[.agg #[.int .u32 x]] w (FL (.bool (!(x == 0))) w) := by
  go_enter Try.func16, Try.ntmps16
  go_wp2_with fail
  go_ret
  exact ⟨rfl, Lib.hid ((Below.refl _ _).alloc (Nat.le_refl _) _)⟩
theorem get17 (x : Int) (hx : U32 x) (w : World) : Calls Try.prog 17 #[.agg #[.int .u32 x]] w (FL (.int .u32 (flip x)) w) := by
  have e := flip_bits x hx
  have e2 : flip x = 4294967295 - x := rfl
  have hs : IntKind.u32.signed = false := rfl
  go_enter Try.func17, Try.ntmps17
  go_wp2_with fail
  all_goals (first | (rename_i h; cases h; done) | skip)
  go_ret
  exact ⟨by rw [e2, ← e]; rfl, Lib.hid ((Below.refl _ _).alloc (Nat.le_refl _) _)⟩
theorem infoL : (Try.prog.info? 201).map (fun i => match i.zero with | some (.agg cs) => (cs.size, cs.all (·.oneCell')) | _ => (0, false)) = some (24, true) := by kernel_rfl
theorem sizeL : (Try.prog.info? 201).map (·.size) = some 24 := by kernel_rfl
theorem zero_of {P : Program} {t : TypeId} {n : Nat} (h : (P.info? t).map (fun i => match i.zero with | some (.agg cs) => (cs.size, cs.all (·.oneCell')) | _ => (0, false)) = some (n, true)) : ∃ Z : Array Value, (∀ w : World, (zeroValue t).run P w = .ok (.agg Z) w) ∧ Z.size = n ∧ Z.all (·.oneCell') = true := by
  cases hi : P.info? t with
  | none => rw [hi] at h; cases h
  | some i =>
    rw [hi] at h
    simp only [Option.map_some, Option.some.injEq] at h
    split at h
    · rename_i cs hz
      simp only [Prod.mk.injEq] at h
      exact ⟨cs, fun w => by simp [zeroValue, typeInfo, hi, hz], h.1, h.2⟩
    · simp at h
theorem new2 (w : World) (o1 o2 : Obj) : ((w.alloc o1).alloc o2).heap[w.heap.size + 1]? = some o2 := by
  have := heap_alloc_new (w.alloc o1) o2
  simpa using this
theorem old2 (w : World) (o1 o2 : Obj) : ((w.alloc o1).alloc o2).heap[w.heap.size]? = some o1 := by
  rw [Below.heap_alloc _ _ _ (by simp)]
  exact heap_alloc_new _ _
def Fl13 (x : Value) (w : World) (e : Ending) (w' : World) : Prop := ∃ V : Array Value, e = .returned (.agg V) ∧ Hid (V.size = 24 ∧ V[2]? = some (.iface 152 x) ∧ V.all (·.oneCell') = true) ∧ Hid (Below w.heap.size w w')
set_option maxRecDepth 100000 in
set_option maxHeartbeats 4000000 in
theorem file13 (x : Option Addr) (w : World) : Calls Try.prog 13 #[.pointer x] w (Fl13 (.pointer x) w) := by
  obtain ⟨Z, hz, hsz, hone⟩ := zero_of infoL
  go_enter Try.func13, Try.ntmps13
  have hk : (Z.setIfInBounds 2 (.iface 152 (.pointer x))).size = 24 := by simp [hsz]
  have h2 : (Z.setIfInBounds 2 (.iface 152 (.pointer x)))[2]? = some (.iface 152 (.pointer x)) := by rw [Array.getElem?_setIfInBounds, if_pos rfl, if_pos (by omega)]
  have h1 : (Z.setIfInBounds 2 (.iface 152 (.pointer x))).all (·.oneCell') = true := by
    rw [Array.all_eq_true_iff_forall_mem] at hone ⊢
    intro v hv
    rcases Array.mem_or_eq_of_mem_setIfInBounds hv with h | h
    · exact hone v h
    · rw [h]; rfl
  have hsl := sizeL
  go_wp2_with (first
    | (refine wpList_load_row (o := ⟨some 8, _, _, _, _, _⟩) rfl 201 (.tmp 3) rfl (w.heap.size + 1) rfl 201 (Z.setIfInBounds 2 (.iface 152 (.pointer x))) (0, 0) _ (new2 _ _ _) Try.underlying201 rfl (by rw [hk]; exact sizeL) ?_)
    | (refine wpList_store_row (o := ⟨none, _, _, _, _, _⟩) rfl 201 (.tmp 2) (.tmp 8) rfl w.heap.size (Z.setIfInBounds 2 (.iface 152 (.pointer x))) rfl rfl 201 Z (old2 _ _ _) (by rw [hk]; exact sizeL) (by rw [hk, hsz]) h1 ?_))
  refine bodyPost_ret (v := .agg (Z.setIfInBounds 2 (.iface 152 (.pointer x)))) ?_ rfl ⟨_, rfl, Lib.hid ⟨hk, h2, h1⟩, Lib.hid ?_⟩
  · exact results_cell_row (p := 2) (ty := 201) Try.results13 _ _ w.heap.size 201 _ (0, 0) _ rfl (setRow_heap _ _ _ _ _ _ (old2 _ _ _)) Try.underlying201 rfl (by rw [hk]; exact sizeL)
  · have hb : Below w.heap.size w ((w.alloc (.cells Z 201)).alloc (.cells (Z.setIfInBounds 2 (.iface 152 (.pointer x))) 201)) := ((Below.refl _ _).alloc (Nat.le_refl _) _).alloc (by simp) _
    exact ⟨hb.os, hb.tape, hb.output, by simpa using hb.size, fun k hk => (setRow_other _ _ _ _ (by omega)).trans (hb.block k hk)⟩
theorem setCells_put {b : Nat} : ∀ (vs : List Value) (w : World) (o : Nat), w.setCells b o vs = putL w b o vs := by
  intro vs
  induction vs with
  | nil => intro w o; rfl
  | cons v vs ih => intro w o; rw [World.setCells, putL, ih]
theorem there_blk {w : World} {b n o m : Nat} {t : TypeId} (h : Blk w b t n) (hm : o + m ≤ n) : w.there b o m := fun j hj => by
  obtain ⟨v, hv⟩ := blk_ex h (o := o + j) (by omega)
  exact ⟨by rw [hv]; rfl, blk_fz h _⟩
/-- A part's cells. -/
def pcells (xb m : Nat) : List Value := [.slice none 0 0, .slice none 0 0, .slice (some ⟨xb, 0, none⟩) m m, .slice none 0 0, .map none, .map none, .map none, .slice none 0 0, .bool false, .bool false, .bool false]
theorem infoPart : (Try.prog.info? 151).map (fun i => (i.zero, i.size, i.bytes)) = some (some (.agg #[.slice none 0 0, .slice none 0 0, .slice none 0 0, .slice none 0 0, .map none, .map none, .map none, .slice none 0 0, .bool false, .bool false, .bool false]), 11, 152) := by kernel_rfl
theorem infoRec : (Try.prog.info? 141).map (fun i => match i.zero with | some (.agg cs) => (cs.size, cs.all (·.oneCell')) | _ => (0, false)) = some (15, true) := by kernel_rfl
theorem infoRec2 : (Try.prog.info? 141).map (fun i => match i.zero with | some (.agg cs) => (cs.size, cs[10]?.map (fun v => match v with | .int .u32 0 => true | _ => false), i.size, decide (i.bytes ≤ 1024)) | _ => (0, none, 0, false)) = some (15, some true, 15, true) := by kernel_rfl
def IdxB (w : World) (xb n s : Nat) : Prop := Blk w xb 23 n ∧ ∀ k, k < n → w.cell? ⟨xb, k, none⟩ = some (.int .u32 ((s + k : Nat) : Int))
/-- While a part's imports are turned into records. -/
structure JK (w0 : World) (pb B : Nat) (f : FD) (j s xb k : Nat) (w : World) (v : Value) (xs : List Value) : Prop where
  bl : Below pb w0 w
  bk : Blk w pb 151 (f.np * 11)
  part : ∀ i, i < j → ∃ xc, xc < xb ∧ At w pb (i * 11) (pcells xc (f.nk i)) ∧ IdxB w xc (f.nk i) (psum f.nk i)
  xbk : Blk w xb 23 (f.nk j)
  idx : ∀ i, i < k → w.cell? ⟨xb, i, none⟩ = some (.int .u32 ((s + i : Nat) : Int))
  own : w.ownsRow B 141 15 v (s + k) xs
  rcd : ∀ i, i < j → ∀ q, q < f.nk i → xs[(psum f.nk i + q) * 15 + 10]? = some (.int .u32 (fl (f.im i q).v (f.im i q).t))
  rek : ∀ q, q < k → xs[(s + q) * 15 + 10]? = some (.int .u32 (fl (f.im j q).v (f.im j q).t))
  pbx : pb < xb
  pB : pb < B
theorem recInfo : ∃ i Z, Try.prog.info? 141 = some i ∧ i.zero = some (.agg Z) ∧ i.size = 15 ∧ i.bytes ≤ 1024 ∧ Z.size = 15 ∧ (∃ v, Z[10]? = some v ∧ v = .int .u32 0) ∧ (∀ w : World, (zeroValue 141).run Try.prog w = .ok (.agg Z) w) ∧ Z.all (·.oneCell') = true := by
  have h := infoRec2
  cases hi : Try.prog.info? 141 with
  | none => rw [hi] at h; cases h
  | some i =>
    rw [hi] at h
    simp only [Option.map_some, Option.some.injEq] at h
    split at h
    · rename_i cs hz
      simp only [Prod.mk.injEq] at h
      have h2 := infoRec
      rw [hi] at h2
      simp only [Option.map_some, Option.some.injEq, hz, Prod.mk.injEq] at h2
      refine ⟨i, cs, rfl, hz, h.2.2.1, of_decide_eq_true h.2.2.2, h.1, ?_, fun w => by simp [zeroValue, typeInfo, hi, hz], h2.2⟩
      have h10 := h.2.1
      cases hv : cs[10]? with
      | none => rw [hv] at h10; cases h10
      | some v =>
        rw [hv] at h10
        simp only [Option.map_some, Option.some.injEq] at h10
        refine ⟨v, rfl, ?_⟩
        split at h10
        · rfl
        · cases h10
    · simp at h
theorem JK.app {w0 w W : World} {pb B : Nat} {f : FD} {j s xb k : Nat} {v : Value} {xs : List Value} (h : JK w0 pb B f j s xb k w v xs) (hk : k < f.nk j) (hsk : s + k ≤ 1048576) (hB : B ≤ w.heap.size)
    (hb : Below (w.setCell ⟨xb, k, none⟩ (.int .u32 ((s + k : Nat) : Int))).heap.size (w.setCell ⟨xb, k, none⟩ (.int .u32 ((s + k : Nat) : Int))) W)
    {rc : List Value} (hrl : rc.length = 15) (hr10 : rc[10]? = some (.int .u32 (fl (f.im j k).v (f.im j k).t))) (hone : ∀ u ∈ rc, u.oneCell' = true) {sb c : Nat} (hs : W.heap[sb]? = some (.cells rc.toArray 141 (0, 0))) (ty : TypeId) :
    ∃ v' w', (Builtin.append_ #[128, 128] ty #[v, .slice (some ⟨sb, 0, none⟩) 1 c]).run Try.prog W = .ok v' w' ∧ (∃ a' c', v' = .slice a' (s + (k + 1)) c' ∧ Hid (B ≤ w'.heap.size ∧ ∃ xs', JK w0 pb B f j s xb (k + 1) w' v' xs')) := by
  obtain ⟨ti, Z, hi, hz, hsz, hby, hzs, _, _, _⟩ := recInfo
  have hc1 : Chg (fun k => k = xb) w (w.setCell ⟨xb, k, none⟩ (.int .u32 ((s + k : Nat) : Int))) := chg_set (n := 0) (t := 0) _
  have hsep1 := sep_blk h.xbk
  have hbk1 := h.xbk.set k (.int .u32 ((s + k : Nat) : Int))
  have hcell1 := h.xbk.cell_set hk (.int .u32 ((s + k : Nat) : Int))
  have hother : ∀ i, i ≠ k → (w.setCell ⟨xb, k, none⟩ (.int .u32 ((s + k : Nat) : Int))).cell? ⟨xb, i, none⟩ = w.cell? ⟨xb, i, none⟩ := fun i hi => World.cell?_setCell_other w ⟨xb, k, none⟩ _ _ (fun e => by injection e with _ e; omega)
  have hz1 : (w.setCell ⟨xb, k, none⟩ (.int .u32 ((s + k : Nat) : Int))).heap.size = w.heap.size := by simp [World.setCell]
  generalize w.setCell ⟨xb, k, none⟩ (.int .u32 ((s + k : Nat) : Int)) = W1 at hb hc1 hbk1 hcell1 hother hz1
  have hne : ∀ g, v.ownBlock = some g → ¬ g = xb := fun g hg e => by
    subst e
    obtain ⟨_, q⟩ := sep_own h.own g hg
    obtain ⟨_, q2, _⟩ := h.xbk
    rw [q] at q2
    injection q2 with q2
    injection q2 with _ q2
    exact absurd q2 (by decide)
  have ho1 : W1.ownsRow B 141 15 v (s + k) xs := hc1.owns h.own hne
  have ho2 := owns_below ho1 hb
  obtain ⟨v', w', hr, ho, hg, _⟩ := app_keep (P := Try.prog) W (ty := ty) Try.underlying128 hi hz hsz rfl (by simpa [Value.cells] using hzs) (by omega) ho2 ⟨sb, 0, none⟩ 1 c rc (by omega) (cells_at hs) hone (by unfold maxLen; omega) (Nat.le_trans (Nat.mul_le_mul (show s + k + 1 ≤ 1048577 by omega) hby) (by omega)) (by have := hb.size; omega)
  have hc3 : Chg (fun k => v.ownBlock = some k) W w' := Chg.of_grown hg
  have hsep3 := sep_own ho2
  obtain ⟨a', c', e⟩ := own_slice ho
  have hkeep : ∀ b t n, Blk w b t n → b ≠ xb → t ≠ 141 → w'.heap[b]? = w.heap[b]? ∧ Blk w' b t n := fun b t n q1 q2 q3 => by
    have e1 : W1.heap[b]? = w.heap[b]? := hc1.block b (blk_lt q1) q2
    obtain ⟨cur, r1, r2⟩ := q1
    have b1 : Blk W1 b t n := ⟨cur, e1.trans r1, r2⟩
    have e2 := hb.block b (blk_lt b1)
    have b2 : Blk W b t n := blk_below b1 hb (blk_lt b1)
    obtain ⟨b3, e3⟩ := blk_chg hc3 hsep3 b2 q3
    exact ⟨e3.trans (e2.trans e1), b3⟩
  have hxb2 : Blk W xb 23 (f.nk j) := blk_below hbk1 hb (blk_lt hbk1)
  obtain ⟨hxb3, exb⟩ := blk_chg hc3 hsep3 hxb2 (by decide)
  have exb2 : w'.heap[xb]? = W1.heap[xb]? := exb.trans (hb.block xb (blk_lt hbk1))
  have hlen : xs.length = (s + k) * 15 := own_len h.own
  obtain ⟨epb, hpb⟩ := hkeep pb _ _ h.bk (Nat.ne_of_lt h.pbx) (by decide)
  refine ⟨v', w', hr, a', c', e, Lib.hid ⟨Nat.le_trans (by have := hb.size; omega) hg.size, _, ⟨?_, hpb, ?_, hxb3, ?_, ho, ?_, ?_, h.pbx, h.pB⟩⟩⟩
  · have l1 := hc1.below (B := pb) (Nat.le_of_lt (blk_lt h.bk)) (fun i e => by have := h.pbx; omega)
    have l2 := hb.mono (B' := pb) (by have := blk_lt h.bk; omega)
    exact ((h.bl.trans l1).trans l2).trans (hc3.below (by have := blk_lt h.bk; have := hb.size; omega) (fun i e => by have := (ho2.lt i e).1; have := h.pB; omega))
  · intro i hi
    obtain ⟨xc, q1, q2, q3, q4⟩ := h.part i hi
    obtain ⟨e4, b4⟩ := hkeep xc _ _ q3 (by omega) (by decide)
    exact ⟨xc, q1, at_heap q2 epb, b4, fun q hq => (World.cell?_of_block (a := ⟨xc, q, none⟩) e4).trans (q4 q hq)⟩
  · intro i hi
    rw [World.cell?_of_block (a := ⟨xb, i, none⟩) exb2]
    by_cases e : i = k
    · subst e; exact hcell1
    · rw [hother i e]; exact h.idx i (by omega)
  · intro i hi q hq
    have := h.rcd i hi q hq
    rw [List.getElem?_append_left ((List.getElem?_eq_some_iff.1 this).1)]
    exact this
  · intro q hq
    by_cases e : q = k
    · subst e
      rw [List.getElem?_append_right (by omega), show (s + q) * 15 + 10 - xs.length = 10 by omega]
      exact hr10
    · have := h.rek q (by omega)
      rw [List.getElem?_append_left ((List.getElem?_eq_some_iff.1 this).1)]
      exact this
/-- While a file's parts are built. -/
structure JP (w0 : World) (pb B : Nat) (f : FD) (j : Nat) (w : World) (v : Value) (xs : List Value) : Prop where
  bl : Below pb w0 w
  bk : Blk w pb 151 (f.np * 11)
  part : ∀ i, i < j → ∃ xc, At w pb (i * 11) (pcells xc (f.nk i)) ∧ IdxB w xc (f.nk i) (psum f.nk i)
  own : w.ownsRow B 141 15 v (psum f.nk j) xs
  rcd : ∀ i, i < j → ∀ q, q < f.nk i → xs[(psum f.nk i + q) * 15 + 10]? = some (.int .u32 (fl (f.im i q).v (f.im i q).t))
  pB : pb < B
theorem IdxB.below {w w' : World} {xb n s : Nat} (h : IdxB w xb n s) (hb : Below w.heap.size w w') : IdxB w' xb n s :=
  ⟨blk_below h.1 hb (blk_lt h.1), fun k hk => cell_below (h.2 k hk) hb (blk_lt h.1)⟩
theorem JP.start {w0 w W : World} {pb B : Nat} {f : FD} {j : Nat} {v : Value} {xs : List Value} (h : JP w0 pb B f j w v xs) (hb : Below w.heap.size w W) (hx : Blk W w.heap.size 23 (f.nk j)) : JK w0 pb B f j (psum f.nk j) w.heap.size 0 W v xs := by
  have hp := blk_lt h.bk
  refine ⟨h.bl.trans (hb.mono (Nat.le_of_lt hp)), blk_below h.bk hb hp, fun i hi => ?_, hx, (fun i hi => absurd hi (Nat.not_lt_zero _)), owns_below h.own hb, h.rcd, (fun i hi => absurd hi (Nat.not_lt_zero _)), hp, h.pB⟩
  obtain ⟨xc, q1, q2⟩ := h.part i hi
  exact ⟨xc, blk_lt q2.1, q1.below hp hb, q2.below hb⟩
theorem JK.fin {w0 w : World} {pb B : Nat} {f : FD} {j xb : Nat} {v : Value} {xs : List Value} (h : JK w0 pb B f j (psum f.nk j) xb (f.nk j) w v xs) (hj : j < f.np) : JP w0 pb B f (j + 1) (putL w pb (j * 11) (pcells xb (f.nk j))) v xs := by
  have hq := put_at (pcells xb (f.nk j)) w (j * 11) h.bk (by simp [pcells]; omega)
  have hh : ∀ b, b ≠ pb → (putL w pb (j * 11) (pcells xb (f.nk j))).heap[b]? = w.heap[b]? := fun b hb => put_heap hb _ _ _
  have hx : ∀ b n s, IdxB w b n s → IdxB (putL w pb (j * 11) (pcells xb (f.nk j))) b n s := fun b n s q => by
    have hne : b ≠ pb := blk_ne q.1 h.bk (by decide)
    exact ⟨blk_put q.1 hne _, fun k hk => (World.cell?_of_block (a := ⟨b, k, none⟩) (hh b hne)).trans (q.2 k hk)⟩
  refine ⟨put_below _ _ _ h.bl (Nat.le_refl _), hq.2, fun i hi => ?_, ?_, fun i hi => ?_, h.pB⟩
  · by_cases e : i = j
    · subst e
      exact ⟨xb, hq.1, hx _ _ _ ⟨h.xbk, h.idx⟩⟩
    · obtain ⟨xc, _, q1, q2⟩ := h.part i (by omega)
      exact ⟨xc, at_put q1 (.inr (.inl (by simp [pcells]; omega))), hx _ _ _ q2⟩
  · have hc : Chg (fun k => k = pb) w (putL w pb (j * 11) (pcells xb (f.nk j))) := by
      refine ⟨?_, ?_, ?_, by rw [put_size]; exact Nat.le_refl _, fun k hk hn => hh k hn⟩
      · exact (put_below (b := pb) (B := 0) _ _ _ (Below.refl 0 w) (Nat.zero_le _)).os
      · exact (put_below (b := pb) (B := 0) _ _ _ (Below.refl 0 w) (Nat.zero_le _)).tape
      · exact (put_below (b := pb) (B := 0) _ _ _ (Below.refl 0 w) (Nat.zero_le _)).output
    rw [psum]
    exact hc.owns h.own (fun g hg e => by have := (h.own.lt g hg).1; have := h.pB; omega)
  · by_cases e : i = j
    · subst e
      exact h.rek
    · exact h.rcd i (by omega)
/-- A file's representation in memory. -/
def Rep (w : World) (rb : Nat) (f : FD) : Prop :=
  ∃ pb ra rc, Blk w rb 180 64 ∧ w.cell? ⟨rb, 20, none⟩ = some (.slice (some ⟨pb, 0, none⟩) f.np f.np) ∧ w.cell? ⟨rb, 35, none⟩ = some (.slice ra (psum f.nk f.np) rc) ∧ w.cell? ⟨rb, 63, none⟩ = some (.int .u32 (fl f.has f.css)) ∧
    Blk w pb 151 (f.np * 11) ∧ (∀ j, j < f.np → ∃ xb, At w pb (j * 11) (pcells xb (f.nk j)) ∧ IdxB w xb (f.nk j) (psum f.nk j)) ∧
    (0 < psum f.nk f.np → ∃ gb cur, ra = some ⟨gb, 0, none⟩ ∧ w.heap[gb]? = some (.cells cur 141 (0, 0)) ∧ ∀ j, j < f.np → ∀ k, k < f.nk j → w.cell? ⟨gb, (psum f.nk j + k) * 15 + 10, none⟩ = some (.int .u32 (fl (f.im j k).v (f.im j k).t)))
theorem IdxB.chg {S : Nat → Prop} {w w' : World} {t : TypeId} {xb n s : Nat} (h : IdxB w xb n s) (hc : Chg S w w') (hs : Sep S w t) (ht : 23 ≠ t) : IdxB w' xb n s := by
  obtain ⟨q1, q2⟩ := blk_chg hc hs h.1 ht
  exact ⟨q1, fun k hk => (World.cell?_of_block (a := ⟨xb, k, none⟩) q2).trans (h.2 k hk)⟩
theorem Rep.chg {S : Nat → Prop} {w w' : World} {t : TypeId} {rb : Nat} {f : FD} (h : Rep w rb f) (hc : Chg S w w') (hs : Sep S w t) (h1 : 23 ≠ t) (h2 : 151 ≠ t) (h3 : 141 ≠ t) (h4 : 180 ≠ t) : Rep w' rb f := by
  obtain ⟨pb, ra, rc, q1, q2, q3, q4, q5, q6, q7⟩ := h
  obtain ⟨r1, e1⟩ := blk_chg hc hs q1 h4
  obtain ⟨r5, e5⟩ := blk_chg hc hs q5 h2
  have c : ∀ o v, w.cell? ⟨rb, o, none⟩ = some v → w'.cell? ⟨rb, o, none⟩ = some v := fun o v hv => (World.cell?_of_block (a := ⟨rb, o, none⟩) e1).trans hv
  refine ⟨pb, ra, rc, r1, c _ _ q2, c _ _ q3, c _ _ q4, r5, fun j hj => ?_, fun hp => ?_⟩
  · obtain ⟨xb, z1, z2⟩ := q6 j hj
    exact ⟨xb, at_heap z1 e5, z2.chg hc hs h1⟩
  · obtain ⟨gb, cur, z1, z2, z3⟩ := q7 hp
    have e7 := sep_block hc hs z2 h3
    exact ⟨gb, cur, z1, e7.trans z2, fun j hj k hk => (World.cell?_of_block (a := ⟨gb, (psum f.nk j + k) * 15 + 10, none⟩) e7).trans (z3 j hj k hk)⟩
theorem Rep.below {w w' : World} {rb : Nat} {f : FD} (h : Rep w rb f) (hb : Below w.heap.size w w') : Rep w' rb f := h.chg (chg_none hb) (sep_none (t := 0)) (by decide) (by decide) (by decide) (by decide)
theorem JP.rep {w0 w W : World} {pb B : Nat} {f : FD} {a : Option Addr} {c : Nat} {xs : List Value} (h : JP w0 pb B f f.np w (.slice a (psum f.nk f.np) c) xs) (hb : Below w.heap.size w W) {rb : Nat} (q1 : Blk W rb 180 64)
    (q2 : W.cell? ⟨rb, 20, none⟩ = some (.slice (some ⟨pb, 0, none⟩) f.np f.np)) (q3 : W.cell? ⟨rb, 35, none⟩ = some (.slice a (psum f.nk f.np) c)) (q4 : W.cell? ⟨rb, 63, none⟩ = some (.int .u32 (fl f.has f.css))) : Rep W rb f := by
  have ho := owns_below h.own hb
  refine ⟨pb, a, c, q1, q2, q3, q4, blk_below h.bk hb (blk_lt h.bk), fun j hj => ?_, fun hp => ?_⟩
  · obtain ⟨xc, z1, z2⟩ := h.part j hj
    exact ⟨xc, z1.below (blk_lt h.bk) hb, z2.below hb⟩
  · rcases id ho.2 with ⟨_, e⟩ | ⟨g, cap, cur, e, _, hg, _⟩
    · omega
    · injection e with e _ _
      refine ⟨g, cur, e, hg, fun j hj k hk => ?_⟩
      subst e
      have := ho.cells (g := g) rfl _ _ (h.rcd j hj k hk)
      have e2 : (⟨g, 0, none⟩ : Addr).add ((psum f.nk j + k) * 15 + 10) = ⟨g, (psum f.nk j + k) * 15 + 10, none⟩ := by unfold Addr.add; simp; try omega
      rwa [e2] at this
/-- The linker's files. -/
def LFiles (w : World) (lb n : Nat) (F : Nat → FD) : Prop := Blk w lb 201 (n * 24) ∧ ∀ k, k < n → ∃ rb, w.cell? ⟨lb, k * 24 + 2, none⟩ = some (.iface 152 (.pointer (some ⟨rb, 0, none⟩))) ∧ Rep w rb (F k)
theorem LFiles.below {w w' : World} {lb n : Nat} {F : Nat → FD} (h : LFiles w lb n F) (hb : Below w.heap.size w w') : LFiles w' lb n F := by
  refine ⟨blk_below h.1 hb (blk_lt h.1), fun k hk => ?_⟩
  obtain ⟨rb, q1, q2⟩ := h.2 k hk
  exact ⟨rb, cell_below q1 hb (blk_lt h.1), q2.below hb⟩
/-- While the linker's files are built. -/
structure JO (w : World) (n : Nat) (F : Nat → FD) (i : Nat) (wr : World) : Prop where
  bl : Below w.heap.size w wr
  bk : Blk wr w.heap.size 201 (n * 24)
  at_ : ∀ k, k < i → ∃ rb, wr.cell? ⟨w.heap.size, k * 24 + 2, none⟩ = some (.iface 152 (.pointer (some ⟨rb, 0, none⟩))) ∧ Rep wr rb (F k)
theorem put_chg {w : World} {b o : Nat} (vs : List Value) : Chg (fun k => k = b) w (putL w b o vs) := by
  have h := put_below (b := b) (B := 0) vs w o (Below.refl 0 w) (Nat.zero_le _)
  exact ⟨h.os, h.tape, h.output, by rw [put_size]; exact Nat.le_refl _, fun k hk hn => put_heap hn _ _ _⟩
theorem JO.step {w wr W : World} {n i : Nat} {F : Nat → FD} (h : JO w n F i wr) (hi : i < n) (hb : Below wr.heap.size wr W) {V : List Value} (hV : V.length = 24) {rb : Nat} (h2 : V[2]? = some (.iface 152 (.pointer (some ⟨rb, 0, none⟩)))) (hR : Rep W rb (F i)) :
    JO w n F (i + 1) (putL W w.heap.size (i * 24) V) := by
  have hlt := blk_lt h.bk
  have hbk := blk_below h.bk hb hlt
  have hp := put_at V W (i * 24) hbk (by omega)
  have hc := put_chg (w := W) (b := w.heap.size) (o := i * 24) V
  refine ⟨put_below _ _ _ (h.bl.trans (hb.mono h.bl.size)) (Nat.le_refl _), hp.2, fun k hk => ?_⟩
  by_cases e : k = i
  · subst e
    exact ⟨rb, hp.1 2 _ h2, hR.chg hc (sep_blk hbk) (by decide) (by decide) (by decide) (by decide)⟩
  · obtain ⟨rb', q1, q2⟩ := h.at_ k (by omega)
    refine ⟨rb', ?_, (q2.below hb).chg hc (sep_blk hbk) (by decide) (by decide) (by decide) (by decide)⟩
    rw [put_other V W (i * 24) (.inr (.inl (by simp; omega)))]
    exact cell_below q1 hb hlt
def Lf (n : Nat) (F : Nat → FD) (w : World) (e : Ending) (w' : World) : Prop := ∃ lb, e = .returned (.slice (some ⟨lb, 0, none⟩) n n) ∧ Hid (LFiles w' lb n F) ∧ Hid (Below w.heap.size w w')
theorem infoLF : (Try.prog.info? 201).map (fun i => (i.size, decide (i.bytes ≤ 1024))) = some (24, true) := by kernel_rfl
theorem makeLF : ∃ cs : Array Value, ∀ (n : Nat) (hn : n ≤ 1048576) (w : World), (Instr.makeSlice 29 (.int .i64 n) (.int .i64 n)).run Try.prog w = .ok (.slice (some ⟨w.heap.size, 0, none⟩) n n) (w.alloc (.cells (madeCells cs (n * 24)) 201)) := by
  have h := infoL
  have h2 := infoLF
  cases hi : Try.prog.info? 201 with
  | none => rw [hi] at h; cases h
  | some i =>
    rw [hi] at h h2
    simp only [Option.map_some, Option.some.injEq, Prod.mk.injEq] at h h2
    split at h
    · rename_i cs hz
      have hi2 : (Try.prog.info? 201).map (fun i => (i.zero, i.size, i.bytes)) = some (some (.agg cs), 24, i.bytes) := by rw [hi]; simp [hz, h2.1]
      exact ⟨cs, fun n hn w => run_make_many (P := Try.prog) Try.underlying29 hi2 rfl (of_decide_eq_true h2.2) n (by omega) w⟩
    · simp at h
theorem infoRepr : (Try.prog.info? 180).map (fun i => match i.zero with | some (.agg cs) => (cs.size, cs.all (·.oneCell')) | _ => (0, false)) = some (64, true) := by kernel_rfl
theorem infoRepr63 : (Try.prog.info? 180).map (fun i => match i.zero with | some (.agg cs) => cs[63]?.map (fun v => match v with | .int .u32 0 => true | _ => false) | _ => none) = some (some true) := by kernel_rfl
theorem reprInfo : ∃ Z : Array Value, (∀ w : World, (zeroValue 180).run Try.prog w = .ok (.agg Z) w) ∧ Z.size = 64 ∧ Z[63]? = some (.int .u32 0) := by
  have h := infoRepr
  have h2 := infoRepr63
  cases hi : Try.prog.info? 180 with
  | none => rw [hi] at h; cases h
  | some i =>
    rw [hi] at h h2
    simp only [Option.map_some, Option.some.injEq] at h h2
    split at h
    · rename_i cs hz
      simp only [Prod.mk.injEq] at h
      simp only [hz] at h2
      refine ⟨cs, fun w => by simp [zeroValue, typeInfo, hi, hz], h.1, ?_⟩
      cases hv : cs[63]? with
      | none => rw [hv] at h2; cases h2
      | some v =>
        rw [hv] at h2
        simp only [Option.map_some, Option.some.injEq] at h2
        split at h2
        · rfl
        · cases h2
    · simp at h
theorem JP.start2 {w0 w W : World} {pb B : Nat} {f : FD} {j s m : Nat} {v : Value} {xs : List Value} (h : JP w0 pb B f j w v xs) (hs : psum f.nk j = s) (hm : f.nk j = m) (hb : Below w.heap.size w W) (hx : Blk W w.heap.size 23 m) : JK w0 pb B f j s w.heap.size 0 W v xs := by
  subst hs hm
  exact h.start hb hx
theorem sizeR : (Try.prog.info? 141).map (·.size) = some 15 := by kernel_rfl
theorem recZ : ∃ Z : Array Value, (∀ w : World, (zeroValue 141).run Try.prog w = .ok (.agg Z) w) ∧ Z.size = 15 ∧ Z[10]? = some (.int .u32 0) ∧ Z.all (·.oneCell') = true := by
  obtain ⟨i, Z, _, _, _, _, h1, ⟨v, h2, rfl⟩, h3, h4⟩ := recInfo
  exact ⟨Z, h3, h1, h2, h4⟩
theorem JK.app2 {w0 w W : World} {pb B : Nat} {f : FD} {j s xb k q : Nat} {v : Value} {xs : List Value} (h : JK w0 pb B f j s xb k w v xs) (hq : s + k = q) (hk : k < f.nk j) (hsk : q ≤ 1048576) (hB : B ≤ w.heap.size)
    (hb : Below (w.setCell ⟨xb, k, none⟩ (.int .u32 (q : Int))).heap.size (w.setCell ⟨xb, k, none⟩ (.int .u32 (q : Int))) W)
    {rc : Array Value} (hrl : rc.size = 15) (hr10 : rc[10]? = some (.int .u32 (fl (f.im j k).v (f.im j k).t))) (hone : rc.all (·.oneCell') = true) {sb c : Nat} (hs : W.heap[sb]? = some (.cells rc 141 (0, 0))) (ty : TypeId) :
    ∃ v' w', (Builtin.append_ #[128, 128] ty #[v, .slice (some ⟨sb, 0, none⟩) 1 c]).run Try.prog W = .ok v' w' ∧ (∃ a' c', v' = .slice a' (s + (k + 1)) c' ∧ Hid (B ≤ w'.heap.size ∧ ∃ xs', JK w0 pb B f j s xb (k + 1) w' v' xs')) := by
  subst hq
  exact h.app hk hsk hB hb (rc := rc.toList) (by simpa using hrl) (by simpa using hr10) (fun u hu => (Array.all_eq_true_iff_forall_mem.1 hone) u (by simpa using hu)) (by simpa using hs) ty
theorem JK.fin2 {w0 w : World} {pb B : Nat} {f : FD} {j s m xb : Nat} {a : Option Addr} {c : Nat} {xs : List Value} (h : JK w0 pb B f j s xb m w (.slice a (s + m) c) xs) (hs : psum f.nk j = s) (hm : f.nk j = m) (hj : j < f.np) : JP w0 pb B f (j + 1) (putL w pb (j * 11) (pcells xb m)) (.slice a (psum f.nk (j + 1)) c) xs := by
  subst hs hm
  exact h.fin hj
theorem JP.rep2 {w0 w W : World} {pb B : Nat} {f : FD} {a : Option Addr} {c : Nat} {xs : List Value} (h : JP w0 pb B f f.np w (.slice a (psum f.nk f.np) c) xs) (hb : Below w.heap.size w W) {rb : Nat} {K : Array Value} (hr : W.heap[rb]? = some (.cells K 180 (0, 0))) (hs : K.size = 64)
    (q2 : K[20]? = some (.slice (some ⟨pb, 0, none⟩) f.np f.np)) (q3 : K[35]? = some (.slice a (psum f.nk f.np) c)) (q4 : K[63]? = some (.int .u32 (fl f.has f.css))) : Rep W rb f :=
  h.rep hb ⟨K, hr, hs⟩ (by rw [cell_of_row _ _ _ _ _ _ hr]; exact q2) (by rw [cell_of_row _ _ _ _ _ _ hr]; exact q3) (by rw [cell_of_row _ _ _ _ _ _ hr]; exact q4)
theorem repr_cells {Z : Array Value} {a b : Value} (hs : Z.size = 64) : ((Z.setIfInBounds 20 a).setIfInBounds 35 b).size = 64 ∧ ((Z.setIfInBounds 20 a).setIfInBounds 35 b)[20]? = some a ∧ ((Z.setIfInBounds 20 a).setIfInBounds 35 b)[35]? = some b ∧ ((Z.setIfInBounds 20 a).setIfInBounds 35 b)[63]? = Z[63]? := by
  refine ⟨by simp [hs], ?_, ?_, ?_⟩
  · rw [Array.getElem?_setIfInBounds, if_neg (by decide), Array.getElem?_setIfInBounds, if_pos rfl, if_pos (by omega)]
  · rw [Array.getElem?_setIfInBounds, if_pos rfl, if_pos (by simp [hs])]
  · rw [Array.getElem?_setIfInBounds, if_neg (by decide), Array.getElem?_setIfInBounds, if_neg (by decide)]
theorem repr_set {K : Array Value} {v : Value} (hs : K.size = 64) : (K.setIfInBounds 63 v).size = 64 ∧ (K.setIfInBounds 63 v)[20]? = K[20]? ∧ (K.setIfInBounds 63 v)[35]? = K[35]? ∧ (K.setIfInBounds 63 v)[63]? = some v := by
  refine ⟨by simp [hs], ?_, ?_, ?_⟩
  · rw [Array.getElem?_setIfInBounds, if_neg (by decide)]
  · rw [Array.getElem?_setIfInBounds, if_neg (by decide)]
  · rw [Array.getElem?_setIfInBounds, if_pos rfl, if_pos (by omega)]
end Go.Proofs.Ytfjjokophgkifaa.Aux
