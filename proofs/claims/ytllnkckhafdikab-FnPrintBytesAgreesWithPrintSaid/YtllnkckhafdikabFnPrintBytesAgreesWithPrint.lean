/- Printing bytes leaves the same output as printing the string of those bytes. No condition. -/
import Derived.Test.YtllnkckhafdikabRows
import Derived.WalkKit
import Derived.ProofKit
import Derived.OpenShut
import Derived.ShutString
import Derived.Test.YtllnkckhafdikabFacts
import Derived.Test.YtllnkckhafdikabAid
import Derived.Test.YtllnkckhafdikabFl
import Derived.Test.YtllnkckhafdikabPb
import Derived.Laws.BytesArg
import Derived.OwnWalk
import Derived.WalkSpells
import Derived.LoopTactic
import Derived.RegionTactic
import Derived.Outline
import Derived.Deep.QuietTactic
import Derived.BigQuiet
import Derived.IntWalk
namespace Go.Proofs.Ytllnkckhafdikab.fnPrintBytesAgreesWithPrint
open Go.ChangeShapes Go.WideShapes Go.ChangeAt Go.RowKit
open Go.ChangeMaps (open_string shut_string)
set_option linter.unusedVariables false

theorem own : ownKnob Try.prog.godebug = none := by kernel_rfl
theorem laidOut : laidOutB Try.prog = true := by kernel_rfl

open Fl Pb
theorem info5 : (Try.prog.info? 5).map (fun i => (i.zero, i.size, i.bytes)) = some (some (.int .u8 0), 1, 1) := by kernel_rfl
def Prt (w : World) (pb B : Nat) (v : Value) (ys : List Value) (e : Ending) (w' : World) : Prop :=
  e = .returned (.tuple #[]) ∧ ∃ v', w'.cell? ⟨pb, 9, none⟩ = some v' ∧ w'.frozen? ⟨pb, 9, none⟩ = false ∧ w'.ownsRow B 5 1 v' ys.length ys ∧ Chg (fun k => k = pb ∨ v.ownBlock = some k) w w' ∧ Same w v v'
theorem Prt.mk {w w1 : World} {pb B : Nat} {v v' : Value} {ys : List Value} (hc : w.cell? ⟨pb, 9, none⟩ = some v) (hf : w.frozen? ⟨pb, 9, none⟩ = false) (hne : v.ownBlock ≠ some pb)
    (ho : w1.ownsRow B 5 1 v' ys.length ys) (hg : w.grownBy w1 v.ownBlock) (hs : Same w v v') : Prt w pb B v ys (.returned (.tuple #[])) (w1.setCell ⟨pb, 9, none⟩ v') := by
  have hpb : pb < w.heap.size := World.block_lt_of_cell? w _ hc
  have c1 := hg.cell hc (fun e => hne e.symm)
  have f1 : w1.frozen? ⟨pb, 9, none⟩ = false := by rw [World.frozen?_of_block (hg.block pb hpb fun e => hne e.symm)]; exact hf
  refine ⟨rfl, v', World.cell?_setCell_same _ _ _ c1, by simpa using f1, ?_, ?_, hs⟩
  · have hc2 : Chg (fun k => k = pb) w1 (w1.setCell ⟨pb, 9, none⟩ v') := Chg.setCell (S := fun k => k = pb) (Chg.refl _ _) (.inl rfl) _
    refine hc2.owns ho fun k hk => ?_
    rcases hs with hs | hs
    · rw [hs] at hk
      exact fun e => hne (by rw [hk, e])
    · have := hs k hk
      omega
  · exact ((Chg.of_grown hg).mono fun i _ e => .inr e).setCell (.inl (.inl rfl)) _
set_option maxRecDepth 100000 in
theorem print29 (pb B : Nat) (v : Value) (xs : List Value) (s : ByteArray) (w : World) (hc : w.cell? ⟨pb, 9, none⟩ = some v) (hf : w.frozen? ⟨pb, 9, none⟩ = false) (hne : v.ownBlock ≠ some pb)
    (ho : w.ownsRow B 5 1 v xs.length xs) (hB : B ≤ w.heap.size) (hs : xs.length + s.size ≤ 4194304) :
    Calls Try.prog 29 #[.pointer (some ⟨pb, 0, none⟩), .string s] w (Prt w pb B v (xs ++ Lib.strCells s)) := by
  obtain ⟨i0, hi, hz0, hz1, hz2⟩ := info_parts info5
  have HR := Lib.hid (app_string (P := Try.prog) (ty := 22) w Try.underlying22 Try.underlying9 hi hz0 hz1 hz2 ho s (by unfold maxLen; omega) (by omega) hB)
  have HC := Lib.hid hc
  have HF := Lib.hid hf
  have HN := Lib.hid hne
  have hpb : pb < w.heap.size := World.block_lt_of_cell? w _ hc
  clear ho hne hi hz0 hz1 hz2 i0
  go_enter Try.func29, Try.ntmps29
  go_wp2_with (at_builtin; refine wpList_app rfl _ _ #[22, 9] rfl rfl rfl HR.out ?_; rintro v' w1 ⟨ho', hg, hsm⟩; obtain ⟨q1, q2, rfl, _⟩ := owns_slice ho'; have c1 := hg.cell HC.out (fun e => HN.out e.symm); have f1 : w1.frozen? ⟨pb, 9, none⟩ = false := (World.frozen?_of_block (hg.block pb hpb fun e => HN.out e.symm)).trans HF.out; have HO := Lib.hid ho'; have HG := Lib.hid hg; have HS := Lib.hid hsm; clear ho' hg hsm)
  go_end0
  exact Prt.mk HC.out HF.out HN.out (by rw [List.length_append, Lib.strCells_length]; exact HO.out) HG.out HS.out
set_option maxRecDepth 100000 in
theorem print28 (pb B : Nat) (v : Value) (xs : List Value) (a : Option Addr) (n c : Nat) (V : Nat → Value) (w : World) (hc : w.cell? ⟨pb, 9, none⟩ = some v) (hf : w.frozen? ⟨pb, 9, none⟩ = false) (hne : v.ownBlock ≠ some pb)
    (ho : w.ownsRow B 5 1 v xs.length xs) (hB : B ≤ w.heap.size) (hs : xs.length + n ≤ 4194304) (hsl : Fsl w a n V) (hn0 : a = none → c = 0) (h1 : ∀ i, i < n → (V i).oneCell' = true) :
    Calls Try.prog 28 #[.pointer (some ⟨pb, 0, none⟩), .slice a n c] w (Prt w pb B v (xs ++ (List.range n).map V)) := by
  obtain ⟨i0, hi, hz0, hz1, hz2⟩ := info_parts info5
  have HR : Hid (∃ v' w', (Builtin.append_ #[22, 22] 22 #[v, .slice a n c]).run Try.prog w = .ok v' w' ∧ w'.ownsRow B 5 1 v' (xs.length + n) (xs ++ (List.range n).map V) ∧ w.grownBy w' v.ownBlock ∧ Same w v v') := by
    cases a with
    | none =>
      obtain rfl := hsl.none_
      obtain rfl := hn0 rfl
      exact Lib.hid ⟨v, w, run_append_owned_none (P := Try.prog) w B 22 22 5 i0 1 Try.underlying22 hi v _ xs ho, by simpa using ho, ⟨rfl, rfl, rfl, Nat.le_refl _, fun _ _ _ => rfl⟩, .inl rfl⟩
    | some x =>
      refine Lib.hid (app_slice (P := Try.prog) (ty := 22) w Try.underlying22 hi hz0 hz1 hz2 rfl ho x n c ((List.range n).map V) (by simp) ?_ ?_ (by unfold maxLen; omega) (by omega) hB)
      · intro j u hj
        have hjn : j < n := by
          by_cases h : j < n
          · exact h
          · rw [List.getElem?_eq_none (by simpa using h)] at hj; cases hj
        obtain ⟨b, off, e, _, hc⟩ := hsl.at j hjn
        injection e with e
        subst e
        rw [show (⟨b, off, none⟩ : Addr).add j = ⟨b, off + j, none⟩ from by unfold Addr.add; simp, hc]
        simpa [hjn] using hj
      · intro u hu
        obtain ⟨j, hj, rfl⟩ := List.mem_map.1 hu
        exact h1 j (List.mem_range.1 hj)
  have HC := Lib.hid hc
  have HF := Lib.hid hf
  have HN := Lib.hid hne
  have hpb : pb < w.heap.size := World.block_lt_of_cell? w _ hc
  clear ho hne hi hz0 hz1 hz2 i0 hsl h1 hn0
  go_enter Try.func28, Try.ntmps28
  go_wp2_with (at_builtin; refine wpList_app rfl _ _ #[22, 22] rfl rfl rfl HR.out ?_; rintro v' w1 ⟨ho', hg, hsm⟩; obtain ⟨q1, q2, rfl, _⟩ := owns_slice ho'; have c1 := hg.cell HC.out (fun e => HN.out e.symm); have f1 : w1.frozen? ⟨pb, 9, none⟩ = false := (World.frozen?_of_block (hg.block pb hpb fun e => HN.out e.symm)).trans HF.out; have HO := Lib.hid ho'; have HG := Lib.hid hg; have HS := Lib.hid hsm; clear ho' hg hsm)
  go_end0
  exact Prt.mk HC.out HF.out HN.out (by rw [List.length_append, List.length_map, List.length_range]; exact HO.out) HG.out HS.out
theorem Cop.owns {w w' : World} {a : Option Addr} {n : Nat} {t : TypeId} {V : Nat → Value} {e : Ending} (h : Cop w a n t V e w') (hm : n ≤ 4194304) :
    ∃ a' c', e = .returned (.slice a' n c') ∧ w'.ownsRow w.heap.size t 1 (.slice a' n c') n ((List.range n).map V) ∧ Below w.heap.size w w' ∧ Fsl w' a' n V ∧ (a' = none → c' = 0) := by
  obtain ⟨a', c', rfl, hc, hs, hb, hi, h2⟩ := h
  refine ⟨a', c', rfl, ⟨by simp, ?_⟩, hb, hs, ?_⟩
  · rcases h2 with ⟨rfl, rfl⟩ | ⟨b, hge, rfl, hblk, hcn⟩
    · exact .inl ⟨by rw [hs.none_], hs.none_⟩
    · subst hcn
      exact .inr ⟨b, _, _, rfl, hge, hblk, Nat.le_refl _, by unfold maxLen; omega, by simp, by rw [Nat.mul_one]; exact List.take_of_length_le (by simp)⟩
  · rcases h2 with ⟨rfl, rfl⟩ | ⟨b, hge, rfl, hblk, rfl⟩
    · exact fun _ => rfl
    · exact fun e => by cases e
theorem info85 : (Try.prog.info? 85).map (fun i => match i.zero with | some (.agg cs) => cs.size | _ => 0) = some 139 := by kernel_rfl
theorem zero85 : ∃ Z : Array Value, (∀ w : World, (zeroValue 85).run Try.prog w = .ok (.agg Z) w) ∧ Z.size = 139 := by
  have h := info85
  cases hi : Try.prog.info? 85 with
  | none => rw [hi] at h; cases h
  | some i =>
    rw [hi] at h
    simp only [Option.map_some, Option.some.injEq] at h
    split at h
    · rename_i cs hz
      exact ⟨cs, fun w => by simp [zeroValue, typeInfo, hi, hz], h⟩
    · cases h
def Np (w : World) (js : Value) (e : Ending) (w' : World) : Prop := e = .returned (.pointer (some ⟨w.heap.size, 0, none⟩)) ∧ ∃ cs : Array Value, w' = w.alloc (.cells cs 85) ∧ cs[9]? = some js
theorem Np.cell {w : World} {js : Value} {cs : Array Value} (h : cs[9]? = some js) : (w.alloc (.cells cs 85)).cell? ⟨w.heap.size, 9, none⟩ = some js := by
  rw [cell_of_row _ w.heap.size 9 cs 85 _ (heap_alloc_new w _), h]
theorem Np.frozen {w : World} {cs : Array Value} : (w.alloc (.cells cs 85)).frozen? ⟨w.heap.size, 9, none⟩ = false := frozen_of_row _ w.heap.size 9 cs 85 (heap_alloc_new w _)
set_option maxRecDepth 100000 in
theorem np17 (a : Option Addr) (n c : Nat) (x y : Bool) (w : World) : Calls Try.prog 17 #[.slice a n c, .bool x, .bool y] w (Np w (.slice a n c)) := by
  obtain ⟨Z, hz, hsz⟩ := zero85
  go_enter Try.func17, Try.ntmps17
  go_wp2_with fail
  go_ret
  exact ⟨rfl, _, rfl, by simp [hsz]⟩
theorem js21 (pb : Nat) (a : Option Addr) (n c : Nat) (w : World) (hc : w.cell? ⟨pb, 9, none⟩ = some (.slice a n c)) : Calls Try.prog 21 #[.pointer (some ⟨pb, 0, none⟩)] w fun e w' => e = .returned (.slice a n c) ∧ w' = w := by
  go_enter Try.func21, Try.ntmps21
  go_wp2_with fail
  go_ret
  exact ⟨rfl, rfl⟩
theorem print19 (pb B : Nat) (v : Value) (xs : List Value) (s : ByteArray) (w : World) (hc : w.cell? ⟨pb, 9, none⟩ = some v) (hf : w.frozen? ⟨pb, 9, none⟩ = false) (hne : v.ownBlock ≠ some pb)
    (ho : w.ownsRow B 5 1 v xs.length xs) (hB : B ≤ w.heap.size) (hs : xs.length + s.size ≤ 4194304) :
    Calls Try.prog 19 #[.pointer (some ⟨pb, 0, none⟩), .string s] w (Prt w pb B v (xs ++ Lib.strCells s)) := by
  have H := Lib.hid (print29 pb B v xs s w hc hf hne ho hB hs)
  clear hc hf hne ho hB hs
  go_enter Try.func19, Try.ntmps19
  go_wp2_with fail
  refine H.out.mono ?_
  rintro e w1 ⟨rfl, h⟩
  have H2 := Lib.hid h
  clear h
  go_wp2_with fail
  go_end0
  exact ⟨rfl, H2.out⟩
theorem print18 (pb B : Nat) (v : Value) (xs : List Value) (a : Option Addr) (n c : Nat) (V : Nat → Value) (w : World) (hc : w.cell? ⟨pb, 9, none⟩ = some v) (hf : w.frozen? ⟨pb, 9, none⟩ = false) (hne : v.ownBlock ≠ some pb)
    (ho : w.ownsRow B 5 1 v xs.length xs) (hB : B ≤ w.heap.size) (hs : xs.length + n ≤ 4194304) (hsl : Fsl w a n V) (hn0 : a = none → c = 0) (h1 : ∀ i, i < n → (V i).oneCell' = true) :
    Calls Try.prog 18 #[.pointer (some ⟨pb, 0, none⟩), .slice a n c] w (Prt w pb B v (xs ++ (List.range n).map V)) := by
  have H := Lib.hid (print28 pb B v xs a n c V w hc hf hne ho hB hs hsl hn0 h1)
  clear hc hf hne ho hB hs hsl hn0 h1
  go_enter Try.func18, Try.ntmps18
  go_wp2_with fail
  refine H.out.mono ?_
  rintro e w1 ⟨rfl, h⟩
  have H2 := Lib.hid h
  clear h
  go_wp2_with fail
  go_end0
  exact ⟨rfl, H2.out⟩
/-- A row that is owned, as a slice by index. -/
theorem owns_fsl {w : World} {B : Nat} {a : Option Addr} {n c : Nat} {xs : List Value} (h : w.ownsRow B 5 1 (.slice a n c) n xs) : Fsl w a n (fun i => xs.getD i undef) := by
  obtain ⟨hl, h2⟩ := h
  rcases h2 with ⟨e, hn⟩ | ⟨g, cap, cur, e, hg, hb, h3, h4, h5, h6⟩
  · subst hn
    exact Fsl.empty _ _ _
  · simp only [Value.slice.injEq] at e
    obtain ⟨rfl, _, rfl⟩ := e
    refine ⟨(fun e => by cases e), fun i hi => ⟨g, 0, rfl, ?_, ?_⟩⟩
    · by_cases hl : g < w.heap.size
      · exact hl
      · rw [Array.getElem?_eq_none (by omega)] at hb; cases hb
    · rw [Nat.zero_add, cell_of_row w g i cur 5 _ hb]
      have hi2 : i < xs.length := by omega
      have : xs[i]? = cur[i]? := by rw [← h6, List.getElem?_take_of_lt (by omega)]; simp
      rw [← this]
      simp [List.getElem?_eq_getElem hi2]
def Bl (w : World) (e : Ending) (w' : World) : Prop := w' = w ∧ ∃ v, e = .returned (.bool v)
theorem zb (a0 : Option Addr) (l0 c0 : Nat) (a1 : Option Addr) (l1 c1 : Nat) (w : World) : Calls Try.prog 15 #[.slice a0 l0 c0, .slice a1 l1 c1] w (Bl w) := by
  by_cases h0 : (1048576 : Int) < (l0 : Int)
  · go_enter Try.func15, Try.ntmps15
    go_wp2_with fail
    go_ret
    exact ⟨rfl, _, rfl⟩
  have e0 : IntKind.i64.wrap ((l0 : Int)) = (l0 : Int) := IntWalk.i64_in _ (by omega)
  by_cases h1 : (1048576 : Int) < (l1 : Int)
  · go_enter Try.func15, Try.ntmps15
    go_wp2_with fail
    go_ret
    exact ⟨rfl, _, rfl⟩
  have e1 : IntKind.i64.wrap ((l0 : Int) + (l1 : Int)) = (l0 : Int) + (l1 : Int) := IntWalk.i64_in _ (by omega)
  by_cases g1 : (1048576 : Int) < (l0 : Int) + (l1 : Int)
  · go_enter Try.func15, Try.ntmps15
    go_wp2_with fail
    go_ret
    exact ⟨rfl, _, rfl⟩
  go_enter Try.func15, Try.ntmps15
  go_wp2_with fail
  go_ret
  exact ⟨rfl, _, rfl⟩
theorem clone_info : (Try.prog.info? 5).map (fun i => (i.zero, i.size, i.bytes)) = some (some (.int .u8 0), 1, 1) := by kernel_rfl
theorem clone (a : Option Addr) (len cap : Nat) (S : Nat → Int) (w : World) (h : Fsl w a len (fun i => Value.int .u8 (S i))) (hlen : len ≤ 137438953472) :
    Calls Try.prog 16 #[.slice a len cap] w (Cop w a len 5 (fun i => Value.int .u8 (S i))) := by
  have hnil : ∀ w : World, (binOp .eql 22 (.slice a len cap) (.slice none 0 0)).run Try.prog w = .ok (.bool a.isNone) w := fun w => Lib.run_eql_slice_nil w 22 5 _ _ _ _ _ Try.underlying22
  have hmk := run_make_one (P := Try.prog) Try.underlying22 clone_info rfl (by omega) len hlen
  cases a with
  | none =>
    have H := Lib.hid (Cop.nil (t := 5) h)
    go_enter Try.func16, Try.ntmps16
    go_wp2
    go_ret
    exact H.out
  | some x =>
    go_enter Try.func16, Try.ntmps16
    go_wp2
    go_loopw [4] (fun i wr => ∃ k : Nat, k ≤ len ∧ i = .int .i64 k ∧ Fblk wr w.heap.size 5 len (parV (fun i => Value.int .u8 (S i)) (.int .u8 0) k) ∧ Below w.heap.size w wr) (fun i _ => len - (intOf i).toNat)
    case atStart => exact ⟨0, by omega, rfl, by rw [parV_zero]; exact Fblk.made _ _ _ _, (Below.refl _ _).alloc (Nat.le_refl _) _⟩
    case round =>
      obtain ⟨k, hk, rfl, hb, hl⟩ := hrel
      have HB := Lib.hid hb
      by_cases hlt : k < len
      · obtain ⟨b, off, e, hlb, hc⟩ := h.at k hlt
        injection e with e
        subst e
        have hc' : wr.cell? ⟨b, off + k, none⟩ = some (Value.int .u8 (S k)) := by rw [hl.cell (p := ⟨b, off + k, none⟩) hlb]; exact hc
        have hd := hb.cell k hlt
        have hz := hb.frozen k
        have hk2 : (k : Int) < (len : Int) := by omega
        clear hc hb
        go_wp2
        go_roundw
        case rel => exact ⟨k + 1, by omega, by go_num, by rw [← parV_set]; exact HB.out.set k _, hl.setCell (Nat.le_refl _) _⟩
        case measure => simp [intOf]; omega
      · obtain rfl : k = len := by omega
        clear hb
        go_wp2
        go_ret
        exact Cop.mk (HB.out.congr fun i hi => by simp [parV, hi]) hl (Nat.le_refl _)

theorem eq20 (a1 a2 : Option Addr) (n c1 c2 : Nat) (Z : Nat → Int) (w : World) (h1 : Fsl w a1 n (fun i => .int .u8 (Z i))) (h2 : Fsl w a2 n (fun i => .int .u8 (Z i))) (hn : n ≤ 4194304) :
    Calls Try.prog 20 #[.slice a1 n c1, .slice a2 n c2] w fun e w' => e = .returned (.bool true) ∧ Below w.heap.size w w' := by
  go_enter Try.func20, Try.ntmps20
  go_wp2_with fail
  go_loopw [5] (fun i wr => ∃ k : Nat, k ≤ n ∧ i = .int .i64 k ∧ Below w.heap.size w wr) (fun i _ => n - (intOf i).toNat)
  case atStart => exact ⟨0, by omega, rfl, Below.refl _ _⟩
  case round =>
    obtain ⟨k, hk, rfl, hl⟩ := hrel
    by_cases hlt : k < n
    · obtain ⟨b1, o1, e1, hb1, g1⟩ := h1.at k hlt
      subst e1
      obtain ⟨b2, o2, e2, hb2, g2⟩ := h2.at k hlt
      subst e2
      have f1 : wr.cell? ⟨b1, o1 + k, none⟩ = some (.int .u8 (Z k)) := by rw [hl.cell (p := ⟨b1, o1 + k, none⟩) hb1]; exact g1
      have f2 : wr.cell? ⟨b2, o2 + k, none⟩ = some (.int .u8 (Z k)) := by rw [hl.cell (p := ⟨b2, o2 + k, none⟩) hb2]; exact g2
      have hk2 : (k : Int) < (n : Int) := by omega
      have H1 := Lib.hid h1
      have H2 := Lib.hid h2
      clear g1 g2 h1 h2
      go_wp2_with fail
      go_quiet (fail)
      go_wp2_with fail
      go_roundw
      case rel => exact ⟨k + 1, by omega, by go_num, ⟨hl.os, hl.tape, hl.output, hl.size, hl.block⟩⟩
      case measure => simp [intOf]; omega
    · obtain rfl : k = n := by omega
      clear h1 h2
      go_wp2_with fail
      go_ret
      exact ⟨rfl, hl⟩
theorem owns_mono {w : World} {B B' : Nat} {v : Value} {n : Nat} {xs : List Value} (h : w.ownsRow B 5 1 v n xs) (hb : B' ≤ B) : w.ownsRow B' 5 1 v n xs := by
  obtain ⟨h1, h2⟩ := h
  refine ⟨h1, ?_⟩
  rcases h2 with h2 | ⟨g, cap, cur, e, hg, r⟩
  · exact .inl h2
  · exact .inr ⟨g, cap, cur, e, Nat.le_trans hb hg, r⟩
theorem strCells_of (Z : Nat → Int) (n : Nat) (h : ∀ i, i < n → (Lit.int .u8 (Z i)).wf = true) : Lib.strCells (strOfNums ((List.range n).map Z)) = (List.range n).map (fun i => Value.int .u8 (Z i)) := by
  unfold Lib.strCells strOfNums
  simp only [List.map_map]
  apply List.map_congr_left
  intro i hi
  have := Aid.u8_of (h i (List.mem_range.1 hi))
  simp only [Function.comp]
  congr 1
  simp
  omega
theorem conv_run (a : Option Addr) (n c : Nat) (Z : Nat → Int) (B : Nat) (w w0 : World) (ho : w0.ownsRow B 5 1 (.slice a n c) n ((List.range n).map fun i => Value.int .u8 (Z i))) (hs : Fsl w a n (fun i => .int .u8 (Z i))) :
    (convert 22 9 (.slice a n c)).run Try.prog w = .ok (.string (strOfNums ((List.range n).map Z))) w := by
  rcases ho.2 with ⟨e, rfl⟩ | ⟨g, cap, cur, e, _⟩
  · simp only [Value.slice.injEq] at e
    obtain ⟨rfl, _, rfl⟩ := e
    exact run_convert_bytes_nil w 22 5 Try.underlying22 Try.underlying5 0 0 9 Try.underlying9
  · simp only [Value.slice.injEq] at e
    obtain ⟨rfl, _, rfl⟩ := e
    refine run_convert_bytes_arg w 22 5 Try.underlying22 Try.underlying5 g 0 n c _ (by simp) (fun i hi => ?_) 9 Try.underlying9
    rw [hs.cell i hi]
    simp [hi]
theorem strOfNums_size (l : List Int) : (strOfNums l).size = l.length := by
  show (strOfNums l).data.size = _
  simp [strOfNums]
theorem cat_at (Z0 Z1 : Nat → Int) (n0 n1 : Nat) : ∀ i, i < n0 + n1 → ((List.range n0).map (fun i => Value.int .u8 (Z0 i)) ++ (List.range n1).map (fun i => Value.int .u8 (Z1 i))).getD i undef = .int .u8 (if i < n0 then Z0 i else Z1 (i - n0)) := by
  intro i hi
  rw [List.getD_eq_getElem?_getD]
  by_cases h : i < n0
  · rw [List.getElem?_append_left (by simpa using h), if_pos h]
    simp [h]
  · rw [List.getElem?_append_right (by simpa using h), if_neg h]
    simp only [List.length_map, List.length_range]
    rw [List.getElem?_map, List.getElem?_range (by omega)]
    rfl
set_option maxRecDepth 100000 in
set_option maxHeartbeats 4000000 in
theorem main (a0 : Option Addr) (n0 c0 : Nat) (Z0 : Nat → Int) (a1 : Option Addr) (n1 c1 : Nat) (Z1 : Nat → Int) (w : World) (h0 : Fsl w a0 n0 (fun i => .int .u8 (Z0 i))) (h1 : Fsl w a1 n1 (fun i => .int .u8 (Z1 i)))
    (q0 : ∀ i, i < n0 → (Lit.int .u8 (Z0 i)).wf = true) (q1 : ∀ i, i < n1 → (Lit.int .u8 (Z1 i)).wf = true) :
    Calls Try.prog 4 #[.slice a0 n0 c0, .slice a1 n1 c1] w fun e w' => e = .returned (.bool true) ∧ Below w.heap.size w w' := by
  have H0 := Lib.hid h0
  have H1 := Lib.hid h1
  have HQ := Lib.hid q1
  clear h0 h1 q0 q1
  go_enter Try.func4, Try.ntmps4
  go_wp2_with fail
  refine (zb a0 n0 c0 a1 n1 c1 _).mono ?_
  rintro e w ⟨rfl, v, rfl⟩
  cases v
  · go_wp2_with fail
    go_ret
    exact ⟨rfl, Below.refl _ _⟩
  by_cases g0 : (1048576 : Int) < (n0 : Int)
  · go_wp2_with fail
    go_ret
    exact ⟨rfl, Below.refl _ _⟩
  by_cases g1 : (1048576 : Int) < (n1 : Int)
  · go_wp2_with fail
    go_ret
    exact ⟨rfl, Below.refl _ _⟩
  by_cases g2 : (1048576 : Int) < (n0 : Int) + (n1 : Int)
  · go_wp2_with fail
    go_ret
    exact ⟨rfl, Below.refl _ _⟩
  go_wp2_with fail
  refine (clone a0 n0 c0 Z0 w H0.out (by omega)).mono ?_
  intro e w1 hcop
  obtain ⟨b0, k0, rfl, o0, l0, s0, z0⟩ := Cop.owns hcop (by omega)
  have L1 := Lib.hid l0
  have S1 := Lib.hid s0
  clear hcop o0 l0 s0 z0
  go_wp2_with fail
  refine (clone a1 n1 c1 Z1 w1 (H1.out.below L1.out) (by omega)).mono ?_
  intro e w2 hcop
  obtain ⟨b1, k1, rfl, o1, l1, s1, z1⟩ := Cop.owns hcop (by omega)
  have L2 := Lib.hid l1
  have S2 := Lib.hid s1
  have O2 := Lib.hid o1
  have N2 := Lib.hid z1
  clear hcop o1 l1 s1 z1
  go_wp2_with fail
  refine (clone b0 n0 k0 Z0 w2 (S1.out.below L2.out) (by omega)).mono ?_
  intro e w3 hcop
  obtain ⟨b2, k2, rfl, o2, l2, s2, z2⟩ := Cop.owns hcop (by omega)
  have L3 := Lib.hid l2
  have O3 := Lib.hid o2
  clear hcop o2 l2 s2 z2
  go_wp2_with fail
  refine (np17 b2 n0 k2 false false w3).mono ?_
  rintro e w4 ⟨rfl, cs1, hw4, hcs1⟩
  have W4 := Lib.hid hw4
  have C4 := Lib.hid hcs1
  clear hw4 hcs1
  have L4 : Hid (Below w3.heap.size w3 w4) := Lib.hid (by rw [W4.out]; exact (Below.refl _ _).alloc (Nat.le_refl _) _)
  have Y4 : Hid (w4.heap.size = w3.heap.size + 1) := Lib.hid (by rw [W4.out]; simp)
  go_wp2_with fail
  refine (clone b0 n0 k0 Z0 w4 (((S1.out.below L2.out).below L3.out).below L4.out) (by omega)).mono ?_
  intro e w5 hcop
  obtain ⟨b3, k3, rfl, o3, l3, s3, z3⟩ := Cop.owns hcop (by omega)
  have L5 := Lib.hid l3
  have O5 := Lib.hid o3
  clear hcop o3 l3 s3 z3
  go_wp2_with fail
  refine (np17 b3 n0 k3 false false w5).mono ?_
  rintro e w6 ⟨rfl, cs2, hw6, hcs2⟩
  have W6 := Lib.hid hw6
  have C6 := Lib.hid hcs2
  clear hw6 hcs2
  have L6 : Hid (Below w5.heap.size w5 w6) := Lib.hid (by rw [W6.out]; exact (Below.refl _ _).alloc (Nat.le_refl _) _)
  have Y6 : Hid (w6.heap.size = w5.heap.size + 1) := Lib.hid (by rw [W6.out]; simp)
  have x1 := L1.out.size
  have x2 := L2.out.size
  have x3 := L3.out.size
  have x4 : w3.heap.size + 1 ≤ w4.heap.size := by have := Y4.out; omega
  have x5 := L5.out.size
  have x6 : w5.heap.size + 1 ≤ w6.heap.size := by have := Y6.out; omega
  have C46 : Hid (Chg (fun _ => False) w4 w6) := Lib.hid (Chg.trans (Chg.of_below L5.out (fun i h1 h2 => by omega)) (Chg.of_below L6.out (fun i h1 h2 => by omega)))
  have C36 : Hid (Chg (fun _ => False) w3 w6) := Lib.hid (Chg.trans (Chg.of_below L4.out (fun i h1 h2 => by omega)) C46.out)
  have C56 : Hid (Chg (fun _ => False) w5 w6) := Lib.hid (Chg.of_below L6.out (fun i h1 h2 => by omega))
  have p1c : Hid (w6.cell? ⟨w3.heap.size, 9, none⟩ = some (.slice b2 n0 k2)) := Lib.hid (C46.out.cell (by rw [W4.out]; exact Np.cell C4.out) (fun e => e))
  have p1f : Hid (w6.frozen? ⟨w3.heap.size, 9, none⟩ = false) := Lib.hid ((C46.out.frozen (by show w3.heap.size < _; omega) (fun e => e)).trans (by rw [W4.out]; exact Np.frozen))
  have p2c : Hid (w6.cell? ⟨w5.heap.size, 9, none⟩ = some (.slice b3 n0 k3)) := Lib.hid (by rw [W6.out]; exact Np.cell C6.out)
  have p2f : Hid (w6.frozen? ⟨w5.heap.size, 9, none⟩ = false) := Lib.hid (by rw [W6.out]; exact Np.frozen)
  have d1 := O3.out.lt
  have D1 := Lib.hid d1
  have d2 := O5.out.lt
  have D2 := Lib.hid d2
  clear d1 d2
  have P1 : Hid (w6.ownsRow w.heap.size 5 1 (.slice b2 n0 k2) ((List.range n0).map fun i => Value.int .u8 (Z0 i)).length ((List.range n0).map fun i => Value.int .u8 (Z0 i))) := Lib.hid (by
    rw [List.length_map, List.length_range]
    exact C36.out.owns (owns_mono O3.out (by omega)) (fun k _ e => e))
  have P2 : Hid (w6.ownsRow w.heap.size 5 1 (.slice b3 n0 k3) ((List.range n0).map fun i => Value.int .u8 (Z0 i)).length ((List.range n0).map fun i => Value.int .u8 (Z0 i))) := Lib.hid (by
    rw [List.length_map, List.length_range]
    exact C56.out.owns (owns_mono O5.out (by omega)) (fun k _ e => e))
  have S6 : Hid (Fsl w6 b1 n1 (fun i => .int .u8 (Z1 i))) := Lib.hid (((((S2.out.below L3.out)).below L4.out).below L5.out).below L6.out)
  have BB : Hid (Below w.heap.size w w6) := Lib.hid ((((((L1.out.trans (L2.out.mono x1))).trans (L3.out.mono (by omega))).trans (L4.out.mono (by omega))).trans (L5.out.mono (by omega))).trans (L6.out.mono (by omega)))
  go_wp2_with fail
  refine (print18 w3.heap.size w.heap.size (.slice b2 n0 k2) ((List.range n0).map fun i => Value.int .u8 (Z0 i)) b1 n1 k1 (fun i => .int .u8 (Z1 i)) w6 p1c.out p1f.out ?_ P1.out (by omega) (by simp; omega) S6.out N2.out (fun _ _ => rfl)).mono ?_
  · exact fun e => by have := D1.out _ e; omega
  rintro e w7 ⟨rfl, v1, c1', f1', o1', g1', m1'⟩
  have Q1 := Lib.hid c1'
  have Q2 := Lib.hid o1'
  have Q3 := Lib.hid g1'
  have Q4 := Lib.hid m1'
  have x7 := g1'.size
  clear c1' f1' o1' g1' m1'
  have S7 : Hid (Fsl w7 b1 n1 (fun i => .int .u8 (Z1 i))) := Lib.hid (S6.out.belowB (B := w2.heap.size) (fun x hx => by
    subst hx
    exact (O2.out.lt x.block rfl).2) (Q3.out.below (by omega) (fun i hi => by
    rcases hi with rfl | hi
    · omega
    · exact (D1.out i hi).1)))
  have hcv := conv_run b1 n1 k1 Z1 _ w7 w2 O2.out S7.out
  go_wp2_with fail
  clear hcv
  refine (print19 w5.heap.size w.heap.size (.slice b3 n0 k3) ((List.range n0).map fun i => Value.int .u8 (Z0 i)) (strOfNums ((List.range n1).map Z1)) w7 ?_ ?_ ?_ ?_ (by omega) (by simp [strOfNums_size]; omega)).mono ?_
  · exact Q3.out.cell p2c.out (fun e => by
      rcases e with e | e
      · have e : w5.heap.size = w3.heap.size := e
        omega
      · have := D1.out _ e
        have h2 : w5.heap.size < w3.heap.size := this.2
        omega)
  · rw [Q3.out.frozen (a := ⟨w5.heap.size, 9, none⟩) (by show w5.heap.size < _; omega) (fun e => by
      rcases e with e | e
      · have e : w5.heap.size = w3.heap.size := e
        omega
      · have := D1.out _ e
        have h2 : w5.heap.size < w3.heap.size := this.2
        omega)]
    exact p2f.out
  · exact fun e => by have := D2.out _ e; omega
  · exact Q3.out.owns P2.out (fun k hk e => by
      have h5 := D2.out k hk
      rcases e with e | e
      · omega
      · have := D1.out _ e
        omega)
  rintro e w8 ⟨rfl, v2, c2', f2', o2', g2', m2'⟩
  have R1 := Lib.hid c2'
  have R2 := Lib.hid o2'
  have R3 := Lib.hid g2'
  have x8 := g2'.size
  clear c2' f2' o2' g2' m2'
  obtain ⟨e1, t1, hv1, _⟩ := owns_slice Q2.out
  subst hv1
  obtain ⟨e2, t2, hv2, _⟩ := owns_slice R2.out
  subst hv2
  have Q1' : Hid (w8.cell? ⟨w3.heap.size, 9, none⟩ = _) := Lib.hid (R3.out.cell Q1.out (fun e => by
      rcases e with e | e
      · have e : w3.heap.size = w5.heap.size := e
        omega
      · have := D2.out _ e
        have h2 : w4.heap.size ≤ w3.heap.size := this.1
        omega))
  have Q2' := Lib.hid (R3.out.owns Q2.out (fun k hk e => by
      rcases Q4.out with q | q
      · rw [q] at hk
        have h3 := D1.out k hk
        rcases e with e | e
        · omega
        · have := D2.out _ e
          omega
      · have h3 := q k hk
        rcases e with e | e
        · omega
        · have := D2.out _ e
          omega))
  have HE := strCells_of Z1 n1 HQ.out
  have R2' : Hid (w8.ownsRow w.heap.size 5 1 (.slice e2 (n0 + n1) t2) (n0 + n1) ((List.range n0).map (fun i => Value.int .u8 (Z0 i)) ++ (List.range n1).map (fun i => Value.int .u8 (Z1 i)))) := by
    have := R2.out
    rw [HE] at this
    simpa using Lib.hid this
  have Q2'' : Hid (w8.ownsRow w.heap.size 5 1 (.slice e1 (n0 + n1) t1) (n0 + n1) ((List.range n0).map (fun i => Value.int .u8 (Z0 i)) ++ (List.range n1).map (fun i => Value.int .u8 (Z1 i)))) := by
    simpa using Q2'
  have hlen1 : ((List.range n0).map (fun i => Value.int .u8 (Z0 i)) ++ (List.range n1).map (fun i => Value.int .u8 (Z1 i))).length = n0 + n1 := by simp
  have hlen2 : ((List.range n0).map (fun i => Value.int .u8 (Z0 i)) ++ Lib.strCells (strOfNums ((List.range n1).map Z1))).length = n0 + n1 := by rw [HE]; simp
  have Q5 : Hid (w8.cell? ⟨w3.heap.size, 9, none⟩ = some (.slice e1 (n0 + n1) t1)) := by have := Q1'.out; rw [hlen1] at this; exact Lib.hid this
  have R5 : Hid (w8.cell? ⟨w5.heap.size, 9, none⟩ = some (.slice e2 (n0 + n1) t2)) := by have := R1.out; rw [hlen2] at this; exact Lib.hid this
  have BF : Hid (Below w.heap.size w w8) := Lib.hid ((BB.out.trans (Q3.out.below (by omega) (fun i hi => by
    rcases hi with rfl | hi
    · omega
    · have := (D1.out i hi).1; omega))).trans (R3.out.below (by omega) (fun i hi => by
    rcases hi with rfl | hi
    · omega
    · have := (D2.out i hi).1; omega)))
  have F1 : Hid (Fsl w8 e1 (n0 + n1) (fun i => .int .u8 (if i < n0 then Z0 i else Z1 (i - n0)))) := Lib.hid ((owns_fsl Q2''.out).congr (cat_at Z0 Z1 n0 n1))
  have F2 : Hid (Fsl w8 e2 (n0 + n1) (fun i => .int .u8 (if i < n0 then Z0 i else Z1 (i - n0)))) := Lib.hid ((owns_fsl R2'.out).congr (cat_at Z0 Z1 n0 n1))
  clear HE hlen1 hlen2
  go_wp2_with fail
  refine (js21 _ _ _ _ _ Q5.out).mono ?_
  rintro e w8 ⟨rfl, rfl⟩
  go_wp2_with fail
  refine (js21 _ _ _ _ _ R5.out).mono ?_
  rintro e w8 ⟨rfl, rfl⟩
  go_wp2_with fail
  refine (eq20 e1 e2 (n0 + n1) t1 t2 (fun i => if i < n0 then Z0 i else Z1 (i - n0)) _ F1.out F2.out (by omega)).mono ?_
  rintro e w9 ⟨rfl, hb9⟩
  have B9 := Lib.hid hb9
  clear hb9
  go_wp2_with fail
  go_ret
  exact ⟨rfl, BF.out.trans (B9.out.mono (by omega))⟩

set_option maxHeartbeats 2000000 in
theorem walk (a0 : Option Addr) (len0 cap0 : Nat) (z0 : List Int) (a1 : Option Addr) (len1 cap1 : Nat) (z1 : List Int) (w : World) (w0 : Aid.IsRow .u8 w a0 len0 cap0 z0) (w1 : Aid.IsRow .u8 w a1 len1 cap1 z1) :
    Calls Try.prog 4 #[.slice a0 len0 cap0, .slice a1 len1 cap1] w fun e w' => e = .returned (.bool true) ∧ Below w.heap.size w w' := by
  obtain ⟨Z0, h0, q0, _, _⟩ := Fl.of_ints w0
  obtain ⟨Z1, h1, q1, _, _⟩ := Fl.of_ints w1
  exact main a0 len0 cap0 Z0 a1 len1 cap1 Z1 w h0 h1 q0 q1

set_option maxRecDepth 100000 in
theorem lifted (os : Os) (started : os.Started) (H : Type) (enc : TypeId × Value → H) :
    ReturnsInHanded {} Try.checked os 4 .any (Rows.fnPrintBytesAgreesWithPrintSpec.pre6 enc Try.prog Try.f4 Rows.fnPrintBytesAgreesWithPrintRow.domain false) (Rows.fnPrintBytesAgreesWithPrintSpec.post enc Try.prog Try.f4 false true false false) := by
  refine returnsInHanded_of_change (C := Try.checked) own started (by kernel_rfl) Try.func4
    (ChangeSpec.witness6 (enc := enc) (C := Try.checked) false ⟨#[], #[.slice none 0 0, .slice none 0 0], []⟩ 8 (by kernel_rfl) (by kernel_rfl) (by kernel_rfl) (by kernel_rfl)) ?_
  intro W base args ds gs before hval0 hW hcnd _
  have hval : ∀ (j : Nat) t v, Try.f4.params[j]? = some t → args[j]? = some v → Value.okWide Try.prog W .any base t v := hval0
  have hW' := hW
  obtain ⟨p, q, hA0, hV, rfl, hfz, hnd⟩ := hW
  have hA : DataW.TrodAll enc Try.prog W 0 (fun _ => true) true Try.f4.params.toList args.toList ds p := hA0
  rw [Try.params4] at hA hval
  obtain ⟨v0, vs0, d0, ds0, p0, q0, hargs, rfl, rfl, h0, r0⟩ := trodAll_cons hA
  obtain ⟨v1, vs1, d1, ds1, p1, q1, rfl, rfl, rfl, h1, r1⟩ := trodAll_cons r0
  obtain ⟨rfl, rfl, rfl⟩ := trodAll_nil r1
  obtain rfl : args = #[v0, v1] := by cases args; simp_all
  obtain ⟨rfl, rfl⟩ := trodVars_none hV
  obtain ⟨a0, len0, cap0, rfl⟩ := okWide_slice Try.underlying22 (hval 0 22 v0 rfl rfl)
  have k0 := h0
  have lt0 : ∀ x ∈ p0, x.block < W.heap.size := by obtain ⟨m, hm⟩ := k0; exact DataW.trod_lt m _ _ _ hm
  obtain ⟨z0, w0⟩ := Aid.open_row Try.underlying22 Try.underlying5 (by kernel_rfl) h0
  obtain ⟨a1, len1, cap1, rfl⟩ := okWide_slice Try.underlying22 (hval 1 22 v1 rfl rfl)
  have k1 := h1
  have lt1 : ∀ x ∈ p1, x.block < W.heap.size := by obtain ⟨m, hm⟩ := k1; exact DataW.trod_lt m _ _ _ hm
  obtain ⟨z1, w1⟩ := Aid.open_row Try.underlying22 Try.underlying5 (by kernel_rfl) h1
  clear hA0 hval0
  refine (walk a0 len0 cap0 z0 a1 len1 cap1 z1 W w0 w1).mono fun e W' ⟨he, bel⟩ => ?_
  subst he
  exact ⟨_, rfl, _, _, _, [], _, [], hW', trodAll_mk1 (shut_bool Try.underlying4 _), (trodAll_cons_mk (Below.trod laidOut (by kernel_rfl) (of_decide_eq_true (by kernel_rfl)) k0 bel lt0) (trodAll_cons_mk (Below.trod laidOut (by kernel_rfl) (of_decide_eq_true (by kernel_rfl)) k1 bel lt1) trodAll_mk0)), rfl, bel.frame _, fun h => by cases h⟩

theorem joined : joinedFacts Try.prog 4 Try.f4 Rows.fnPrintBytesAgreesWithPrintSpec Rows.fnPrintBytesAgreesWithPrintRow = true := by
  unfold joinedFacts
  rw [Facts.enter, Facts.lifts, Facts.make]
  kernel_rfl

theorem over : Rows.fnPrintBytesAgreesWithPrintRow.holds Try.pinned (OpenSpec.ofChange Rows.fnPrintBytesAgreesWithPrintSpec) :=
  OpenClaim.holds_of_wide 4 Try.f4 rfl rfl rfl rfl rfl rfl rfl ⟨rfl, rfl, rfl, rfl, rfl⟩ rfl rfl rfl rfl rfl (by kernel_rfl) Try.func4 joined
    (of_decide_eq_true (by kernel_rfl)) (by unfold Func.isWrapper; first | (rw [if_pos (by decide +kernel)]; kernel_rfl) | (rw [if_neg (by decide +kernel)]; exact ⟨rfl, rfl⟩))
    (fun os started H enc _ => lifted os started H enc)

theorem proved : Rows.FnPrintBytesAgreesWithPrintSaid :=
  over
#print axioms proved
end Go.Proofs.Ytllnkckhafdikab.fnPrintBytesAgreesWithPrint
