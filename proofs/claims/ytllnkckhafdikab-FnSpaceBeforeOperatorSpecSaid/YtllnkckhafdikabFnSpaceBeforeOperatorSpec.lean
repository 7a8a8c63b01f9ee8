/- The space before an operator is printed exactly where gluing the two operators would change the tokens. No condition. -/
import Derived.Test.YtllnkckhafdikabRows
import Derived.WalkKit
import Derived.ProofKit
import Derived.OpenShut
import Derived.ShutString
import Derived.Test.YtllnkckhafdikabFacts
import Derived.Test.YtllnkckhafdikabAid
import Derived.Test.YtllnkckhafdikabFl
import Derived.Test.YtllnkckhafdikabPb
import Derived.Laws.BytesArg
import Derived.OwnWalk
import Derived.WalkSpells
import Derived.LoopTactic
import Derived.RegionTactic
import Derived.Outline
import Derived.Deep.QuietTactic
import Derived.BigQuiet
import Derived.IntWalk
import Derived.Test.YtllnkckhafdikabRg
import Derived.PlainAid
import Derived.Test.YtllnkckhafdikabStr
namespace Go.Proofs.Ytllnkckhafdikab.fnSpaceBeforeOperatorSpec
open Go.ChangeShapes Go.WideShapes Go.ChangeAt Go.RowKit
open Go.ChangeMaps (open_string shut_string)
set_option linter.unusedVariables false

theorem own : ownKnob Try.prog.godebug = none := by kernel_rfl
theorem laidOut : laidOutB Try.prog = true := by kernel_rfl

open Fl Pb PlainAid
theorem info5 : (Try.prog.info? 5).map (fun i => (i.zero, i.size, i.bytes)) = some (some (.int .u8 0), 1, 1) := by kernel_rfl
def Prt (w : World) (pb B : Nat) (v : Value) (ys : List Value) (e : Ending) (w' : World) : Prop :=
  e = .returned (.tuple #[]) ∧ ∃ v', w'.cell? ⟨pb, 9, none⟩ = some v' ∧ w'.frozen? ⟨pb, 9, none⟩ = false ∧ w'.ownsRow B 5 1 v' ys.length ys ∧ Chg (fun k => k = pb ∨ v.ownBlock = some k) w w' ∧ Same w v v'
theorem Prt.mk {w w1 : World} {pb B : Nat} {v v' : Value} {ys : List Value} (hc : w.cell? ⟨pb, 9, none⟩ = some v) (hf : w.frozen? ⟨pb, 9, none⟩ = false) (hne : v.ownBlock ≠ some pb)
    (ho : w1.ownsRow B 5 1 v' ys.length ys) (hg : w.grownBy w1 v.ownBlock) (hs : Same w v v') : Prt w pb B v ys (.returned (.tuple #[])) (w1.setCell ⟨pb, 9, none⟩ v') := by
  have hpb : pb < w.heap.size := World.block_lt_of_cell? w _ hc
  have c1 := hg.cell hc (fun e => hne e.symm)
  have f1 : w1.frozen? ⟨pb, 9, none⟩ = false := by rw [World.frozen?_of_block (hg.block pb hpb fun e => hne e.symm)]; exact hf
  refine ⟨rfl, v', World.cell?_setCell_same _ _ _ c1, by simpa using f1, ?_, ?_, hs⟩
  · have hc2 : Chg (fun k => k = pb) w1 (w1.setCell ⟨pb, 9, none⟩ v') := Chg.setCell (S := fun k => k = pb) (Chg.refl _ _) (.inl rfl) _
    refine hc2.owns ho fun k hk => ?_
    rcases hs with hs | hs
    · rw [hs] at hk
      exact fun e => hne (by rw [hk, e])
    · have := hs k hk
      omega
  · exact ((Chg.of_grown hg).mono fun i _ e => .inr e).setCell (.inl (.inl rfl)) _
set_option maxRecDepth 100000 in
theorem print29 (pb B : Nat) (v : Value) (xs : List Value) (s : ByteArray) (w : World) (hc : w.cell? ⟨pb, 9, none⟩ = some v) (hf : w.frozen? ⟨pb, 9, none⟩ = false) (hne : v.ownBlock ≠ some pb)
    (ho : w.ownsRow B 5 1 v xs.length xs) (hB : B ≤ w.heap.size) (hs : xs.length + s.size ≤ 4194304) :
    Calls Try.prog 29 #[.pointer (some ⟨pb, 0, none⟩), .string s] w (Prt w pb B v (xs ++ Lib.strCells s)) := by
  obtain ⟨i0, hi, hz0, hz1, hz2⟩ := info_parts info5
  have HR := Lib.hid (app_string (P := Try.prog) (ty := 22) w Try.underlying22 Try.underlying9 hi hz0 hz1 hz2 ho s (by unfold maxLen; omega) (by omega) hB)
  have HC := Lib.hid hc
  have HF := Lib.hid hf
  have HN := Lib.hid hne
  have hpb : pb < w.heap.size := World.block_lt_of_cell? w _ hc
  clear ho hne hi hz0 hz1 hz2 i0
  go_enter Try.func29, Try.ntmps29
  go_wp2_with (at_builtin; refine wpList_app rfl _ _ #[22, 9] rfl rfl rfl HR.out ?_; rintro v' w1 ⟨ho', hg, hsm⟩; obtain ⟨q1, q2, rfl, _⟩ := owns_slice ho'; have c1 := hg.cell HC.out (fun e => HN.out e.symm); have f1 : w1.frozen? ⟨pb, 9, none⟩ = false := (World.frozen?_of_block (hg.block pb hpb fun e => HN.out e.symm)).trans HF.out; have HO := Lib.hid ho'; have HG := Lib.hid hg; have HS := Lib.hid hsm; clear ho' hg hsm)
  go_end0
  exact Prt.mk HC.out HF.out HN.out (by rw [List.length_append, Lib.strCells_length]; exact HO.out) HG.out HS.out
theorem Cop.owns {w w' : World} {a : Option Addr} {n : Nat} {t : TypeId} {V : Nat → Value} {e : Ending} (h : Cop w a n t V e w') (hm : n ≤ 4194304) :
    ∃ a' c', e = .returned (.slice a' n c') ∧ w'.ownsRow w.heap.size t 1 (.slice a' n c') n ((List.range n).map V) ∧ Below w.heap.size w w' ∧ Fsl w' a' n V ∧ (a' = none → c' = 0) := by
  obtain ⟨a', c', rfl, hc, hs, hb, hi, h2⟩ := h
  refine ⟨a', c', rfl, ⟨by simp, ?_⟩, hb, hs, ?_⟩
  · rcases h2 with ⟨rfl, rfl⟩ | ⟨b, hge, rfl, hblk, hcn⟩
    · exact .inl ⟨by rw [hs.none_], hs.none_⟩
    · subst hcn
      exact .inr ⟨b, _, _, rfl, hge, hblk, Nat.le_refl _, by unfold maxLen; omega, by simp, by rw [Nat.mul_one]; exact List.take_of_length_le (by simp)⟩
  · rcases h2 with ⟨rfl, rfl⟩ | ⟨b, hge, rfl, hblk, rfl⟩
    · exact fun _ => rfl
    · exact fun e => by cases e
theorem info85 : (Try.prog.info? 85).map (fun i => match i.zero with | some (.agg cs) => cs.size | _ => 0) = some 139 := by kernel_rfl
theorem zero85 : ∃ Z : Array Value, (∀ w : World, (zeroValue 85).run Try.prog w = .ok (.agg Z) w) ∧ Z.size = 139 := by
  have h := info85
  cases hi : Try.prog.info? 85 with
  | none => rw [hi] at h; cases h
  | some i =>
    rw [hi] at h
    simp only [Option.map_some, Option.some.injEq] at h
    split at h
    · rename_i cs hz
      exact ⟨cs, fun w => by simp [zeroValue, typeInfo, hi, hz], h⟩
    · cases h
def opc (p : Nat) : Int := [11, 0, 8, 10, 12, 1, 7, 9, 19, 17, 3, 2, 13, 16, 31, 36].getD p 36
def txt (p : Nat) : ByteArray := [(⟨#[43]⟩ : ByteArray), (⟨#[43]⟩ : ByteArray), (⟨#[43, 43]⟩ : ByteArray), (⟨#[43, 43]⟩ : ByteArray), (⟨#[45]⟩ : ByteArray), (⟨#[45]⟩ : ByteArray), (⟨#[45, 45]⟩ : ByteArray), (⟨#[45, 45]⟩ : ByteArray), (⟨#[62]⟩ : ByteArray), (⟨#[60]⟩ : ByteArray), (⟨#[33]⟩ : ByteArray), (⟨#[126]⟩ : ByteArray), (⟨#[42]⟩ : ByteArray), (⟨#[42, 42]⟩ : ByteArray), (⟨#[124, 124]⟩ : ByteArray), (⟨#[44]⟩ : ByteArray)].getD p ⟨#[44]⟩
def pf (p : Nat) : Bool := p == 3 || p == 7
theorem op9 (p : Nat) (hp : p ≤ 15) (w : World) : Calls Try.prog 9 #[.int .i64 p] w fun e w' => e = .returned (.int .u8 (opc p)) ∧ w' = w := by
  have hc : p = 0 ∨ p = 1 ∨ p = 2 ∨ p = 3 ∨ p = 4 ∨ p = 5 ∨ p = 6 ∨ p = 7 ∨ p = 8 ∨ p = 9 ∨ p = 10 ∨ p = 11 ∨ p = 12 ∨ p = 13 ∨ p = 14 ∨ p = 15 := by omega
  clear hp
  rcases hc with rfl | rfl | rfl | rfl | rfl | rfl | rfl | rfl | rfl | rfl | rfl | rfl | rfl | rfl | rfl | rfl
  all_goals (go_enter Try.func9, Try.ntmps9; go_wp2_with fail; go_ret; exact ⟨rfl, rfl⟩)
theorem tx26 (p : Nat) (hp : p ≤ 15) (w : World) : Calls Try.prog 26 #[.int .i64 p] w fun e w' => e = .returned (.string (txt p)) ∧ w' = w := by
  have hc : p = 0 ∨ p = 1 ∨ p = 2 ∨ p = 3 ∨ p = 4 ∨ p = 5 ∨ p = 6 ∨ p = 7 ∨ p = 8 ∨ p = 9 ∨ p = 10 ∨ p = 11 ∨ p = 12 ∨ p = 13 ∨ p = 14 ∨ p = 15 := by omega
  clear hp
  rcases hc with rfl | rfl | rfl | rfl | rfl | rfl | rfl | rfl | rfl | rfl | rfl | rfl | rfl | rfl | rfl | rfl
  all_goals (go_enter Try.func26, Try.ntmps26; go_wp2_with fail; go_ret; exact ⟨rfl, rfl⟩)
theorem pf27 (p : Nat) (hp : p ≤ 15) (w : World) : Calls Try.prog 27 #[.int .i64 p] w fun e w' => e = .returned (.bool (pf p)) ∧ w' = w := by
  have hc : p = 0 ∨ p = 1 ∨ p = 2 ∨ p = 3 ∨ p = 4 ∨ p = 5 ∨ p = 6 ∨ p = 7 ∨ p = 8 ∨ p = 9 ∨ p = 10 ∨ p = 11 ∨ p = 12 ∨ p = 13 ∨ p = 14 ∨ p = 15 := by omega
  clear hp
  rcases hc with rfl | rfl | rfl | rfl | rfl | rfl | rfl | rfl | rfl | rfl | rfl | rfl | rfl | rfl | rfl | rfl
  all_goals (go_enter Try.func27, Try.ntmps27; go_wp2_with fail; go_ret; exact ⟨rfl, rfl⟩)
def Np8 (w : World) (js : Value) (o e : Int) (r : Ending) (w' : World) : Prop := r = .returned (.pointer (some ⟨w.heap.size, 0, none⟩)) ∧ ∃ cs : Array Value, w' = w.alloc (.cells cs 85) ∧ cs[9]? = some js ∧ cs[137]? = some (.int .u8 o) ∧ cs[65]? = some (.int .i64 e)
set_option maxRecDepth 100000 in
theorem np8 (a : Option Addr) (n c : Nat) (o e : Int) (w : World) : Calls Try.prog 8 #[.slice a n c, .int .u8 o, .int .i64 e] w (Np8 w (.slice a n c) o e) := by
  obtain ⟨Z, hz, hsz⟩ := zero85
  go_enter Try.func8, Try.ntmps8
  go_wp2_with fail
  go_ret
  exact ⟨rfl, _, rfl, by simp [hsz], by simp [hsz], by simp [hsz]⟩
theorem np_cell {w : World} {i : Nat} {v : Value} {cs : Array Value} (h : cs[i]? = some v) : (w.alloc (.cells cs 85)).cell? ⟨w.heap.size, i, none⟩ = some v := by
  rw [cell_of_row _ w.heap.size i cs 85 _ (heap_alloc_new w _), h]
theorem np_frozen {w : World} {i : Nat} {cs : Array Value} : (w.alloc (.cells cs 85)).frozen? ⟨w.heap.size, i, none⟩ = false := frozen_of_row _ w.heap.size i cs 85 (heap_alloc_new w _)
theorem js11 (pb : Nat) (a : Option Addr) (n c : Nat) (w : World) (hc : w.cell? ⟨pb, 9, none⟩ = some (.slice a n c)) : Calls Try.prog 11 #[.pointer (some ⟨pb, 0, none⟩)] w fun e w' => e = .returned (.slice a n c) ∧ w' = w := by
  go_enter Try.func11, Try.ntmps11
  go_wp2_with fail
  go_ret
  exact ⟨rfl, rfl⟩
def Bl (w : World) (e : Ending) (w' : World) : Prop := w' = w ∧ ∃ v, e = .returned (.bool v)
/-- A row that is owned, as a slice by index. -/
theorem owns_fsl {w : World} {B : Nat} {a : Option Addr} {n c : Nat} {xs : List Value} (h : w.ownsRow B 5 1 (.slice a n c) n xs) : Fsl w a n (fun i => xs.getD i undef) := by
  obtain ⟨hl, h2⟩ := h
  rcases h2 with ⟨e, hn⟩ | ⟨g, cap, cur, e, hg, hb, h3, h4, h5, h6⟩
  · subst hn
    exact Fsl.empty _ _ _
  · simp only [Value.slice.injEq] at e
    obtain ⟨rfl, _, rfl⟩ := e
    refine ⟨(fun e => by cases e), fun i hi => ⟨g, 0, rfl, ?_, ?_⟩⟩
    · by_cases hl : g < w.heap.size
      · exact hl
      · rw [Array.getElem?_eq_none (by omega)] at hb; cases hb
    · rw [Nat.zero_add, cell_of_row w g i cur 5 _ hb]
      have hi2 : i < xs.length := by omega
      have : xs[i]? = cur[i]? := by rw [← h6, List.getElem?_take_of_lt (by omega)]; simp
      rw [← this]
      simp [List.getElem?_eq_getElem hi2]
theorem zb (a0 : Option Addr) (l0 c0 : Nat) (x1 : Int) (x2 : Int) (x3 : Int) (w : World) : Calls Try.prog 6 #[.slice a0 l0 c0, .int .i64 x1, .int .i64 x2, .int .i64 x3] w (Bl w) := by
  by_cases h0 : (1048576 : Int) < (l0 : Int)
  · go_enter Try.func6, Try.ntmps6
    go_wp2_with fail
    go_ret
    exact ⟨rfl, _, rfl⟩
  have e0 : IntKind.i64.wrap ((l0 : Int)) = (l0 : Int) := IntWalk.i64_in _ (by omega)
  go_enter Try.func6, Try.ntmps6
  go_wp2_with fail
  go_ret
  exact ⟨rfl, _, rfl⟩
theorem clone_info : (Try.prog.info? 5).map (fun i => (i.zero, i.size, i.bytes)) = some (some (.int .u8 0), 1, 1) := by kernel_rfl
theorem clone (a : Option Addr) (len cap : Nat) (S : Nat → Int) (w : World) (h : Fsl w a len (fun i => Value.int .u8 (S i))) (hlen : len ≤ 137438953472) :
    Calls Try.prog 7 #[.slice a len cap] w (Cop w a len 5 (fun i => Value.int .u8 (S i))) := by
  have hnil : ∀ w : World, (binOp .eql 22 (.slice a len cap) (.slice none 0 0)).run Try.prog w = .ok (.bool a.isNone) w := fun w => Lib.run_eql_slice_nil w 22 5 _ _ _ _ _ Try.underlying22
  have hmk := run_make_one (P := Try.prog) Try.underlying22 clone_info rfl (by omega) len hlen
  cases a with
  | none =>
    have H := Lib.hid (Cop.nil (t := 5) h)
    go_enter Try.func7, Try.ntmps7
    go_wp2
    go_ret
    exact H.out
  | some x =>
    go_enter Try.func7, Try.ntmps7
    go_wp2
    go_loopw [4] (fun i wr => ∃ k : Nat, k ≤ len ∧ i = .int .i64 k ∧ Fblk wr w.heap.size 5 len (parV (fun i => Value.int .u8 (S i)) (.int .u8 0) k) ∧ Below w.heap.size w wr) (fun i _ => len - (intOf i).toNat)
    case atStart => exact ⟨0, by omega, rfl, by rw [parV_zero]; exact Fblk.made _ _ _ _, (Below.refl _ _).alloc (Nat.le_refl _) _⟩
    case round =>
      obtain ⟨k, hk, rfl, hb, hl⟩ := hrel
      have HB := Lib.hid hb
      by_cases hlt : k < len
      · obtain ⟨b, off, e, hlb, hc⟩ := h.at k hlt
        injection e with e
        subst e
        have hc' : wr.cell? ⟨b, off + k, none⟩ = some (Value.int .u8 (S k)) := by rw [hl.cell (p := ⟨b, off + k, none⟩) hlb]; exact hc
        have hd := hb.cell k hlt
        have hz := hb.frozen k
        have hk2 : (k : Int) < (len : Int) := by omega
        clear hc hb
        go_wp2
        go_roundw
        case rel => exact ⟨k + 1, by omega, by go_num, by rw [← parV_set]; exact HB.out.set k _, hl.setCell (Nat.le_refl _) _⟩
        case measure => simp [intOf]; omega
      · obtain rfl : k = len := by omega
        clear hb
        go_wp2
        go_ret
        exact Cop.mk (HB.out.congr fun i hi => by simp [parV, hi]) hl (Nat.le_refl _)

theorem eq14 (a1 a2 : Option Addr) (n c1 c2 : Nat) (Z : Nat → Int) (w : World) (h1 : Fsl w a1 n (fun i => .int .u8 (Z i))) (h2 : Fsl w a2 n (fun i => .int .u8 (Z i))) (hn : n ≤ 4194304) :
    Calls Try.prog 14 #[.slice a1 n c1, .slice a2 n c2] w fun e w' => e = .returned (.bool true) ∧ Below w.heap.size w w' := by
  go_enter Try.func14, Try.ntmps14
  go_wp2_with fail
  go_loopw [5] (fun i wr => ∃ k : Nat, k ≤ n ∧ i = .int .i64 k ∧ Below w.heap.size w wr) (fun i _ => n - (intOf i).toNat)
  case atStart => exact ⟨0, by omega, rfl, Below.refl _ _⟩
  case round =>
    obtain ⟨k, hk, rfl, hl⟩ := hrel
    by_cases hlt : k < n
    · obtain ⟨b1, o1, e1, hb1, g1⟩ := h1.at k hlt
      subst e1
      obtain ⟨b2, o2, e2, hb2, g2⟩ := h2.at k hlt
      subst e2
      have f1 : wr.cell? ⟨b1, o1 + k, none⟩ = some (.int .u8 (Z k)) := by rw [hl.cell (p := ⟨b1, o1 + k, none⟩) hb1]; exact g1
      have f2 : wr.cell? ⟨b2, o2 + k, none⟩ = some (.int .u8 (Z k)) := by rw [hl.cell (p := ⟨b2, o2 + k, none⟩) hb2]; exact g2
      have hk2 : (k : Int) < (n : Int) := by omega
      have H1 := Lib.hid h1
      have H2 := Lib.hid h2
      clear g1 g2 h1 h2
      go_wp2_with fail
      go_quiet (fail)
      go_wp2_with fail
      go_roundw
      case rel => exact ⟨k + 1, by omega, by go_num, ⟨hl.os, hl.tape, hl.output, hl.size, hl.block⟩⟩
      case measure => simp [intOf]; omega
    · obtain rfl : k = n := by omega
      clear h1 h2
      go_wp2_with fail
      go_ret
      exact ⟨rfl, hl⟩
theorem pre13 (a1 a2 : Option Addr) (m n c1 c2 : Nat) (Z : Nat → Int) (w : World) (hm : n ≤ m) (hm2 : m ≤ 4194304) (h1 : Fsl w a1 n (fun i => .int .u8 (Z i))) (h2 : Fsl w a2 n (fun i => .int .u8 (Z i))) (hn : n ≤ 4194304) :
    Calls Try.prog 13 #[.slice a1 m c1, .slice a2 n c2] w fun e w' => e = .returned (.bool true) ∧ Below w.heap.size w w' := by
  go_enter Try.func13, Try.ntmps13
  go_wp2_with fail
  go_loopw [5] (fun i wr => ∃ k : Nat, k ≤ n ∧ i = .int .i64 k ∧ Below w.heap.size w wr) (fun i _ => n - (intOf i).toNat)
  case atStart => exact ⟨0, by omega, rfl, Below.refl _ _⟩
  case round =>
    obtain ⟨k, hk, rfl, hl⟩ := hrel
    by_cases hlt : k < n
    · obtain ⟨b1, o1, e1, hb1, g1⟩ := h1.at k hlt
      subst e1
      obtain ⟨b2, o2, e2, hb2, g2⟩ := h2.at k hlt
      subst e2
      have f1 : wr.cell? ⟨b1, o1 + k, none⟩ = some (.int .u8 (Z k)) := by rw [hl.cell (p := ⟨b1, o1 + k, none⟩) hb1]; exact g1
      have f2 : wr.cell? ⟨b2, o2 + k, none⟩ = some (.int .u8 (Z k)) := by rw [hl.cell (p := ⟨b2, o2 + k, none⟩) hb2]; exact g2
      have hk2 : (k : Int) < (n : Int) := by omega
      have hk3 : (k : Int) < (m : Int) := by omega
      have H1 := Lib.hid h1
      have H2 := Lib.hid h2
      clear g1 g2 h1 h2
      go_wp2_with fail
      go_quiet (fail)
      go_wp2_with fail
      go_roundw
      case rel => exact ⟨k + 1, by omega, by go_num, ⟨hl.os, hl.tape, hl.output, hl.size, hl.block⟩⟩
      case measure => simp [intOf]; omega
    · obtain rfl : k = n := by omega
      clear h1 h2
      go_wp2_with fail
      go_ret
      exact ⟨rfl, hl⟩
theorem lex2 : (Try.f25.body.bind (Rg.rgn 2)).map (Region.lexB .any) = some true := by kernel_rfl
def lt (n : Nat) (Z : Nat → Int) : Bool := decide (1 < n) && Z (n - 2) == 60
def cB (o q : Int) (l : Bool) : Bool := ((o == 11 || o == 0) && (q == 11 || q == 0 || q == 8)) || ((o == 12 || o == 1) && (q == 12 || q == 1 || q == 7)) || (o == 9 && q == 19) || (o == 3 && q == 7 && l)
def Sp (b : Bool) (w : World) (pb B : Nat) (v : Value) (xs : List Value) (e : Ending) (w' : World) : Prop :=
  (b = true ∧ Prt w pb B v (xs ++ Lib.strCells ⟨#[32]⟩) e w') ∨ (b = false ∧ e = .returned (.tuple #[]) ∧ Chg (fun _ => False) w w')
theorem prt_drewN {w : World} {k pb B : Nat} {v : Value} {ys : List Value} {e : Ending} {w' : World} (h : Prt (w.drewN k) pb B v ys e w') : Prt w pb B v ys e w' := by
  obtain ⟨h1, v', h2, h3, h4, h5, h6⟩ := h
  exact ⟨h1, v', h2, h3, h4, ⟨h5.os, h5.tape, h5.output, h5.size, h5.block⟩, h6⟩
theorem chg_drewN (w : World) (k : Nat) : Chg (fun _ => False) w (w.drewN k) := ⟨rfl, rfl, rfl, Nat.le_refl _, fun _ _ _ => rfl⟩
theorem chg_drewN2 (w : World) (k m : Nat) : Chg (fun _ => False) w ((w.drewN k).drewN m) := ⟨rfl, rfl, rfl, Nat.le_refl _, fun _ _ _ => rfl⟩
set_option maxRecDepth 100000 in
theorem sp_not (pb : Nat) (a : Option Addr) (n c : Nat) (e q : Int) (w : World) (h9 : w.cell? ⟨pb, 9, none⟩ = some (.slice a n c)) (h65 : w.cell? ⟨pb, 65, none⟩ = some (.int .i64 e)) (he : (e == (n : Int)) = false) :
    Calls Try.prog 25 #[.pointer (some ⟨pb, 0, none⟩), .int .u8 q] w fun r w' => r = .returned (.tuple #[]) ∧ Chg (fun _ => False) w w' := by
  go_enter Try.func25, Try.ntmps25
  go_wp2_with fail
  go_big_quiet (fail)
  go_wp2_with fail
  go_end0
  exact ⟨rfl, chg_drewN _ _⟩
set_option maxRecDepth 100000 in
set_option maxHeartbeats 1000000 in
theorem sp_1 (o : Int) (q : Int) (pb B : Nat) (a : Option Addr) (n c : Nat) (xs : List Value) (Z : Nat → Int) (w : World) (h9 : w.cell? ⟨pb, 9, none⟩ = some (.slice a n c)) (hf : w.frozen? ⟨pb, 9, none⟩ = false) (hne : (Value.slice a n c).ownBlock ≠ some pb)
    (ho : w.ownsRow B 5 1 (.slice a n c) xs.length xs) (hB : B ≤ w.heap.size) (hs : xs.length + 1 ≤ 4194304) (h65 : w.cell? ⟨pb, 65, none⟩ = some (.int .i64 n)) (hn : n ≤ 2097152) (hsl : Fsl w a n (fun i => .int .u8 (Z i))) (h137 : w.cell? ⟨pb, 137, none⟩ = some (.int .u8 o)) (eo11 : (o == 11) = false) (eo0 : (o == 0) = false) (eo12 : (o == 12) = false) (eo1 : (o == 1) = false) (eo9 : (o == 9) = false) (eo3 : (o == 3) = false) :
    Calls Try.prog 25 #[.pointer (some ⟨pb, 0, none⟩), .int .u8 q] w (Sp false w pb B (.slice a n c) xs) := by
  clear hne ho hB hsl
  go_enter Try.func25, Try.ntmps25
  go_wp2_with fail
  go_big_quiet (fail)
  go_wp2_with fail
  simp only [List.cons_append, List.nil_append, List.append_eq]
  refine wp_region_quiet_lit (by kernel_rfl) (Rg.lex_of lex2 (by kernel_rfl)) ?_
  repeat (go_big_quiet_step (fail))
  refine wpQuiet_nil ?_
  intro _ hw'
  obtain ⟨nq2, hw''⟩ := hw'
  subst hw''
  go_wp2_with fail
  go_end0
  exact .inr ⟨rfl, rfl, by first | exact chg_drewN _ _ | exact chg_drewN2 _ _ _⟩
set_option maxRecDepth 100000 in
set_option maxHeartbeats 1000000 in
theorem sp_2 (pb B : Nat) (a : Option Addr) (n c : Nat) (xs : List Value) (Z : Nat → Int) (w : World) (h9 : w.cell? ⟨pb, 9, none⟩ = some (.slice a n c)) (hf : w.frozen? ⟨pb, 9, none⟩ = false) (hne : (Value.slice a n c).ownBlock ≠ some pb)
    (ho : w.ownsRow B 5 1 (.slice a n c) xs.length xs) (hB : B ≤ w.heap.size) (hs : xs.length + 1 ≤ 4194304) (h65 : w.cell? ⟨pb, 65, none⟩ = some (.int .i64 n)) (hn : n ≤ 2097152) (hsl : Fsl w a n (fun i => .int .u8 (Z i))) (h137 : w.cell? ⟨pb, 137, none⟩ = some (.int .u8 11)) :
    Calls Try.prog 25 #[.pointer (some ⟨pb, 0, none⟩), .int .u8 11] w (Sp true w pb B (.slice a n c) xs) := by
  have HP := Lib.hid (fun k => print29 pb B (.slice a n c) xs ⟨#[32]⟩ (w.drewN k) h9 hf hne ho hB hs)
  clear hne ho hB hsl
  go_enter Try.func25, Try.ntmps25
  go_wp2_with fail
  go_big_quiet (fail)
  go_wp2_with fail
  simp only [List.cons_append, List.nil_append, List.append_eq]
  refine wp_region_quiet_lit (by kernel_rfl) (Rg.lex_of lex2 (by kernel_rfl)) ?_
  repeat (go_big_quiet_step (fail))
  refine wpQuiet_nil ?_
  intro _ hw'
  obtain ⟨nq2, hw''⟩ := hw'
  subst hw''
  go_wp2_with fail
  refine (HP.out _).mono ?_
  intro e w1 h
  have he := h.1
  have H := Lib.hid h
  subst he
  clear h
  go_wp2_with fail
  go_end0
  exact .inl ⟨rfl, prt_drewN H.out⟩
set_option maxRecDepth 100000 in
set_option maxHeartbeats 1000000 in
theorem sp_3 (pb B : Nat) (a : Option Addr) (n c : Nat) (xs : List Value) (Z : Nat → Int) (w : World) (h9 : w.cell? ⟨pb, 9, none⟩ = some (.slice a n c)) (hf : w.frozen? ⟨pb, 9, none⟩ = false) (hne : (Value.slice a n c).ownBlock ≠ some pb)
    (ho : w.ownsRow B 5 1 (.slice a n c) xs.length xs) (hB : B ≤ w.heap.size) (hs : xs.length + 1 ≤ 4194304) (h65 : w.cell? ⟨pb, 65, none⟩ = some (.int .i64 n)) (hn : n ≤ 2097152) (hsl : Fsl w a n (fun i => .int .u8 (Z i))) (h137 : w.cell? ⟨pb, 137, none⟩ = some (.int .u8 11)) :
    Calls Try.prog 25 #[.pointer (some ⟨pb, 0, none⟩), .int .u8 0] w (Sp true w pb B (.slice a n c) xs) := by
  have HP := Lib.hid (fun k => print29 pb B (.slice a n c) xs ⟨#[32]⟩ (w.drewN k) h9 hf hne ho hB hs)
  clear hne ho hB hsl
  go_enter Try.func25, Try.ntmps25
  go_wp2_with fail
  go_big_quiet (fail)
  go_wp2_with fail
  simp only [List.cons_append, List.nil_append, List.append_eq]
  refine wp_region_quiet_lit (by kernel_rfl) (Rg.lex_of lex2 (by kernel_rfl)) ?_
  repeat (go_big_quiet_step (fail))
  refine wpQuiet_nil ?_
  intro _ hw'
  obtain ⟨nq2, hw''⟩ := hw'
  subst hw''
  go_wp2_with fail
  refine (HP.out _).mono ?_
  intro e w1 h
  have he := h.1
  have H := Lib.hid h
  subst he
  clear h
  go_wp2_with fail
  go_end0
  exact .inl ⟨rfl, prt_drewN H.out⟩
set_option maxRecDepth 100000 in
set_option maxHeartbeats 1000000 in
theorem sp_4 (pb B : Nat) (a : Option Addr) (n c : Nat) (xs : List Value) (Z : Nat → Int) (w : World) (h9 : w.cell? ⟨pb, 9, none⟩ = some (.slice a n c)) (hf : w.frozen? ⟨pb, 9, none⟩ = false) (hne : (Value.slice a n c).ownBlock ≠ some pb)
    (ho : w.ownsRow B 5 1 (.slice a n c) xs.length xs) (hB : B ≤ w.heap.size) (hs : xs.length + 1 ≤ 4194304) (h65 : w.cell? ⟨pb, 65, none⟩ = some (.int .i64 n)) (hn : n ≤ 2097152) (hsl : Fsl w a n (fun i => .int .u8 (Z i))) (h137 : w.cell? ⟨pb, 137, none⟩ = some (.int .u8 11)) :
    Calls Try.prog 25 #[.pointer (some ⟨pb, 0, none⟩), .int .u8 8] w (Sp true w pb B (.slice a n c) xs) := by
  have HP := Lib.hid (fun k => print29 pb B (.slice a n c) xs ⟨#[32]⟩ (w.drewN k) h9 hf hne ho hB hs)
  clear hne ho hB hsl
  go_enter Try.func25, Try.ntmps25
  go_wp2_with fail
  go_big_quiet (fail)
  go_wp2_with fail
  simp only [List.cons_append, List.nil_append, List.append_eq]
  refine wp_region_quiet_lit (by kernel_rfl) (Rg.lex_of lex2 (by kernel_rfl)) ?_
  repeat (go_big_quiet_step (fail))
  refine wpQuiet_nil ?_
  intro _ hw'
  obtain ⟨nq2, hw''⟩ := hw'
  subst hw''
  go_wp2_with fail
  refine (HP.out _).mono ?_
  intro e w1 h
  have he := h.1
  have H := Lib.hid h
  subst he
  clear h
  go_wp2_with fail
  go_end0
  exact .inl ⟨rfl, prt_drewN H.out⟩
set_option maxRecDepth 100000 in
set_option maxHeartbeats 1000000 in
theorem sp_5 (q : Int) (pb B : Nat) (a : Option Addr) (n c : Nat) (xs : List Value) (Z : Nat → Int) (w : World) (h9 : w.cell? ⟨pb, 9, none⟩ = some (.slice a n c)) (hf : w.frozen? ⟨pb, 9, none⟩ = false) (hne : (Value.slice a n c).ownBlock ≠ some pb)
    (ho : w.ownsRow B 5 1 (.slice a n c) xs.length xs) (hB : B ≤ w.heap.size) (hs : xs.length + 1 ≤ 4194304) (h65 : w.cell? ⟨pb, 65, none⟩ = some (.int .i64 n)) (hn : n ≤ 2097152) (hsl : Fsl w a n (fun i => .int .u8 (Z i))) (h137 : w.cell? ⟨pb, 137, none⟩ = some (.int .u8 11)) (eq11 : (q == 11) = false) (eq0 : (q == 0) = false) (eq8 : (q == 8) = false) :
    Calls Try.prog 25 #[.pointer (some ⟨pb, 0, none⟩), .int .u8 q] w (Sp false w pb B (.slice a n c) xs) := by
  clear hne ho hB hsl
  go_enter Try.func25, Try.ntmps25
  go_wp2_with fail
  go_big_quiet (fail)
  go_wp2_with fail
  simp only [List.cons_append, List.nil_append, List.append_eq]
  refine wp_region_quiet_lit (by kernel_rfl) (Rg.lex_of lex2 (by kernel_rfl)) ?_
  repeat (go_big_quiet_step (fail))
  refine wpQuiet_nil ?_
  intro _ hw'
  obtain ⟨nq2, hw''⟩ := hw'
  subst hw''
  go_wp2_with fail
  go_end0
  exact .inr ⟨rfl, rfl, by first | exact chg_drewN _ _ | exact chg_drewN2 _ _ _⟩
set_option maxRecDepth 100000 in
set_option maxHeartbeats 1000000 in
theorem sp_6 (pb B : Nat) (a : Option Addr) (n c : Nat) (xs : List Value) (Z : Nat → Int) (w : World) (h9 : w.cell? ⟨pb, 9, none⟩ = some (.slice a n c)) (hf : w.frozen? ⟨pb, 9, none⟩ = false) (hne : (Value.slice a n c).ownBlock ≠ some pb)
    (ho : w.ownsRow B 5 1 (.slice a n c) xs.length xs) (hB : B ≤ w.heap.size) (hs : xs.length + 1 ≤ 4194304) (h65 : w.cell? ⟨pb, 65, none⟩ = some (.int .i64 n)) (hn : n ≤ 2097152) (hsl : Fsl w a n (fun i => .int .u8 (Z i))) (h137 : w.cell? ⟨pb, 137, none⟩ = some (.int .u8 0)) :
    Calls Try.prog 25 #[.pointer (some ⟨pb, 0, none⟩), .int .u8 11] w (Sp true w pb B (.slice a n c) xs) := by
  have HP := Lib.hid (fun k => print29 pb B (.slice a n c) xs ⟨#[32]⟩ (w.drewN k) h9 hf hne ho hB hs)
  clear hne ho hB hsl
  go_enter Try.func25, Try.ntmps25
  go_wp2_with fail
  go_big_quiet (fail)
  go_wp2_with fail
  simp only [List.cons_append, List.nil_append, List.append_eq]
  refine wp_region_quiet_lit (by kernel_rfl) (Rg.lex_of lex2 (by kernel_rfl)) ?_
  repeat (go_big_quiet_step (fail))
  refine wpQuiet_nil ?_
  intro _ hw'
  obtain ⟨nq2, hw''⟩ := hw'
  subst hw''
  go_wp2_with fail
  refine (HP.out _).mono ?_
  intro e w1 h
  have he := h.1
  have H := Lib.hid h
  subst he
  clear h
  go_wp2_with fail
  go_end0
  exact .inl ⟨rfl, prt_drewN H.out⟩
set_option maxRecDepth 100000 in
set_option maxHeartbeats 1000000 in
theorem sp_7 (pb B : Nat) (a : Option Addr) (n c : Nat) (xs : List Value) (Z : Nat → Int) (w : World) (h9 : w.cell? ⟨pb, 9, none⟩ = some (.slice a n c)) (hf : w.frozen? ⟨pb, 9, none⟩ = false) (hne : (Value.slice a n c).ownBlock ≠ some pb)
    (ho : w.ownsRow B 5 1 (.slice a n c) xs.length xs) (hB : B ≤ w.heap.size) (hs : xs.length + 1 ≤ 4194304) (h65 : w.cell? ⟨pb, 65, none⟩ = some (.int .i64 n)) (hn : n ≤ 2097152) (hsl : Fsl w a n (fun i => .int .u8 (Z i))) (h137 : w.cell? ⟨pb, 137, none⟩ = some (.int .u8 0)) :
    Calls Try.prog 25 #[.pointer (some ⟨pb, 0, none⟩), .int .u8 0] w (Sp true w pb B (.slice a n c) xs) := by
  have HP := Lib.hid (fun k => print29 pb B (.slice a n c) xs ⟨#[32]⟩ (w.drewN k) h9 hf hne ho hB hs)
  clear hne ho hB hsl
  go_enter Try.func25, Try.ntmps25
  go_wp2_with fail
  go_big_quiet (fail)
  go_wp2_with fail
  simp only [List.cons_append, List.nil_append, List.append_eq]
  refine wp_region_quiet_lit (by kernel_rfl) (Rg.lex_of lex2 (by kernel_rfl)) ?_
  repeat (go_big_quiet_step (fail))
  refine wpQuiet_nil ?_
  intro _ hw'
  obtain ⟨nq2, hw''⟩ := hw'
  subst hw''
  go_wp2_with fail
  refine (HP.out _).mono ?_
  intro e w1 h
  have he := h.1
  have H := Lib.hid h
  subst he
  clear h
  go_wp2_with fail
  go_end0
  exact .inl ⟨rfl, prt_drewN H.out⟩
set_option maxRecDepth 100000 in
set_option maxHeartbeats 1000000 in
theorem sp_8 (pb B : Nat) (a : Option Addr) (n c : Nat) (xs : List Value) (Z : Nat → Int) (w : World) (h9 : w.cell? ⟨pb, 9, none⟩ = some (.slice a n c)) (hf : w.frozen? ⟨pb, 9, none⟩ = false) (hne : (Value.slice a n c).ownBlock ≠ some pb)
    (ho : w.ownsRow B 5 1 (.slice a n c) xs.length xs) (hB : B ≤ w.heap.size) (hs : xs.length + 1 ≤ 4194304) (h65 : w.cell? ⟨pb, 65, none⟩ = some (.int .i64 n)) (hn : n ≤ 2097152) (hsl : Fsl w a n (fun i => .int .u8 (Z i))) (h137 : w.cell? ⟨pb, 137, none⟩ = some (.int .u8 0)) :
    Calls Try.prog 25 #[.pointer (some ⟨pb, 0, none⟩), .int .u8 8] w (Sp true w pb B (.slice a n c) xs) := by
  have HP := Lib.hid (fun k => print29 pb B (.slice a n c) xs ⟨#[32]⟩ (w.drewN k) h9 hf hne ho hB hs)
  clear hne ho hB hsl
  go_enter Try.func25, Try.ntmps25
  go_wp2_with fail
  go_big_quiet (fail)
  go_wp2_with fail
  simp only [List.cons_append, List.nil_append, List.append_eq]
  refine wp_region_quiet_lit (by kernel_rfl) (Rg.lex_of lex2 (by kernel_rfl)) ?_
  repeat (go_big_quiet_step (fail))
  refine wpQuiet_nil ?_
  intro _ hw'
  obtain ⟨nq2, hw''⟩ := hw'
  subst hw''
  go_wp2_with fail
  refine (HP.out _).mono ?_
  intro e w1 h
  have he := h.1
  have H := Lib.hid h
  subst he
  clear h
  go_wp2_with fail
  go_end0
  exact .inl ⟨rfl, prt_drewN H.out⟩
set_option maxRecDepth 100000 in
set_option maxHeartbeats 1000000 in
theorem sp_9 (q : Int) (pb B : Nat) (a : Option Addr) (n c : Nat) (xs : List Value) (Z : Nat → Int) (w : World) (h9 : w.cell? ⟨pb, 9, none⟩ = some (.slice a n c)) (hf : w.frozen? ⟨pb, 9, none⟩ = false) (hne : (Value.slice a n c).ownBlock ≠ some pb)
    (ho : w.ownsRow B 5 1 (.slice a n c) xs.length xs) (hB : B ≤ w.heap.size) (hs : xs.length + 1 ≤ 4194304) (h65 : w.cell? ⟨pb, 65, none⟩ = some (.int .i64 n)) (hn : n ≤ 2097152) (hsl : Fsl w a n (fun i => .int .u8 (Z i))) (h137 : w.cell? ⟨pb, 137, none⟩ = some (.int .u8 0)) (eq11 : (q == 11) = false) (eq0 : (q == 0) = false) (eq8 : (q == 8) = false) :
    Calls Try.prog 25 #[.pointer (some ⟨pb, 0, none⟩), .int .u8 q] w (Sp false w pb B (.slice a n c) xs) := by
  clear hne ho hB hsl
  go_enter Try.func25, Try.ntmps25
  go_wp2_with fail
  go_big_quiet (fail)
  go_wp2_with fail
  simp only [List.cons_append, List.nil_append, List.append_eq]
  refine wp_region_quiet_lit (by kernel_rfl) (Rg.lex_of lex2 (by kernel_rfl)) ?_
  repeat (go_big_quiet_step (fail))
  refine wpQuiet_nil ?_
  intro _ hw'
  obtain ⟨nq2, hw''⟩ := hw'
  subst hw''
  go_wp2_with fail
  go_end0
  exact .inr ⟨rfl, rfl, by first | exact chg_drewN _ _ | exact chg_drewN2 _ _ _⟩
set_option maxRecDepth 100000 in
set_option maxHeartbeats 1000000 in
theorem sp_10 (pb B : Nat) (a : Option Addr) (n c : Nat) (xs : List Value) (Z : Nat → Int) (w : World) (h9 : w.cell? ⟨pb, 9, none⟩ = some (.slice a n c)) (hf : w.frozen? ⟨pb, 9, none⟩ = false) (hne : (Value.slice a n c).ownBlock ≠ some pb)
    (ho : w.ownsRow B 5 1 (.slice a n c) xs.length xs) (hB : B ≤ w.heap.size) (hs : xs.length + 1 ≤ 4194304) (h65 : w.cell? ⟨pb, 65, none⟩ = some (.int .i64 n)) (hn : n ≤ 2097152) (hsl : Fsl w a n (fun i => .int .u8 (Z i))) (h137 : w.cell? ⟨pb, 137, none⟩ = some (.int .u8 12)) :
    Calls Try.prog 25 #[.pointer (some ⟨pb, 0, none⟩), .int .u8 12] w (Sp true w pb B (.slice a n c) xs) := by
  have HP := Lib.hid (fun k => print29 pb B (.slice a n c) xs ⟨#[32]⟩ (w.drewN k) h9 hf hne ho hB hs)
  clear hne ho hB hsl
  go_enter Try.func25, Try.ntmps25
  go_wp2_with fail
  go_big_quiet (fail)
  go_wp2_with fail
  simp only [List.cons_append, List.nil_append, List.append_eq]
  refine wp_region_quiet_lit (by kernel_rfl) (Rg.lex_of lex2 (by kernel_rfl)) ?_
  repeat (go_big_quiet_step (fail))
  refine wpQuiet_nil ?_
  intro _ hw'
  obtain ⟨nq2, hw''⟩ := hw'
  subst hw''
  go_wp2_with fail
  refine (HP.out _).mono ?_
  intro e w1 h
  have he := h.1
  have H := Lib.hid h
  subst he
  clear h
  go_wp2_with fail
  go_end0
  exact .inl ⟨rfl, prt_drewN H.out⟩
set_option maxRecDepth 100000 in
set_option maxHeartbeats 1000000 in
theorem sp_11 (pb B : Nat) (a : Option Addr) (n c : Nat) (xs : List Value) (Z : Nat → Int) (w : World) (h9 : w.cell? ⟨pb, 9, none⟩ = some (.slice a n c)) (hf : w.frozen? ⟨pb, 9, none⟩ = false) (hne : (Value.slice a n c).ownBlock ≠ some pb)
    (ho : w.ownsRow B 5 1 (.slice a n c) xs.length xs) (hB : B ≤ w.heap.size) (hs : xs.length + 1 ≤ 4194304) (h65 : w.cell? ⟨pb, 65, none⟩ = some (.int .i64 n)) (hn : n ≤ 2097152) (hsl : Fsl w a n (fun i => .int .u8 (Z i))) (h137 : w.cell? ⟨pb, 137, none⟩ = some (.int .u8 12)) :
    Calls Try.prog 25 #[.pointer (some ⟨pb, 0, none⟩), .int .u8 1] w (Sp true w pb B (.slice a n c) xs) := by
  have HP := Lib.hid (fun k => print29 pb B (.slice a n c) xs ⟨#[32]⟩ (w.drewN k) h9 hf hne ho hB hs)
  clear hne ho hB hsl
  go_enter Try.func25, Try.ntmps25
  go_wp2_with fail
  go_big_quiet (fail)
  go_wp2_with fail
  simp only [List.cons_append, List.nil_append, List.append_eq]
  refine wp_region_quiet_lit (by kernel_rfl) (Rg.lex_of lex2 (by kernel_rfl)) ?_
  repeat (go_big_quiet_step (fail))
  refine wpQuiet_nil ?_
  intro _ hw'
  obtain ⟨nq2, hw''⟩ := hw'
  subst hw''
  go_wp2_with fail
  refine (HP.out _).mono ?_
  intro e w1 h
  have he := h.1
  have H := Lib.hid h
  subst he
  clear h
  go_wp2_with fail
  go_end0
  exact .inl ⟨rfl, prt_drewN H.out⟩
set_option maxRecDepth 100000 in
set_option maxHeartbeats 1000000 in
theorem sp_12 (pb B : Nat) (a : Option Addr) (n c : Nat) (xs : List Value) (Z : Nat → Int) (w : World) (h9 : w.cell? ⟨pb, 9, none⟩ = some (.slice a n c)) (hf : w.frozen? ⟨pb, 9, none⟩ = false) (hne : (Value.slice a n c).ownBlock ≠ some pb)
    (ho : w.ownsRow B 5 1 (.slice a n c) xs.length xs) (hB : B ≤ w.heap.size) (hs : xs.length + 1 ≤ 4194304) (h65 : w.cell? ⟨pb, 65, none⟩ = some (.int .i64 n)) (hn : n ≤ 2097152) (hsl : Fsl w a n (fun i => .int .u8 (Z i))) (h137 : w.cell? ⟨pb, 137, none⟩ = some (.int .u8 12)) :
    Calls Try.prog 25 #[.pointer (some ⟨pb, 0, none⟩), .int .u8 7] w (Sp true w pb B (.slice a n c) xs) := by
  have HP := Lib.hid (fun k => print29 pb B (.slice a n c) xs ⟨#[32]⟩ (w.drewN k) h9 hf hne ho hB hs)
  clear hne ho hB hsl
  go_enter Try.func25, Try.ntmps25
  go_wp2_with fail
  go_big_quiet (fail)
  go_wp2_with fail
  simp only [List.cons_append, List.nil_append, List.append_eq]
  refine wp_region_quiet_lit (by kernel_rfl) (Rg.lex_of lex2 (by kernel_rfl)) ?_
  repeat (go_big_quiet_step (fail))
  refine wpQuiet_nil ?_
  intro _ hw'
  obtain ⟨nq2, hw''⟩ := hw'
  subst hw''
  go_wp2_with fail
  refine (HP.out _).mono ?_
  intro e w1 h
  have he := h.1
  have H := Lib.hid h
  subst he
  clear h
  go_wp2_with fail
  go_end0
  exact .inl ⟨rfl, prt_drewN H.out⟩
set_option maxRecDepth 100000 in
set_option maxHeartbeats 1000000 in
theorem sp_13 (q : Int) (pb B : Nat) (a : Option Addr) (n c : Nat) (xs : List Value) (Z : Nat → Int) (w : World) (h9 : w.cell? ⟨pb, 9, none⟩ = some (.slice a n c)) (hf : w.frozen? ⟨pb, 9, none⟩ = false) (hne : (Value.slice a n c).ownBlock ≠ some pb)
    (ho : w.ownsRow B 5 1 (.slice a n c) xs.length xs) (hB : B ≤ w.heap.size) (hs : xs.length + 1 ≤ 4194304) (h65 : w.cell? ⟨pb, 65, none⟩ = some (.int .i64 n)) (hn : n ≤ 2097152) (hsl : Fsl w a n (fun i => .int .u8 (Z i))) (h137 : w.cell? ⟨pb, 137, none⟩ = some (.int .u8 12)) (eq12 : (q == 12) = false) (eq1 : (q == 1) = false) (eq7 : (q == 7) = false) :
    Calls Try.prog 25 #[.pointer (some ⟨pb, 0, none⟩), .int .u8 q] w (Sp false w pb B (.slice a n c) xs) := by
  clear hne ho hB hsl
  go_enter Try.func25, Try.ntmps25
  go_wp2_with fail
  go_big_quiet (fail)
  go_wp2_with fail
  simp only [List.cons_append, List.nil_append, List.append_eq]
  refine wp_region_quiet_lit (by kernel_rfl) (Rg.lex_of lex2 (by kernel_rfl)) ?_
  repeat (go_big_quiet_step (fail))
  refine wpQuiet_nil ?_
  intro _ hw'
  obtain ⟨nq2, hw''⟩ := hw'
  subst hw''
  go_wp2_with fail
  go_end0
  exact .inr ⟨rfl, rfl, by first | exact chg_drewN _ _ | exact chg_drewN2 _ _ _⟩
set_option maxRecDepth 100000 in
set_option maxHeartbeats 1000000 in
theorem sp_14 (pb B : Nat) (a : Option Addr) (n c : Nat) (xs : List Value) (Z : Nat → Int) (w : World) (h9 : w.cell? ⟨pb, 9, none⟩ = some (.slice a n c)) (hf : w.frozen? ⟨pb, 9, none⟩ = false) (hne : (Value.slice a n c).ownBlock ≠ some pb)
    (ho : w.ownsRow B 5 1 (.slice a n c) xs.length xs) (hB : B ≤ w.heap.size) (hs : xs.length + 1 ≤ 4194304) (h65 : w.cell? ⟨pb, 65, none⟩ = some (.int .i64 n)) (hn : n ≤ 2097152) (hsl : Fsl w a n (fun i => .int .u8 (Z i))) (h137 : w.cell? ⟨pb, 137, none⟩ = some (.int .u8 1)) :
    Calls Try.prog 25 #[.pointer (some ⟨pb, 0, none⟩), .int .u8 12] w (Sp true w pb B (.slice a n c) xs) := by
  have HP := Lib.hid (fun k => print29 pb B (.slice a n c) xs ⟨#[32]⟩ (w.drewN k) h9 hf hne ho hB hs)
  clear hne ho hB hsl
  go_enter Try.func25, Try.ntmps25
  go_wp2_with fail
  go_big_quiet (fail)
  go_wp2_with fail
  simp only [List.cons_append, List.nil_append, List.append_eq]
  refine wp_region_quiet_lit (by kernel_rfl) (Rg.lex_of lex2 (by kernel_rfl)) ?_
  repeat (go_big_quiet_step (fail))
  refine wpQuiet_nil ?_
  intro _ hw'
  obtain ⟨nq2, hw''⟩ := hw'
  subst hw''
  go_wp2_with fail
  refine (HP.out _).mono ?_
  intro e w1 h
  have he := h.1
  have H := Lib.hid h
  subst he
  clear h
  go_wp2_with fail
  go_end0
  exact .inl ⟨rfl, prt_drewN H.out⟩
set_option maxRecDepth 100000 in
set_option maxHeartbeats 1000000 in
theorem sp_15 (pb B : Nat) (a : Option Addr) (n c : Nat) (xs : List Value) (Z : Nat → Int) (w : World) (h9 : w.cell? ⟨pb, 9, none⟩ = some (.slice a n c)) (hf : w.frozen? ⟨pb, 9, none⟩ = false) (hne : (Value.slice a n c).ownBlock ≠ some pb)
    (ho : w.ownsRow B 5 1 (.slice a n c) xs.length xs) (hB : B ≤ w.heap.size) (hs : xs.length + 1 ≤ 4194304) (h65 : w.cell? ⟨pb, 65, none⟩ = some (.int .i64 n)) (hn : n ≤ 2097152) (hsl : Fsl w a n (fun i => .int .u8 (Z i))) (h137 : w.cell? ⟨pb, 137, none⟩ = some (.int .u8 1)) :
    Calls Try.prog 25 #[.pointer (some ⟨pb, 0, none⟩), .int .u8 1] w (Sp true w pb B (.slice a n c) xs) := by
  have HP := Lib.hid (fun k => print29 pb B (.slice a n c) xs ⟨#[32]⟩ (w.drewN k) h9 hf hne ho hB hs)
  clear hne ho hB hsl
  go_enter Try.func25, Try.ntmps25
  go_wp2_with fail
  go_big_quiet (fail)
  go_wp2_with fail
  simp only [List.cons_append, List.nil_append, List.append_eq]
  refine wp_region_quiet_lit (by kernel_rfl) (Rg.lex_of lex2 (by kernel_rfl)) ?_
  repeat (go_big_quiet_step (fail))
  refine wpQuiet_nil ?_
  intro _ hw'
  obtain ⟨nq2, hw''⟩ := hw'
  subst hw''
  go_wp2_with fail
  refine (HP.out _).mono ?_
  intro e w1 h
  have he := h.1
  have H := Lib.hid h
  subst he
  clear h
  go_wp2_with fail
  go_end0
  exact .inl ⟨rfl, prt_drewN H.out⟩
set_option maxRecDepth 100000 in
set_option maxHeartbeats 1000000 in
theorem sp_16 (pb B : Nat) (a : Option Addr) (n c : Nat) (xs : List Value) (Z : Nat → Int) (w : World) (h9 : w.cell? ⟨pb, 9, none⟩ = some (.slice a n c)) (hf : w.frozen? ⟨pb, 9, none⟩ = false) (hne : (Value.slice a n c).ownBlock ≠ some pb)
    (ho : w.ownsRow B 5 1 (.slice a n c) xs.length xs) (hB : B ≤ w.heap.size) (hs : xs.length + 1 ≤ 4194304) (h65 : w.cell? ⟨pb, 65, none⟩ = some (.int .i64 n)) (hn : n ≤ 2097152) (hsl : Fsl w a n (fun i => .int .u8 (Z i))) (h137 : w.cell? ⟨pb, 137, none⟩ = some (.int .u8 1)) :
    Calls Try.prog 25 #[.pointer (some ⟨pb, 0, none⟩), .int .u8 7] w (Sp true w pb B (.slice a n c) xs) := by
  have HP := Lib.hid (fun k => print29 pb B (.slice a n c) xs ⟨#[32]⟩ (w.drewN k) h9 hf hne ho hB hs)
  clear hne ho hB hsl
  go_enter Try.func25, Try.ntmps25
  go_wp2_with fail
  go_big_quiet (fail)
  go_wp2_with fail
  simp only [List.cons_append, List.nil_append, List.append_eq]
  refine wp_region_quiet_lit (by kernel_rfl) (Rg.lex_of lex2 (by kernel_rfl)) ?_
  repeat (go_big_quiet_step (fail))
  refine wpQuiet_nil ?_
  intro _ hw'
  obtain ⟨nq2, hw''⟩ := hw'
  subst hw''
  go_wp2_with fail
  refine (HP.out _).mono ?_
  intro e w1 h
  have he := h.1
  have H := Lib.hid h
  subst he
  clear h
  go_wp2_with fail
  go_end0
  exact .inl ⟨rfl, prt_drewN H.out⟩
set_option maxRecDepth 100000 in
set_option maxHeartbeats 1000000 in
theorem sp_17 (q : Int) (pb B : Nat) (a : Option Addr) (n c : Nat) (xs : List Value) (Z : Nat → Int) (w : World) (h9 : w.cell? ⟨pb, 9, none⟩ = some (.slice a n c)) (hf : w.frozen? ⟨pb, 9, none⟩ = false) (hne : (Value.slice a n c).ownBlock ≠ some pb)
    (ho : w.ownsRow B 5 1 (.slice a n c) xs.length xs) (hB : B ≤ w.heap.size) (hs : xs.length + 1 ≤ 4194304) (h65 : w.cell? ⟨pb, 65, none⟩ = some (.int .i64 n)) (hn : n ≤ 2097152) (hsl : Fsl w a n (fun i => .int .u8 (Z i))) (h137 : w.cell? ⟨pb, 137, none⟩ = some (.int .u8 1)) (eq12 : (q == 12) = false) (eq1 : (q == 1) = false) (eq7 : (q == 7) = false) :
    Calls Try.prog 25 #[.pointer (some ⟨pb, 0, none⟩), .int .u8 q] w (Sp false w pb B (.slice a n c) xs) := by
  clear hne ho hB hsl
  go_enter Try.func25, Try.ntmps25
  go_wp2_with fail
  go_big_quiet (fail)
  go_wp2_with fail
  simp only [List.cons_append, List.nil_append, List.append_eq]
  refine wp_region_quiet_lit (by kernel_rfl) (Rg.lex_of lex2 (by kernel_rfl)) ?_
  repeat (go_big_quiet_step (fail))
  refine wpQuiet_nil ?_
  intro _ hw'
  obtain ⟨nq2, hw''⟩ := hw'
  subst hw''
  go_wp2_with fail
  go_end0
  exact .inr ⟨rfl, rfl, by first | exact chg_drewN _ _ | exact chg_drewN2 _ _ _⟩
set_option maxRecDepth 100000 in
set_option maxHeartbeats 1000000 in
theorem sp_18 (pb B : Nat) (a : Option Addr) (n c : Nat) (xs : List Value) (Z : Nat → Int) (w : World) (h9 : w.cell? ⟨pb, 9, none⟩ = some (.slice a n c)) (hf : w.frozen? ⟨pb, 9, none⟩ = false) (hne : (Value.slice a n c).ownBlock ≠ some pb)
    (ho : w.ownsRow B 5 1 (.slice a n c) xs.length xs) (hB : B ≤ w.heap.size) (hs : xs.length + 1 ≤ 4194304) (h65 : w.cell? ⟨pb, 65, none⟩ = some (.int .i64 n)) (hn : n ≤ 2097152) (hsl : Fsl w a n (fun i => .int .u8 (Z i))) (h137 : w.cell? ⟨pb, 137, none⟩ = some (.int .u8 9)) :
    Calls Try.prog 25 #[.pointer (some ⟨pb, 0, none⟩), .int .u8 19] w (Sp true w pb B (.slice a n c) xs) := by
  have HP := Lib.hid (fun k => print29 pb B (.slice a n c) xs ⟨#[32]⟩ (w.drewN k) h9 hf hne ho hB hs)
  clear hne ho hB hsl
  go_enter Try.func25, Try.ntmps25
  go_wp2_with fail
  go_big_quiet (fail)
  go_wp2_with fail
  simp only [List.cons_append, List.nil_append, List.append_eq]
  refine wp_region_quiet_lit (by kernel_rfl) (Rg.lex_of lex2 (by kernel_rfl)) ?_
  repeat (go_big_quiet_step (fail))
  refine wpQuiet_nil ?_
  intro _ hw'
  obtain ⟨nq2, hw''⟩ := hw'
  subst hw''
  go_wp2_with fail
  refine (HP.out _).mono ?_
  intro e w1 h
  have he := h.1
  have H := Lib.hid h
  subst he
  clear h
  go_wp2_with fail
  go_end0
  exact .inl ⟨rfl, prt_drewN H.out⟩
set_option maxRecDepth 100000 in
set_option maxHeartbeats 1000000 in
theorem sp_19 (q : Int) (pb B : Nat) (a : Option Addr) (n c : Nat) (xs : List Value) (Z : Nat → Int) (w : World) (h9 : w.cell? ⟨pb, 9, none⟩ = some (.slice a n c)) (hf : w.frozen? ⟨pb, 9, none⟩ = false) (hne : (Value.slice a n c).ownBlock ≠ some pb)
    (ho : w.ownsRow B 5 1 (.slice a n c) xs.length xs) (hB : B ≤ w.heap.size) (hs : xs.length + 1 ≤ 4194304) (h65 : w.cell? ⟨pb, 65, none⟩ = some (.int .i64 n)) (hn : n ≤ 2097152) (hsl : Fsl w a n (fun i => .int .u8 (Z i))) (h137 : w.cell? ⟨pb, 137, none⟩ = some (.int .u8 9)) (eq19 : (q == 19) = false) :
    Calls Try.prog 25 #[.pointer (some ⟨pb, 0, none⟩), .int .u8 q] w (Sp false w pb B (.slice a n c) xs) := by
  clear hne ho hB hsl
  go_enter Try.func25, Try.ntmps25
  go_wp2_with fail
  go_big_quiet (fail)
  go_wp2_with fail
  simp only [List.cons_append, List.nil_append, List.append_eq]
  refine wp_region_quiet_lit (by kernel_rfl) (Rg.lex_of lex2 (by kernel_rfl)) ?_
  repeat (go_big_quiet_step (fail))
  refine wpQuiet_nil ?_
  intro _ hw'
  obtain ⟨nq2, hw''⟩ := hw'
  subst hw''
  go_wp2_with fail
  go_end0
  exact .inr ⟨rfl, rfl, by first | exact chg_drewN _ _ | exact chg_drewN2 _ _ _⟩
set_option maxRecDepth 100000 in
set_option maxHeartbeats 1000000 in
theorem sp_20 (q : Int) (pb B : Nat) (a : Option Addr) (n c : Nat) (xs : List Value) (Z : Nat → Int) (w : World) (h9 : w.cell? ⟨pb, 9, none⟩ = some (.slice a n c)) (hf : w.frozen? ⟨pb, 9, none⟩ = false) (hne : (Value.slice a n c).ownBlock ≠ some pb)
    (ho : w.ownsRow B 5 1 (.slice a n c) xs.length xs) (hB : B ≤ w.heap.size) (hs : xs.length + 1 ≤ 4194304) (h65 : w.cell? ⟨pb, 65, none⟩ = some (.int .i64 n)) (hn : n ≤ 2097152) (hsl : Fsl w a n (fun i => .int .u8 (Z i))) (h137 : w.cell? ⟨pb, 137, none⟩ = some (.int .u8 3)) (eq7 : (q == 7) = false) :
    Calls Try.prog 25 #[.pointer (some ⟨pb, 0, none⟩), .int .u8 q] w (Sp false w pb B (.slice a n c) xs) := by
  clear hne ho hB hsl
  go_enter Try.func25, Try.ntmps25
  go_wp2_with fail
  go_big_quiet (fail)
  go_wp2_with fail
  simp only [List.cons_append, List.nil_append, List.append_eq]
  refine wp_region_quiet_lit (by kernel_rfl) (Rg.lex_of lex2 (by kernel_rfl)) ?_
  repeat (go_big_quiet_step (fail))
  refine wpQuiet_nil ?_
  intro _ hw'
  obtain ⟨nq2, hw''⟩ := hw'
  subst hw''
  go_wp2_with fail
  go_end0
  exact .inr ⟨rfl, rfl, by first | exact chg_drewN _ _ | exact chg_drewN2 _ _ _⟩
set_option maxRecDepth 100000 in
set_option maxHeartbeats 1000000 in
theorem sp_21 (pb B : Nat) (a : Option Addr) (n c : Nat) (xs : List Value) (Z : Nat → Int) (w : World) (h9 : w.cell? ⟨pb, 9, none⟩ = some (.slice a n c)) (hf : w.frozen? ⟨pb, 9, none⟩ = false) (hne : (Value.slice a n c).ownBlock ≠ some pb)
    (ho : w.ownsRow B 5 1 (.slice a n c) xs.length xs) (hB : B ≤ w.heap.size) (hs : xs.length + 1 ≤ 4194304) (h65 : w.cell? ⟨pb, 65, none⟩ = some (.int .i64 n)) (hn : n ≤ 2097152) (hsl : Fsl w a n (fun i => .int .u8 (Z i))) (h137 : w.cell? ⟨pb, 137, none⟩ = some (.int .u8 3)) (hl : decide ((1 : Int) < (n : Int)) = false) :
    Calls Try.prog 25 #[.pointer (some ⟨pb, 0, none⟩), .int .u8 7] w (Sp false w pb B (.slice a n c) xs) := by
  clear hne ho hB hsl
  go_enter Try.func25, Try.ntmps25
  go_wp2_with fail
  go_big_quiet (fail)
  go_wp2_with fail
  simp only [List.cons_append, List.nil_append, List.append_eq]
  refine wp_region_quiet_lit (by kernel_rfl) (Rg.lex_of lex2 (by kernel_rfl)) ?_
  repeat (go_big_quiet_step (fail))
  refine wpQuiet_nil ?_
  intro _ hw'
  obtain ⟨nq2, hw''⟩ := hw'
  subst hw''
  go_wp2_with fail
  go_end0
  exact .inr ⟨rfl, rfl, by first | exact chg_drewN _ _ | exact chg_drewN2 _ _ _⟩
set_option maxRecDepth 100000 in
set_option maxHeartbeats 1000000 in
theorem sp_22 (pb B : Nat) (a : Option Addr) (n c : Nat) (xs : List Value) (Z : Nat → Int) (w : World) (h9 : w.cell? ⟨pb, 9, none⟩ = some (.slice a n c)) (hf : w.frozen? ⟨pb, 9, none⟩ = false) (hne : (Value.slice a n c).ownBlock ≠ some pb)
    (ho : w.ownsRow B 5 1 (.slice a n c) xs.length xs) (hB : B ≤ w.heap.size) (hs : xs.length + 1 ≤ 4194304) (h65 : w.cell? ⟨pb, 65, none⟩ = some (.int .i64 n)) (hn : n ≤ 2097152) (hsl : Fsl w a n (fun i => .int .u8 (Z i))) (h137 : w.cell? ⟨pb, 137, none⟩ = some (.int .u8 3)) (hl : 2 ≤ n) (hz : (Z (n - 2) == 60) = true) :
    Calls Try.prog 25 #[.pointer (some ⟨pb, 0, none⟩), .int .u8 7] w (Sp true w pb B (.slice a n c) xs) := by
  have HP := Lib.hid (fun k => print29 pb B (.slice a n c) xs ⟨#[32]⟩ (w.drewN k) h9 hf hne ho hB hs)
  obtain ⟨b, off, e, hlb, hcc⟩ := hsl.at (n - 2) (by omega)
  subst e
  have hw2 : IntKind.i64.wrap ((n : Int) - 2) = (n : Int) - 2 := IntWalk.i64_in _ (by omega)
  have hl1 : decide ((1 : Int) < (n : Int)) = true := by simp; omega
  have hidx : ((n : Int) - 2).toNat = n - 2 := by omega
  have hi0 : (0 : Int) ≤ (n : Int) - 2 := by omega
  have hi1 : (n : Int) - 2 < (n : Int) := by omega
  clear hne ho hB hsl
  go_enter Try.func25, Try.ntmps25
  go_wp2_with fail
  go_big_quiet (fail)
  go_wp2_with fail
  simp only [List.cons_append, List.nil_append, List.append_eq]
  refine wp_region_quiet_lit (by kernel_rfl) (Rg.lex_of lex2 (by kernel_rfl)) ?_
  repeat (go_big_quiet_step (fail))
  refine wpQuiet_nil ?_
  intro _ hw'
  obtain ⟨nq2, hw''⟩ := hw'
  subst hw''
  go_wp2_with fail
  refine (HP.out _).mono ?_
  intro e w1 h
  have he := h.1
  have H := Lib.hid h
  subst he
  clear h
  go_wp2_with fail
  go_end0
  exact .inl ⟨rfl, prt_drewN H.out⟩
set_option maxRecDepth 100000 in
set_option maxHeartbeats 1000000 in
theorem sp_23 (pb B : Nat) (a : Option Addr) (n c : Nat) (xs : List Value) (Z : Nat → Int) (w : World) (h9 : w.cell? ⟨pb, 9, none⟩ = some (.slice a n c)) (hf : w.frozen? ⟨pb, 9, none⟩ = false) (hne : (Value.slice a n c).ownBlock ≠ some pb)
    (ho : w.ownsRow B 5 1 (.slice a n c) xs.length xs) (hB : B ≤ w.heap.size) (hs : xs.length + 1 ≤ 4194304) (h65 : w.cell? ⟨pb, 65, none⟩ = some (.int .i64 n)) (hn : n ≤ 2097152) (hsl : Fsl w a n (fun i => .int .u8 (Z i))) (h137 : w.cell? ⟨pb, 137, none⟩ = some (.int .u8 3)) (hl : 2 ≤ n) (hz : (Z (n - 2) == 60) = false) :
    Calls Try.prog 25 #[.pointer (some ⟨pb, 0, none⟩), .int .u8 7] w (Sp false w pb B (.slice a n c) xs) := by
  obtain ⟨b, off, e, hlb, hcc⟩ := hsl.at (n - 2) (by omega)
  subst e
  have hw2 : IntKind.i64.wrap ((n : Int) - 2) = (n : Int) - 2 := IntWalk.i64_in _ (by omega)
  have hl1 : decide ((1 : Int) < (n : Int)) = true := by simp; omega
  have hidx : ((n : Int) - 2).toNat = n - 2 := by omega
  have hi0 : (0 : Int) ≤ (n : Int) - 2 := by omega
  have hi1 : (n : Int) - 2 < (n : Int) := by omega
  clear hne ho hB hsl
  go_enter Try.func25, Try.ntmps25
  go_wp2_with fail
  go_big_quiet (fail)
  go_wp2_with fail
  simp only [List.cons_append, List.nil_append, List.append_eq]
  refine wp_region_quiet_lit (by kernel_rfl) (Rg.lex_of lex2 (by kernel_rfl)) ?_
  repeat (go_big_quiet_step (fail))
  refine wpQuiet_nil ?_
  intro _ hw'
  obtain ⟨nq2, hw''⟩ := hw'
  subst hw''
  go_wp2_with fail
  go_end0
  exact .inr ⟨rfl, rfl, by first | exact chg_drewN _ _ | exact chg_drewN2 _ _ _⟩
theorem sp25 (o q : Int) (pb B : Nat) (a : Option Addr) (n c : Nat) (xs : List Value) (Z : Nat → Int) (w : World) (h9 : w.cell? ⟨pb, 9, none⟩ = some (.slice a n c)) (hf : w.frozen? ⟨pb, 9, none⟩ = false) (hne : (Value.slice a n c).ownBlock ≠ some pb)
    (ho : w.ownsRow B 5 1 (.slice a n c) xs.length xs) (hB : B ≤ w.heap.size) (hs : xs.length + 1 ≤ 4194304) (h65 : w.cell? ⟨pb, 65, none⟩ = some (.int .i64 n)) (hn : n ≤ 2097152) (hsl : Fsl w a n (fun i => .int .u8 (Z i))) (h137 : w.cell? ⟨pb, 137, none⟩ = some (.int .u8 o)) :
    Calls Try.prog 25 #[.pointer (some ⟨pb, 0, none⟩), .int .u8 q] w (Sp (cB o q (lt n Z)) w pb B (.slice a n c) xs) := by
  by_cases o11 : o = 11
  · subst o11
    by_cases q11 : q = 11
    · subst q11
      rw [show cB 11 11 (lt n Z) = true by simp [cB]]
      exact sp_2 pb B a n c xs Z w h9 hf hne ho hB hs h65 hn hsl h137
    by_cases q0 : q = 0
    · subst q0
      rw [show cB 11 0 (lt n Z) = true by simp [cB]]
      exact sp_3 pb B a n c xs Z w h9 hf hne ho hB hs h65 hn hsl h137
    by_cases q8 : q = 8
    · subst q8
      rw [show cB 11 8 (lt n Z) = true by simp [cB]]
      exact sp_4 pb B a n c xs Z w h9 hf hne ho hB hs h65 hn hsl h137
    rw [show cB 11 q (lt n Z) = false by simp [cB, q11, q0, q8]]
    exact sp_5 q pb B a n c xs Z w h9 hf hne ho hB hs h65 hn hsl h137 (by simpa using q11) (by simpa using q0) (by simpa using q8)
  by_cases o0 : o = 0
  · subst o0
    by_cases q11 : q = 11
    · subst q11
      rw [show cB 0 11 (lt n Z) = true by simp [cB]]
      exact sp_6 pb B a n c xs Z w h9 hf hne ho hB hs h65 hn hsl h137
    by_cases q0 : q = 0
    · subst q0
      rw [show cB 0 0 (lt n Z) = true by simp [cB]]
      exact sp_7 pb B a n c xs Z w h9 hf hne ho hB hs h65 hn hsl h137
    by_cases q8 : q = 8
    · subst q8
      rw [show cB 0 8 (lt n Z) = true by simp [cB]]
      exact sp_8 pb B a n c xs Z w h9 hf hne ho hB hs h65 hn hsl h137
    rw [show cB 0 q (lt n Z) = false by simp [cB, q11, q0, q8]]
    exact sp_9 q pb B a n c xs Z w h9 hf hne ho hB hs h65 hn hsl h137 (by simpa using q11) (by simpa using q0) (by simpa using q8)
  by_cases o12 : o = 12
  · subst o12
    by_cases q12 : q = 12
    · subst q12
      rw [show cB 12 12 (lt n Z) = true by simp [cB]]
      exact sp_10 pb B a n c xs Z w h9 hf hne ho hB hs h65 hn hsl h137
    by_cases q1 : q = 1
    · subst q1
      rw [show cB 12 1 (lt n Z) = true by simp [cB]]
      exact sp_11 pb B a n c xs Z w h9 hf hne ho hB hs h65 hn hsl h137
    by_cases q7 : q = 7
    · subst q7
      rw [show cB 12 7 (lt n Z) = true by simp [cB]]
      exact sp_12 pb B a n c xs Z w h9 hf hne ho hB hs h65 hn hsl h137
    rw [show cB 12 q (lt n Z) = false by simp [cB, q12, q1, q7]]
    exact sp_13 q pb B a n c xs Z w h9 hf hne ho hB hs h65 hn hsl h137 (by simpa using q12) (by simpa using q1) (by simpa using q7)
  by_cases o1 : o = 1
  · subst o1
    by_cases q12 : q = 12
    · subst q12
      rw [show cB 1 12 (lt n Z) = true by simp [cB]]
      exact sp_14 pb B a n c xs Z w h9 hf hne ho hB hs h65 hn hsl h137
    by_cases q1 : q = 1
    · subst q1
      rw [show cB 1 1 (lt n Z) = true by simp [cB]]
      exact sp_15 pb B a n c xs Z w h9 hf hne ho hB hs h65 hn hsl h137
    by_cases q7 : q = 7
    · subst q7
      rw [show cB 1 7 (lt n Z) = true by simp [cB]]
      exact sp_16 pb B a n c xs Z w h9 hf hne ho hB hs h65 hn hsl h137
    rw [show cB 1 q (lt n Z) = false by simp [cB, q12, q1, q7]]
    exact sp_17 q pb B a n c xs Z w h9 hf hne ho hB hs h65 hn hsl h137 (by simpa using q12) (by simpa using q1) (by simpa using q7)
  by_cases o9 : o = 9
  · subst o9
    by_cases q19 : q = 19
    · subst q19
      rw [show cB 9 19 (lt n Z) = true by simp [cB]]
      exact sp_18 pb B a n c xs Z w h9 hf hne ho hB hs h65 hn hsl h137
    rw [show cB 9 q (lt n Z) = false by simp [cB, q19]]
    exact sp_19 q pb B a n c xs Z w h9 hf hne ho hB hs h65 hn hsl h137 (by simpa using q19)
  by_cases o3 : o = 3
  · subst o3
    by_cases q7 : q = 7
    · subst q7
      by_cases hl : 2 ≤ n
      · cases hz : (Z (n - 2) == 60)
        · rw [show cB 3 7 (lt n Z) = false by simp [cB, lt, hz]]
          exact sp_23 pb B a n c xs Z w h9 hf hne ho hB hs h65 hn hsl h137 hl hz
        · rw [show cB 3 7 (lt n Z) = true by simp [cB, lt, hz]; omega]
          exact sp_22 pb B a n c xs Z w h9 hf hne ho hB hs h65 hn hsl h137 hl hz
      · rw [show cB 3 7 (lt n Z) = false by simp [cB, lt]; omega]
        exact sp_21 pb B a n c xs Z w h9 hf hne ho hB hs h65 hn hsl h137 (by simp; omega)
    rw [show cB 3 q (lt n Z) = false by simp [cB, q7]]
    exact sp_20 q pb B a n c xs Z w h9 hf hne ho hB hs h65 hn hsl h137 (by simpa using q7)
  rw [show cB o q (lt n Z) = false by simp [cB, o11, o0, o12, o1, o9, o3]]
  exact sp_1 o q pb B a n c xs Z w h9 hf hne ho hB hs h65 hn hsl h137 (by simpa using o11) (by simpa using o0) (by simpa using o12) (by simpa using o1) (by simpa using o9) (by simpa using o3)
def fb (p : Nat) : Int := [43, 43, 43, 43, 45, 45, 45, 45, 62, 60, 33, 126, 42, 42, 124, 44].getD p 44
def nB (p q : Nat) (l : Bool) : Bool := ((p == 0 || p == 1 || p == 4 || p == 5) && !pf q && fb q == fb p) || (p == 7 && q == 8) || (p == 10 && q == 6 && l)
def Nd (v : Bool) (w : World) (e : Ending) (w' : World) : Prop := e = .returned (.bool v) ∧ Chg (fun _ => False) w w'
theorem pfb (q : Nat) (hq : q ≤ 15) (v : Bool) (h : pf q = v) (w : World) : Calls Try.prog 27 #[.int .i64 q] w fun e w' => e = .returned (.bool v) ∧ w' = w := by subst h; exact pf27 q hq w
theorem txb (q : Nat) (hq : q ≤ 15) (b : ByteArray) (h : txt q = b) (w : World) : Calls Try.prog 26 #[.int .i64 q] w fun e w' => e = .returned (.string b) ∧ w' = w := by subst h; exact tx26 q hq w
theorem chg0 (w : World) : Chg (fun _ => False) w w := Chg.refl _ _
theorem chg1 (w : World) (k : Nat) : Chg (fun _ => False) w (w.drewN k) := ⟨rfl, rfl, rfl, Nat.le_refl _, fun _ _ _ => rfl⟩
theorem nd_not (a : Option Addr) (n c : Nat) (e p q : Int) (w : World) (he : (e == (n : Int)) = false) (he2 : (e != (n : Int)) = true) : Calls Try.prog 12 #[.slice a n c, .int .i64 e, .int .i64 p, .int .i64 q] w (Nd false w) := by
  go_enter Try.func12, Try.ntmps12
  go_wp2_with fail
  go_ret
  exact ⟨rfl, chg0 _⟩
theorem tx_0 (w : World) : Calls Try.prog 26 #[.int .i64 0] w fun e w' => e = .returned (.string ⟨#[43]⟩) ∧ w' = w := tx26 0 (by omega) w
theorem pf_0 (w : World) : Calls Try.prog 27 #[.int .i64 0] w fun e w' => e = .returned (.bool false) ∧ w' = w := pf27 0 (by omega) w
theorem tx_1 (w : World) : Calls Try.prog 26 #[.int .i64 1] w fun e w' => e = .returned (.string ⟨#[43]⟩) ∧ w' = w := tx26 1 (by omega) w
theorem pf_1 (w : World) : Calls Try.prog 27 #[.int .i64 1] w fun e w' => e = .returned (.bool false) ∧ w' = w := pf27 1 (by omega) w
theorem tx_2 (w : World) : Calls Try.prog 26 #[.int .i64 2] w fun e w' => e = .returned (.string ⟨#[43, 43]⟩) ∧ w' = w := tx26 2 (by omega) w
theorem pf_2 (w : World) : Calls Try.prog 27 #[.int .i64 2] w fun e w' => e = .returned (.bool false) ∧ w' = w := pf27 2 (by omega) w
theorem tx_3 (w : World) : Calls Try.prog 26 #[.int .i64 3] w fun e w' => e = .returned (.string ⟨#[43, 43]⟩) ∧ w' = w := tx26 3 (by omega) w
theorem pf_3 (w : World) : Calls Try.prog 27 #[.int .i64 3] w fun e w' => e = .returned (.bool true) ∧ w' = w := pf27 3 (by omega) w
theorem tx_4 (w : World) : Calls Try.prog 26 #[.int .i64 4] w fun e w' => e = .returned (.string ⟨#[45]⟩) ∧ w' = w := tx26 4 (by omega) w
theorem pf_4 (w : World) : Calls Try.prog 27 #[.int .i64 4] w fun e w' => e = .returned (.bool false) ∧ w' = w := pf27 4 (by omega) w
theorem tx_5 (w : World) : Calls Try.prog 26 #[.int .i64 5] w fun e w' => e = .returned (.string ⟨#[45]⟩) ∧ w' = w := tx26 5 (by omega) w
theorem pf_5 (w : World) : Calls Try.prog 27 #[.int .i64 5] w fun e w' => e = .returned (.bool false) ∧ w' = w := pf27 5 (by omega) w
theorem tx_6 (w : World) : Calls Try.prog 26 #[.int .i64 6] w fun e w' => e = .returned (.string ⟨#[45, 45]⟩) ∧ w' = w := tx26 6 (by omega) w
theorem pf_6 (w : World) : Calls Try.prog 27 #[.int .i64 6] w fun e w' => e = .returned (.bool false) ∧ w' = w := pf27 6 (by omega) w
theorem tx_7 (w : World) : Calls Try.prog 26 #[.int .i64 7] w fun e w' => e = .returned (.string ⟨#[45, 45]⟩) ∧ w' = w := tx26 7 (by omega) w
theorem pf_7 (w : World) : Calls Try.prog 27 #[.int .i64 7] w fun e w' => e = .returned (.bool true) ∧ w' = w := pf27 7 (by omega) w
theorem tx_8 (w : World) : Calls Try.prog 26 #[.int .i64 8] w fun e w' => e = .returned (.string ⟨#[62]⟩) ∧ w' = w := tx26 8 (by omega) w
theorem pf_8 (w : World) : Calls Try.prog 27 #[.int .i64 8] w fun e w' => e = .returned (.bool false) ∧ w' = w := pf27 8 (by omega) w
theorem tx_9 (w : World) : Calls Try.prog 26 #[.int .i64 9] w fun e w' => e = .returned (.string ⟨#[60]⟩) ∧ w' = w := tx26 9 (by omega) w
theorem pf_9 (w : World) : Calls Try.prog 27 #[.int .i64 9] w fun e w' => e = .returned (.bool false) ∧ w' = w := pf27 9 (by omega) w
theorem tx_10 (w : World) : Calls Try.prog 26 #[.int .i64 10] w fun e w' => e = .returned (.string ⟨#[33]⟩) ∧ w' = w := tx26 10 (by omega) w
theorem pf_10 (w : World) : Calls Try.prog 27 #[.int .i64 10] w fun e w' => e = .returned (.bool false) ∧ w' = w := pf27 10 (by omega) w
theorem tx_11 (w : World) : Calls Try.prog 26 #[.int .i64 11] w fun e w' => e = .returned (.string ⟨#[126]⟩) ∧ w' = w := tx26 11 (by omega) w
theorem pf_11 (w : World) : Calls Try.prog 27 #[.int .i64 11] w fun e w' => e = .returned (.bool false) ∧ w' = w := pf27 11 (by omega) w
theorem tx_12 (w : World) : Calls Try.prog 26 #[.int .i64 12] w fun e w' => e = .returned (.string ⟨#[42]⟩) ∧ w' = w := tx26 12 (by omega) w
theorem pf_12 (w : World) : Calls Try.prog 27 #[.int .i64 12] w fun e w' => e = .returned (.bool false) ∧ w' = w := pf27 12 (by omega) w
theorem tx_13 (w : World) : Calls Try.prog 26 #[.int .i64 13] w fun e w' => e = .returned (.string ⟨#[42, 42]⟩) ∧ w' = w := tx26 13 (by omega) w
theorem pf_13 (w : World) : Calls Try.prog 27 #[.int .i64 13] w fun e w' => e = .returned (.bool false) ∧ w' = w := pf27 13 (by omega) w
theorem tx_14 (w : World) : Calls Try.prog 26 #[.int .i64 14] w fun e w' => e = .returned (.string ⟨#[124, 124]⟩) ∧ w' = w := tx26 14 (by omega) w
theorem pf_14 (w : World) : Calls Try.prog 27 #[.int .i64 14] w fun e w' => e = .returned (.bool false) ∧ w' = w := pf27 14 (by omega) w
theorem tx_15 (w : World) : Calls Try.prog 26 #[.int .i64 15] w fun e w' => e = .returned (.string ⟨#[44]⟩) ∧ w' = w := tx26 15 (by omega) w
theorem pf_15 (w : World) : Calls Try.prog 27 #[.int .i64 15] w fun e w' => e = .returned (.bool false) ∧ w' = w := pf27 15 (by omega) w
set_option maxRecDepth 100000 in
set_option maxHeartbeats 1000000 in
theorem nd_1 (a : Option Addr) (n c q : Nat) (b : ByteArray) (Z : Nat → Int) (w : World) (hq : q ≤ 15) (hb : txt q = b) (hz : 0 < b.size) (hz2 : b.size ≤ 2) (hn : n ≤ 2097152) (hsl : Fsl w a n (fun i => .int .u8 (Z i))) (hp : pf q = true) :
    Calls Try.prog 12 #[.slice a n c, .int .i64 n, .int .i64 0, .int .i64 q] w (Nd false w) := by
  have HB := Lib.hid hb
  clear hb
  have hbp := get_bt b
  have hx : ∀ w : World, (Instr.index 9 (.string ⟨#[43]⟩) (.int .i64 0)).run Try.prog w = .ok (.int .u8 43) w := fun w => by kernel_rfl
  have hx1 : (⟨#[43]⟩ : ByteArray).size = 1 := rfl
  have HP := Lib.hid hp
  clear hp
  go_enter Try.func12, Try.ntmps12
  go_wp2_with fail
  refine (tx_0 _).mono ?_
  rintro e w ⟨rfl, rfl⟩
  go_wp2_with fail
  refine (txb q hq b HB.out _).mono ?_
  rintro e w ⟨rfl, rfl⟩
  go_wp2_with fail
  go_big_quiet ((go_at_call 27; exact Calls.quiet_of_same (pfb q hq true HP.out _)))
  go_wp2_with fail
  go_ret
  exact ⟨rfl, chg1 _ _⟩
set_option maxRecDepth 100000 in
set_option maxHeartbeats 1000000 in
theorem nd_2 (a : Option Addr) (n c q : Nat) (b : ByteArray) (Z : Nat → Int) (w : World) (hq : q ≤ 15) (hb : txt q = b) (hz : 0 < b.size) (hz2 : b.size ≤ 2) (hn : n ≤ 2097152) (hsl : Fsl w a n (fun i => .int .u8 (Z i))) (hp : pf q = false) (h0 : (bt b 0 == 43) = true) :
    Calls Try.prog 12 #[.slice a n c, .int .i64 n, .int .i64 0, .int .i64 q] w (Nd true w) := by
  have HB := Lib.hid hb
  clear hb
  have hbp := get_bt b
  have hx : ∀ w : World, (Instr.index 9 (.string ⟨#[43]⟩) (.int .i64 0)).run Try.prog w = .ok (.int .u8 43) w := fun w => by kernel_rfl
  have hx1 : (⟨#[43]⟩ : ByteArray).size = 1 := rfl
  have HP := Lib.hid hp
  clear hp
  go_enter Try.func12, Try.ntmps12
  go_wp2_with fail
  refine (tx_0 _).mono ?_
  rintro e w ⟨rfl, rfl⟩
  go_wp2_with fail
  refine (txb q hq b HB.out _).mono ?_
  rintro e w ⟨rfl, rfl⟩
  go_wp2_with fail
  go_big_quiet ((go_at_call 27; exact Calls.quiet_of_same (pfb q hq false HP.out _)))
  go_wp2_with fail
  go_ret
  exact ⟨rfl, chg1 _ _⟩
set_option maxRecDepth 100000 in
set_option maxHeartbeats 1000000 in
theorem nd_3 (a : Option Addr) (n c q : Nat) (b : ByteArray) (Z : Nat → Int) (w : World) (hq : q ≤ 15) (hb : txt q = b) (hz : 0 < b.size) (hz2 : b.size ≤ 2) (hn : n ≤ 2097152) (hsl : Fsl w a n (fun i => .int .u8 (Z i))) (hp : pf q = false) (h0 : (bt b 0 == 43) = false) :
    Calls Try.prog 12 #[.slice a n c, .int .i64 n, .int .i64 0, .int .i64 q] w (Nd false w) := by
  have HB := Lib.hid hb
  clear hb
  have hbp := get_bt b
  have hx : ∀ w : World, (Instr.index 9 (.string ⟨#[43]⟩) (.int .i64 0)).run Try.prog w = .ok (.int .u8 43) w := fun w => by kernel_rfl
  have hx1 : (⟨#[43]⟩ : ByteArray).size = 1 := rfl
  have HP := Lib.hid hp
  clear hp
  go_enter Try.func12, Try.ntmps12
  go_wp2_with fail
  refine (tx_0 _).mono ?_
  rintro e w ⟨rfl, rfl⟩
  go_wp2_with fail
  refine (txb q hq b HB.out _).mono ?_
  rintro e w ⟨rfl, rfl⟩
  go_wp2_with fail
  go_big_quiet ((go_at_call 27; exact Calls.quiet_of_same (pfb q hq false HP.out _)))
  go_wp2_with fail
  go_ret
  exact ⟨rfl, chg1 _ _⟩
set_option maxRecDepth 100000 in
set_option maxHeartbeats 1000000 in
theorem nd_4 (a : Option Addr) (n c q : Nat) (b : ByteArray) (Z : Nat → Int) (w : World) (hq : q ≤ 15) (hb : txt q = b) (hz : 0 < b.size) (hz2 : b.size ≤ 2) (hn : n ≤ 2097152) (hsl : Fsl w a n (fun i => .int .u8 (Z i))) (hp : pf q = true) :
    Calls Try.prog 12 #[.slice a n c, .int .i64 n, .int .i64 1, .int .i64 q] w (Nd false w) := by
  have HB := Lib.hid hb
  clear hb
  have hbp := get_bt b
  have hx : ∀ w : World, (Instr.index 9 (.string ⟨#[43]⟩) (.int .i64 0)).run Try.prog w = .ok (.int .u8 43) w := fun w => by kernel_rfl
  have hx1 : (⟨#[43]⟩ : ByteArray).size = 1 := rfl
  have HP := Lib.hid hp
  clear hp
  go_enter Try.func12, Try.ntmps12
  go_wp2_with fail
  refine (tx_1 _).mono ?_
  rintro e w ⟨rfl, rfl⟩
  go_wp2_with fail
  refine (txb q hq b HB.out _).mono ?_
  rintro e w ⟨rfl, rfl⟩
  go_wp2_with fail
  go_big_quiet ((go_at_call 27; exact Calls.quiet_of_same (pfb q hq true HP.out _)))
  go_wp2_with fail
  go_ret
  exact ⟨rfl, chg1 _ _⟩
set_option maxRecDepth 100000 in
set_option maxHeartbeats 1000000 in
theorem nd_5 (a : Option Addr) (n c q : Nat) (b : ByteArray) (Z : Nat → Int) (w : World) (hq : q ≤ 15) (hb : txt q = b) (hz : 0 < b.size) (hz2 : b.size ≤ 2) (hn : n ≤ 2097152) (hsl : Fsl w a n (fun i => .int .u8 (Z i))) (hp : pf q = false) (h0 : (bt b 0 == 43) = true) :
    Calls Try.prog 12 #[.slice a n c, .int .i64 n, .int .i64 1, .int .i64 q] w (Nd true w) := by
  have HB := Lib.hid hb
  clear hb
  have hbp := get_bt b
  have hx : ∀ w : World, (Instr.index 9 (.string ⟨#[43]⟩) (.int .i64 0)).run Try.prog w = .ok (.int .u8 43) w := fun w => by kernel_rfl
  have hx1 : (⟨#[43]⟩ : ByteArray).size = 1 := rfl
  have HP := Lib.hid hp
  clear hp
  go_enter Try.func12, Try.ntmps12
  go_wp2_with fail
  refine (tx_1 _).mono ?_
  rintro e w ⟨rfl, rfl⟩
  go_wp2_with fail
  refine (txb q hq b HB.out _).mono ?_
  rintro e w ⟨rfl, rfl⟩
  go_wp2_with fail
  go_big_quiet ((go_at_call 27; exact Calls.quiet_of_same (pfb q hq false HP.out _)))
  go_wp2_with fail
  go_ret
  exact ⟨rfl, chg1 _ _⟩
set_option maxRecDepth 100000 in
set_option maxHeartbeats 1000000 in
theorem nd_6 (a : Option Addr) (n c q : Nat) (b : ByteArray) (Z : Nat → Int) (w : World) (hq : q ≤ 15) (hb : txt q = b) (hz : 0 < b.size) (hz2 : b.size ≤ 2) (hn : n ≤ 2097152) (hsl : Fsl w a n (fun i => .int .u8 (Z i))) (hp : pf q = false) (h0 : (bt b 0 == 43) = false) :
    Calls Try.prog 12 #[.slice a n c, .int .i64 n, .int .i64 1, .int .i64 q] w (Nd false w) := by
  have HB := Lib.hid hb
  clear hb
  have hbp := get_bt b
  have hx : ∀ w : World, (Instr.index 9 (.string ⟨#[43]⟩) (.int .i64 0)).run Try.prog w = .ok (.int .u8 43) w := fun w => by kernel_rfl
  have hx1 : (⟨#[43]⟩ : ByteArray).size = 1 := rfl
  have HP := Lib.hid hp
  clear hp
  go_enter Try.func12, Try.ntmps12
  go_wp2_with fail
  refine (tx_1 _).mono ?_
  rintro e w ⟨rfl, rfl⟩
  go_wp2_with fail
  refine (txb q hq b HB.out _).mono ?_
  rintro e w ⟨rfl, rfl⟩
  go_wp2_with fail
  go_big_quiet ((go_at_call 27; exact Calls.quiet_of_same (pfb q hq false HP.out _)))
  go_wp2_with fail
  go_ret
  exact ⟨rfl, chg1 _ _⟩
set_option maxRecDepth 100000 in
set_option maxHeartbeats 1000000 in
theorem nd_7 (a : Option Addr) (n c q : Nat) (b : ByteArray) (Z : Nat → Int) (w : World) (hq : q ≤ 15) (hb : txt q = b) (hz : 0 < b.size) (hz2 : b.size ≤ 2) (hn : n ≤ 2097152) (hsl : Fsl w a n (fun i => .int .u8 (Z i))) (hp : pf q = true) :
    Calls Try.prog 12 #[.slice a n c, .int .i64 n, .int .i64 4, .int .i64 q] w (Nd false w) := by
  have HB := Lib.hid hb
  clear hb
  have hbp := get_bt b
  have hx : ∀ w : World, (Instr.index 9 (.string ⟨#[45]⟩) (.int .i64 0)).run Try.prog w = .ok (.int .u8 45) w := fun w => by kernel_rfl
  have hx1 : (⟨#[45]⟩ : ByteArray).size = 1 := rfl
  have HP := Lib.hid hp
  clear hp
  go_enter Try.func12, Try.ntmps12
  go_wp2_with fail
  refine (tx_4 _).mono ?_
  rintro e w ⟨rfl, rfl⟩
  go_wp2_with fail
  refine (txb q hq b HB.out _).mono ?_
  rintro e w ⟨rfl, rfl⟩
  go_wp2_with fail
  go_big_quiet ((go_at_call 27; exact Calls.quiet_of_same (pfb q hq true HP.out _)))
  go_wp2_with fail
  go_ret
  exact ⟨rfl, chg1 _ _⟩
set_option maxRecDepth 100000 in
set_option maxHeartbeats 1000000 in
theorem nd_8 (a : Option Addr) (n c q : Nat) (b : ByteArray) (Z : Nat → Int) (w : World) (hq : q ≤ 15) (hb : txt q = b) (hz : 0 < b.size) (hz2 : b.size ≤ 2) (hn : n ≤ 2097152) (hsl : Fsl w a n (fun i => .int .u8 (Z i))) (hp : pf q = false) (h0 : (bt b 0 == 45) = true) :
    Calls Try.prog 12 #[.slice a n c, .int .i64 n, .int .i64 4, .int .i64 q] w (Nd true w) := by
  have HB := Lib.hid hb
  clear hb
  have hbp := get_bt b
  have hx : ∀ w : World, (Instr.index 9 (.string ⟨#[45]⟩) (.int .i64 0)).run Try.prog w = .ok (.int .u8 45) w := fun w => by kernel_rfl
  have hx1 : (⟨#[45]⟩ : ByteArray).size = 1 := rfl
  have HP := Lib.hid hp
  clear hp
  go_enter Try.func12, Try.ntmps12
  go_wp2_with fail
  refine (tx_4 _).mono ?_
  rintro e w ⟨rfl, rfl⟩
  go_wp2_with fail
  refine (txb q hq b HB.out _).mono ?_
  rintro e w ⟨rfl, rfl⟩
  go_wp2_with fail
  go_big_quiet ((go_at_call 27; exact Calls.quiet_of_same (pfb q hq false HP.out _)))
  go_wp2_with fail
  go_ret
  exact ⟨rfl, chg1 _ _⟩
set_option maxRecDepth 100000 in
set_option maxHeartbeats 1000000 in
theorem nd_9 (a : Option Addr) (n c q : Nat) (b : ByteArray) (Z : Nat → Int) (w : World) (hq : q ≤ 15) (hb : txt q = b) (hz : 0 < b.size) (hz2 : b.size ≤ 2) (hn : n ≤ 2097152) (hsl : Fsl w a n (fun i => .int .u8 (Z i))) (hp : pf q = false) (h0 : (bt b 0 == 45) = false) :
    Calls Try.prog 12 #[.slice a n c, .int .i64 n, .int .i64 4, .int .i64 q] w (Nd false w) := by
  have HB := Lib.hid hb
  clear hb
  have hbp := get_bt b
  have hx : ∀ w : World, (Instr.index 9 (.string ⟨#[45]⟩) (.int .i64 0)).run Try.prog w = .ok (.int .u8 45) w := fun w => by kernel_rfl
  have hx1 : (⟨#[45]⟩ : ByteArray).size = 1 := rfl
  have HP := Lib.hid hp
  clear hp
  go_enter Try.func12, Try.ntmps12
  go_wp2_with fail
  refine (tx_4 _).mono ?_
  rintro e w ⟨rfl, rfl⟩
  go_wp2_with fail
  refine (txb q hq b HB.out _).mono ?_
  rintro e w ⟨rfl, rfl⟩
  go_wp2_with fail
  go_big_quiet ((go_at_call 27; exact Calls.quiet_of_same (pfb q hq false HP.out _)))
  go_wp2_with fail
  go_ret
  exact ⟨rfl, chg1 _ _⟩
set_option maxRecDepth 100000 in
set_option maxHeartbeats 1000000 in
theorem nd_10 (a : Option Addr) (n c q : Nat) (b : ByteArray) (Z : Nat → Int) (w : World) (hq : q ≤ 15) (hb : txt q = b) (hz : 0 < b.size) (hz2 : b.size ≤ 2) (hn : n ≤ 2097152) (hsl : Fsl w a n (fun i => .int .u8 (Z i))) (hp : pf q = true) :
    Calls Try.prog 12 #[.slice a n c, .int .i64 n, .int .i64 5, .int .i64 q] w (Nd false w) := by
  have HB := Lib.hid hb
  clear hb
  have hbp := get_bt b
  have hx : ∀ w : World, (Instr.index 9 (.string ⟨#[45]⟩) (.int .i64 0)).run Try.prog w = .ok (.int .u8 45) w := fun w => by kernel_rfl
  have hx1 : (⟨#[45]⟩ : ByteArray).size = 1 := rfl
  have HP := Lib.hid hp
  clear hp
  go_enter Try.func12, Try.ntmps12
  go_wp2_with fail
  refine (tx_5 _).mono ?_
  rintro e w ⟨rfl, rfl⟩
  go_wp2_with fail
  refine (txb q hq b HB.out _).mono ?_
  rintro e w ⟨rfl, rfl⟩
  go_wp2_with fail
  go_big_quiet ((go_at_call 27; exact Calls.quiet_of_same (pfb q hq true HP.out _)))
  go_wp2_with fail
  go_ret
  exact ⟨rfl, chg1 _ _⟩
set_option maxRecDepth 100000 in
set_option maxHeartbeats 1000000 in
theorem nd_11 (a : Option Addr) (n c q : Nat) (b : ByteArray) (Z : Nat → Int) (w : World) (hq : q ≤ 15) (hb : txt q = b) (hz : 0 < b.size) (hz2 : b.size ≤ 2) (hn : n ≤ 2097152) (hsl : Fsl w a n (fun i => .int .u8 (Z i))) (hp : pf q = false) (h0 : (bt b 0 == 45) = true) :
    Calls Try.prog 12 #[.slice a n c, .int .i64 n, .int .i64 5, .int .i64 q] w (Nd true w) := by
  have HB := Lib.hid hb
  clear hb
  have hbp := get_bt b
  have hx : ∀ w : World, (Instr.index 9 (.string ⟨#[45]⟩) (.int .i64 0)).run Try.prog w = .ok (.int .u8 45) w := fun w => by kernel_rfl
  have hx1 : (⟨#[45]⟩ : ByteArray).size = 1 := rfl
  have HP := Lib.hid hp
  clear hp
  go_enter Try.func12, Try.ntmps12
  go_wp2_with fail
  refine (tx_5 _).mono ?_
  rintro e w ⟨rfl, rfl⟩
  go_wp2_with fail
  refine (txb q hq b HB.out _).mono ?_
  rintro e w ⟨rfl, rfl⟩
  go_wp2_with fail
  go_big_quiet ((go_at_call 27; exact Calls.quiet_of_same (pfb q hq false HP.out _)))
  go_wp2_with fail
  go_ret
  exact ⟨rfl, chg1 _ _⟩
set_option maxRecDepth 100000 in
set_option maxHeartbeats 1000000 in
theorem nd_12 (a : Option Addr) (n c q : Nat) (b : ByteArray) (Z : Nat → Int) (w : World) (hq : q ≤ 15) (hb : txt q = b) (hz : 0 < b.size) (hz2 : b.size ≤ 2) (hn : n ≤ 2097152) (hsl : Fsl w a n (fun i => .int .u8 (Z i))) (hp : pf q = false) (h0 : (bt b 0 == 45) = false) :
    Calls Try.prog 12 #[.slice a n c, .int .i64 n, .int .i64 5, .int .i64 q] w (Nd false w) := by
  have HB := Lib.hid hb
  clear hb
  have hbp := get_bt b
  have hx : ∀ w : World, (Instr.index 9 (.string ⟨#[45]⟩) (.int .i64 0)).run Try.prog w = .ok (.int .u8 45) w := fun w => by kernel_rfl
  have hx1 : (⟨#[45]⟩ : ByteArray).size = 1 := rfl
  have HP := Lib.hid hp
  clear hp
  go_enter Try.func12, Try.ntmps12
  go_wp2_with fail
  refine (tx_5 _).mono ?_
  rintro e w ⟨rfl, rfl⟩
  go_wp2_with fail
  refine (txb q hq b HB.out _).mono ?_
  rintro e w ⟨rfl, rfl⟩
  go_wp2_with fail
  go_big_quiet ((go_at_call 27; exact Calls.quiet_of_same (pfb q hq false HP.out _)))
  go_wp2_with fail
  go_ret
  exact ⟨rfl, chg1 _ _⟩
set_option maxRecDepth 100000 in
set_option maxHeartbeats 1000000 in
theorem nd_13 (a : Option Addr) (n c q : Nat) (b : ByteArray) (Z : Nat → Int) (w : World) (hq : q ≤ 15) (hb : txt q = b) (hz : 0 < b.size) (hz2 : b.size ≤ 2) (hn : n ≤ 2097152) (hsl : Fsl w a n (fun i => .int .u8 (Z i))) :
    Calls Try.prog 12 #[.slice a n c, .int .i64 n, .int .i64 6, .int .i64 q] w (Nd false w) := by
  have HB := Lib.hid hb
  clear hb
  have hbp := get_bt b
  go_enter Try.func12, Try.ntmps12
  go_wp2_with fail
  refine (tx_6 _).mono ?_
  rintro e w ⟨rfl, rfl⟩
  go_wp2_with fail
  refine (txb q hq b HB.out _).mono ?_
  rintro e w ⟨rfl, rfl⟩
  go_wp2_with fail
  go_big_quiet (fail)
  go_wp2_with fail
  refine (pf_6 _).mono ?_
  rintro e w1 ⟨rfl, rfl⟩
  go_wp2_with fail
  go_ret
  exact ⟨rfl, chg1 _ _⟩
set_option maxRecDepth 100000 in
set_option maxHeartbeats 1000000 in
theorem nd_14 (a : Option Addr) (n c q : Nat) (b : ByteArray) (Z : Nat → Int) (w : World) (hq : q ≤ 15) (hb : txt q = b) (hz : 0 < b.size) (hz2 : b.size ≤ 2) (hn : n ≤ 2097152) (hsl : Fsl w a n (fun i => .int .u8 (Z i))) (h1 : (b.toList == [62]) = true) :
    Calls Try.prog 12 #[.slice a n c, .int .i64 n, .int .i64 7, .int .i64 q] w (Nd true w) := by
  have HB := Lib.hid hb
  clear hb
  have hbp := get_bt b
  go_enter Try.func12, Try.ntmps12
  go_wp2_with fail
  refine (tx_7 _).mono ?_
  rintro e w ⟨rfl, rfl⟩
  go_wp2_with fail
  refine (txb q hq b HB.out _).mono ?_
  rintro e w ⟨rfl, rfl⟩
  go_wp2_with fail
  go_big_quiet (fail)
  go_wp2_with fail
  refine (pf_7 _).mono ?_
  rintro e w1 ⟨rfl, rfl⟩
  go_wp2_with fail
  go_ret
  exact ⟨rfl, chg1 _ _⟩
set_option maxRecDepth 100000 in
set_option maxHeartbeats 1000000 in
theorem nd_15 (a : Option Addr) (n c q : Nat) (b : ByteArray) (Z : Nat → Int) (w : World) (hq : q ≤ 15) (hb : txt q = b) (hz : 0 < b.size) (hz2 : b.size ≤ 2) (hn : n ≤ 2097152) (hsl : Fsl w a n (fun i => .int .u8 (Z i))) (h1 : (b.toList == [62]) = false) :
    Calls Try.prog 12 #[.slice a n c, .int .i64 n, .int .i64 7, .int .i64 q] w (Nd false w) := by
  have HB := Lib.hid hb
  clear hb
  have hbp := get_bt b
  go_enter Try.func12, Try.ntmps12
  go_wp2_with fail
  refine (tx_7 _).mono ?_
  rintro e w ⟨rfl, rfl⟩
  go_wp2_with fail
  refine (txb q hq b HB.out _).mono ?_
  rintro e w ⟨rfl, rfl⟩
  go_wp2_with fail
  go_big_quiet (fail)
  go_wp2_with fail
  refine (pf_7 _).mono ?_
  rintro e w1 ⟨rfl, rfl⟩
  go_wp2_with fail
  go_ret
  exact ⟨rfl, chg1 _ _⟩
set_option maxRecDepth 100000 in
set_option maxHeartbeats 1000000 in
theorem nd_16 (a : Option Addr) (n c q : Nat) (b : ByteArray) (Z : Nat → Int) (w : World) (hq : q ≤ 15) (hb : txt q = b) (hz : 0 < b.size) (hz2 : b.size ≤ 2) (hn : n ≤ 2097152) (hsl : Fsl w a n (fun i => .int .u8 (Z i))) (h1 : (b.toList == [45, 45]) = false) :
    Calls Try.prog 12 #[.slice a n c, .int .i64 n, .int .i64 10, .int .i64 q] w (Nd false w) := by
  have HB := Lib.hid hb
  clear hb
  have hbp := get_bt b
  have hx : ∀ w : World, (Instr.index 9 (.string ⟨#[33]⟩) (.int .i64 0)).run Try.prog w = .ok (.int .u8 33) w := fun w => by kernel_rfl
  have hx1 : (⟨#[33]⟩ : ByteArray).size = 1 := rfl
  go_enter Try.func12, Try.ntmps12
  go_wp2_with fail
  refine (tx_10 _).mono ?_
  rintro e w ⟨rfl, rfl⟩
  go_wp2_with fail
  refine (txb q hq b HB.out _).mono ?_
  rintro e w ⟨rfl, rfl⟩
  go_wp2_with fail
  go_big_quiet (fail)
  go_wp2_with fail
  go_ret
  exact ⟨rfl, chg1 _ _⟩
set_option maxRecDepth 100000 in
set_option maxHeartbeats 1000000 in
theorem nd_17 (a : Option Addr) (n c q : Nat) (b : ByteArray) (Z : Nat → Int) (w : World) (hq : q ≤ 15) (hb : txt q = b) (hz : 0 < b.size) (hz2 : b.size ≤ 2) (hn : n ≤ 2097152) (hsl : Fsl w a n (fun i => .int .u8 (Z i))) (h1 : (b.toList == [45, 45]) = true) (hp : pf q = true) :
    Calls Try.prog 12 #[.slice a n c, .int .i64 n, .int .i64 10, .int .i64 q] w (Nd false w) := by
  have HB := Lib.hid hb
  clear hb
  have hbp := get_bt b
  have hx : ∀ w : World, (Instr.index 9 (.string ⟨#[33]⟩) (.int .i64 0)).run Try.prog w = .ok (.int .u8 33) w := fun w => by kernel_rfl
  have hx1 : (⟨#[33]⟩ : ByteArray).size = 1 := rfl
  have HP := Lib.hid hp
  clear hp
  go_enter Try.func12, Try.ntmps12
  go_wp2_with fail
  refine (tx_10 _).mono ?_
  rintro e w ⟨rfl, rfl⟩
  go_wp2_with fail
  refine (txb q hq b HB.out _).mono ?_
  rintro e w ⟨rfl, rfl⟩
  go_wp2_with fail
  go_big_quiet (fail)
  go_wp2_with fail
  refine (pfb q hq true HP.out _).mono ?_
  rintro e w1 ⟨rfl, rfl⟩
  go_wp2_with fail
  go_ret
  exact ⟨rfl, chg1 _ _⟩
set_option maxRecDepth 100000 in
set_option maxHeartbeats 1000000 in
theorem nd_18 (a : Option Addr) (n c q : Nat) (b : ByteArray) (Z : Nat → Int) (w : World) (hq : q ≤ 15) (hb : txt q = b) (hz : 0 < b.size) (hz2 : b.size ≤ 2) (hn : n ≤ 2097152) (hsl : Fsl w a n (fun i => .int .u8 (Z i))) (h1 : (b.toList == [45, 45]) = true) (hp : pf q = false) (hl : n < 2) :
    Calls Try.prog 12 #[.slice a n c, .int .i64 n, .int .i64 10, .int .i64 q] w (Nd false w) := by
  have HB := Lib.hid hb
  clear hb
  have hbp := get_bt b
  have hx : ∀ w : World, (Instr.index 9 (.string ⟨#[33]⟩) (.int .i64 0)).run Try.prog w = .ok (.int .u8 33) w := fun w => by kernel_rfl
  have hx1 : (⟨#[33]⟩ : ByteArray).size = 1 := rfl
  have HP := Lib.hid hp
  clear hp
  go_enter Try.func12, Try.ntmps12
  go_wp2_with fail
  refine (tx_10 _).mono ?_
  rintro e w ⟨rfl, rfl⟩
  go_wp2_with fail
  refine (txb q hq b HB.out _).mono ?_
  rintro e w ⟨rfl, rfl⟩
  go_wp2_with fail
  go_big_quiet (fail)
  go_wp2_with fail
  refine (pfb q hq false HP.out _).mono ?_
  rintro e w1 ⟨rfl, rfl⟩
  go_wp2_with fail
  go_ret
  exact ⟨rfl, chg1 _ _⟩
set_option maxRecDepth 100000 in
set_option maxHeartbeats 1000000 in
theorem nd_19 (a : Option Addr) (n c q : Nat) (b : ByteArray) (Z : Nat → Int) (w : World) (hq : q ≤ 15) (hb : txt q = b) (hz : 0 < b.size) (hz2 : b.size ≤ 2) (hn : n ≤ 2097152) (hsl : Fsl w a n (fun i => .int .u8 (Z i))) (h1 : (b.toList == [45, 45]) = true) (hp : pf q = false) (hl : 2 ≤ n) (h6 : (Z (n - 2) == 60) = true) :
    Calls Try.prog 12 #[.slice a n c, .int .i64 n, .int .i64 10, .int .i64 q] w (Nd true w) := by
  have HB := Lib.hid hb
  clear hb
  have hbp := get_bt b
  have hx : ∀ w : World, (Instr.index 9 (.string ⟨#[33]⟩) (.int .i64 0)).run Try.prog w = .ok (.int .u8 33) w := fun w => by kernel_rfl
  have hx1 : (⟨#[33]⟩ : ByteArray).size = 1 := rfl
  have HP := Lib.hid hp
  clear hp
  obtain ⟨g, off, e, hlb, hcc⟩ := hsl.at (n - 2) (by omega)
  subst e
  go_enter Try.func12, Try.ntmps12
  go_wp2_with fail
  refine (tx_10 _).mono ?_
  rintro e w ⟨rfl, rfl⟩
  go_wp2_with fail
  refine (txb q hq b HB.out _).mono ?_
  rintro e w ⟨rfl, rfl⟩
  go_wp2_with fail
  go_big_quiet (fail)
  go_wp2_with fail
  refine (pfb q hq false HP.out _).mono ?_
  rintro e w1 ⟨rfl, rfl⟩
  go_wp2_with fail
  go_ret
  exact ⟨rfl, chg1 _ _⟩
set_option maxRecDepth 100000 in
set_option maxHeartbeats 1000000 in
theorem nd_20 (a : Option Addr) (n c q : Nat) (b : ByteArray) (Z : Nat → Int) (w : World) (hq : q ≤ 15) (hb : txt q = b) (hz : 0 < b.size) (hz2 : b.size ≤ 2) (hn : n ≤ 2097152) (hsl : Fsl w a n (fun i => .int .u8 (Z i))) (h1 : (b.toList == [45, 45]) = true) (hp : pf q = false) (hl : 2 ≤ n) (h6 : (Z (n - 2) == 60) = false) :
    Calls Try.prog 12 #[.slice a n c, .int .i64 n, .int .i64 10, .int .i64 q] w (Nd false w) := by
  have HB := Lib.hid hb
  clear hb
  have hbp := get_bt b
  have hx : ∀ w : World, (Instr.index 9 (.string ⟨#[33]⟩) (.int .i64 0)).run Try.prog w = .ok (.int .u8 33) w := fun w => by kernel_rfl
  have hx1 : (⟨#[33]⟩ : ByteArray).size = 1 := rfl
  have HP := Lib.hid hp
  clear hp
  obtain ⟨g, off, e, hlb, hcc⟩ := hsl.at (n - 2) (by omega)
  subst e
  go_enter Try.func12, Try.ntmps12
  go_wp2_with fail
  refine (tx_10 _).mono ?_
  rintro e w ⟨rfl, rfl⟩
  go_wp2_with fail
  refine (txb q hq b HB.out _).mono ?_
  rintro e w ⟨rfl, rfl⟩
  go_wp2_with fail
  go_big_quiet (fail)
  go_wp2_with fail
  refine (pfb q hq false HP.out _).mono ?_
  rintro e w1 ⟨rfl, rfl⟩
  go_wp2_with fail
  go_ret
  exact ⟨rfl, chg1 _ _⟩
set_option maxRecDepth 100000 in
set_option maxHeartbeats 1000000 in
theorem nd_21 (a : Option Addr) (n c q : Nat) (b : ByteArray) (Z : Nat → Int) (w : World) (hq : q ≤ 15) (hb : txt q = b) (hz : 0 < b.size) (hz2 : b.size ≤ 2) (hn : n ≤ 2097152) (hsl : Fsl w a n (fun i => .int .u8 (Z i))) :
    Calls Try.prog 12 #[.slice a n c, .int .i64 n, .int .i64 2, .int .i64 q] w (Nd false w) := by
  have HB := Lib.hid hb
  clear hb
  have hbp := get_bt b
  go_enter Try.func12, Try.ntmps12
  go_wp2_with fail
  refine (tx_2 _).mono ?_
  rintro e w ⟨rfl, rfl⟩
  go_wp2_with fail
  refine (txb q hq b HB.out _).mono ?_
  rintro e w ⟨rfl, rfl⟩
  go_wp2_with fail
  go_big_quiet (fail)
  go_wp2_with fail
  go_ret
  exact ⟨rfl, chg1 _ _⟩
set_option maxRecDepth 100000 in
set_option maxHeartbeats 1000000 in
theorem nd_22 (a : Option Addr) (n c q : Nat) (b : ByteArray) (Z : Nat → Int) (w : World) (hq : q ≤ 15) (hb : txt q = b) (hz : 0 < b.size) (hz2 : b.size ≤ 2) (hn : n ≤ 2097152) (hsl : Fsl w a n (fun i => .int .u8 (Z i))) :
    Calls Try.prog 12 #[.slice a n c, .int .i64 n, .int .i64 3, .int .i64 q] w (Nd false w) := by
  have HB := Lib.hid hb
  clear hb
  have hbp := get_bt b
  go_enter Try.func12, Try.ntmps12
  go_wp2_with fail
  refine (tx_3 _).mono ?_
  rintro e w ⟨rfl, rfl⟩
  go_wp2_with fail
  refine (txb q hq b HB.out _).mono ?_
  rintro e w ⟨rfl, rfl⟩
  go_wp2_with fail
  go_big_quiet (fail)
  go_wp2_with fail
  go_ret
  exact ⟨rfl, chg1 _ _⟩
set_option maxRecDepth 100000 in
set_option maxHeartbeats 1000000 in
theorem nd_23 (a : Option Addr) (n c q : Nat) (b : ByteArray) (Z : Nat → Int) (w : World) (hq : q ≤ 15) (hb : txt q = b) (hz : 0 < b.size) (hz2 : b.size ≤ 2) (hn : n ≤ 2097152) (hsl : Fsl w a n (fun i => .int .u8 (Z i))) :
    Calls Try.prog 12 #[.slice a n c, .int .i64 n, .int .i64 8, .int .i64 q] w (Nd false w) := by
  have HB := Lib.hid hb
  clear hb
  have hbp := get_bt b
  have hx : ∀ w : World, (Instr.index 9 (.string ⟨#[62]⟩) (.int .i64 0)).run Try.prog w = .ok (.int .u8 62) w := fun w => by kernel_rfl
  have hx1 : (⟨#[62]⟩ : ByteArray).size = 1 := rfl
  go_enter Try.func12, Try.ntmps12
  go_wp2_with fail
  refine (tx_8 _).mono ?_
  rintro e w ⟨rfl, rfl⟩
  go_wp2_with fail
  refine (txb q hq b HB.out _).mono ?_
  rintro e w ⟨rfl, rfl⟩
  go_wp2_with fail
  go_big_quiet (fail)
  go_wp2_with fail
  go_ret
  exact ⟨rfl, chg1 _ _⟩
set_option maxRecDepth 100000 in
set_option maxHeartbeats 1000000 in
theorem nd_24 (a : Option Addr) (n c q : Nat) (b : ByteArray) (Z : Nat → Int) (w : World) (hq : q ≤ 15) (hb : txt q = b) (hz : 0 < b.size) (hz2 : b.size ≤ 2) (hn : n ≤ 2097152) (hsl : Fsl w a n (fun i => .int .u8 (Z i))) :
    Calls Try.prog 12 #[.slice a n c, .int .i64 n, .int .i64 9, .int .i64 q] w (Nd false w) := by
  have HB := Lib.hid hb
  clear hb
  have hbp := get_bt b
  have hx : ∀ w : World, (Instr.index 9 (.string ⟨#[60]⟩) (.int .i64 0)).run Try.prog w = .ok (.int .u8 60) w := fun w => by kernel_rfl
  have hx1 : (⟨#[60]⟩ : ByteArray).size = 1 := rfl
  go_enter Try.func12, Try.ntmps12
  go_wp2_with fail
  refine (tx_9 _).mono ?_
  rintro e w ⟨rfl, rfl⟩
  go_wp2_with fail
  refine (txb q hq b HB.out _).mono ?_
  rintro e w ⟨rfl, rfl⟩
  go_wp2_with fail
  go_big_quiet (fail)
  go_wp2_with fail
  go_ret
  exact ⟨rfl, chg1 _ _⟩
set_option maxRecDepth 100000 in
set_option maxHeartbeats 1000000 in
theorem nd_25 (a : Option Addr) (n c q : Nat) (b : ByteArray) (Z : Nat → Int) (w : World) (hq : q ≤ 15) (hb : txt q = b) (hz : 0 < b.size) (hz2 : b.size ≤ 2) (hn : n ≤ 2097152) (hsl : Fsl w a n (fun i => .int .u8 (Z i))) :
    Calls Try.prog 12 #[.slice a n c, .int .i64 n, .int .i64 11, .int .i64 q] w (Nd false w) := by
  have HB := Lib.hid hb
  clear hb
  have hbp := get_bt b
  have hx : ∀ w : World, (Instr.index 9 (.string ⟨#[126]⟩) (.int .i64 0)).run Try.prog w = .ok (.int .u8 126) w := fun w => by kernel_rfl
  have hx1 : (⟨#[126]⟩ : ByteArray).size = 1 := rfl
  go_enter Try.func12, Try.ntmps12
  go_wp2_with fail
  refine (tx_11 _).mono ?_
  rintro e w ⟨rfl, rfl⟩
  go_wp2_with fail
  refine (txb q hq b HB.out _).mono ?_
  rintro e w ⟨rfl, rfl⟩
  go_wp2_with fail
  go_big_quiet (fail)
  go_wp2_with fail
  go_ret
  exact ⟨rfl, chg1 _ _⟩
set_option maxRecDepth 100000 in
set_option maxHeartbeats 1000000 in
theorem nd_26 (a : Option Addr) (n c q : Nat) (b : ByteArray) (Z : Nat → Int) (w : World) (hq : q ≤ 15) (hb : txt q = b) (hz : 0 < b.size) (hz2 : b.size ≤ 2) (hn : n ≤ 2097152) (hsl : Fsl w a n (fun i => .int .u8 (Z i))) :
    Calls Try.prog 12 #[.slice a n c, .int .i64 n, .int .i64 12, .int .i64 q] w (Nd false w) := by
  have HB := Lib.hid hb
  clear hb
  have hbp := get_bt b
  have hx : ∀ w : World, (Instr.index 9 (.string ⟨#[42]⟩) (.int .i64 0)).run Try.prog w = .ok (.int .u8 42) w := fun w => by kernel_rfl
  have hx1 : (⟨#[42]⟩ : ByteArray).size = 1 := rfl
  go_enter Try.func12, Try.ntmps12
  go_wp2_with fail
  refine (tx_12 _).mono ?_
  rintro e w ⟨rfl, rfl⟩
  go_wp2_with fail
  refine (txb q hq b HB.out _).mono ?_
  rintro e w ⟨rfl, rfl⟩
  go_wp2_with fail
  go_big_quiet (fail)
  go_wp2_with fail
  go_ret
  exact ⟨rfl, chg1 _ _⟩
set_option maxRecDepth 100000 in
set_option maxHeartbeats 1000000 in
theorem nd_27 (a : Option Addr) (n c q : Nat) (b : ByteArray) (Z : Nat → Int) (w : World) (hq : q ≤ 15) (hb : txt q = b) (hz : 0 < b.size) (hz2 : b.size ≤ 2) (hn : n ≤ 2097152) (hsl : Fsl w a n (fun i => .int .u8 (Z i))) :
    Calls Try.prog 12 #[.slice a n c, .int .i64 n, .int .i64 13, .int .i64 q] w (Nd false w) := by
  have HB := Lib.hid hb
  clear hb
  have hbp := get_bt b
  go_enter Try.func12, Try.ntmps12
  go_wp2_with fail
  refine (tx_13 _).mono ?_
  rintro e w ⟨rfl, rfl⟩
  go_wp2_with fail
  refine (txb q hq b HB.out _).mono ?_
  rintro e w ⟨rfl, rfl⟩
  go_wp2_with fail
  go_big_quiet (fail)
  go_wp2_with fail
  go_ret
  exact ⟨rfl, chg1 _ _⟩
set_option maxRecDepth 100000 in
set_option maxHeartbeats 1000000 in
theorem nd_28 (a : Option Addr) (n c q : Nat) (b : ByteArray) (Z : Nat → Int) (w : World) (hq : q ≤ 15) (hb : txt q = b) (hz : 0 < b.size) (hz2 : b.size ≤ 2) (hn : n ≤ 2097152) (hsl : Fsl w a n (fun i => .int .u8 (Z i))) :
    Calls Try.prog 12 #[.slice a n c, .int .i64 n, .int .i64 14, .int .i64 q] w (Nd false w) := by
  have HB := Lib.hid hb
  clear hb
  have hbp := get_bt b
  go_enter Try.func12, Try.ntmps12
  go_wp2_with fail
  refine (tx_14 _).mono ?_
  rintro e w ⟨rfl, rfl⟩
  go_wp2_with fail
  refine (txb q hq b HB.out _).mono ?_
  rintro e w ⟨rfl, rfl⟩
  go_wp2_with fail
  go_big_quiet (fail)
  go_wp2_with fail
  go_ret
  exact ⟨rfl, chg1 _ _⟩
set_option maxRecDepth 100000 in
set_option maxHeartbeats 1000000 in
theorem nd_29 (a : Option Addr) (n c q : Nat) (b : ByteArray) (Z : Nat → Int) (w : World) (hq : q ≤ 15) (hb : txt q = b) (hz : 0 < b.size) (hz2 : b.size ≤ 2) (hn : n ≤ 2097152) (hsl : Fsl w a n (fun i => .int .u8 (Z i))) :
    Calls Try.prog 12 #[.slice a n c, .int .i64 n, .int .i64 15, .int .i64 q] w (Nd false w) := by
  have HB := Lib.hid hb
  clear hb
  have hbp := get_bt b
  have hx : ∀ w : World, (Instr.index 9 (.string ⟨#[44]⟩) (.int .i64 0)).run Try.prog w = .ok (.int .u8 44) w := fun w => by kernel_rfl
  have hx1 : (⟨#[44]⟩ : ByteArray).size = 1 := rfl
  go_enter Try.func12, Try.ntmps12
  go_wp2_with fail
  refine (tx_15 _).mono ?_
  rintro e w ⟨rfl, rfl⟩
  go_wp2_with fail
  refine (txb q hq b HB.out _).mono ?_
  rintro e w ⟨rfl, rfl⟩
  go_wp2_with fail
  go_big_quiet (fail)
  go_wp2_with fail
  go_ret
  exact ⟨rfl, chg1 _ _⟩
theorem fb_bt (q : Nat) (hq : q ≤ 15) : bt (txt q) 0 = fb q ∧ 0 < (txt q).size ∧ (txt q).size ≤ 2 ∧ ((txt q).toList == [62]) = (q == 8) ∧ ((txt q).toList == [45, 45]) = (q == 6 || q == 7) := by
  have hc : q = 0 ∨ q = 1 ∨ q = 2 ∨ q = 3 ∨ q = 4 ∨ q = 5 ∨ q = 6 ∨ q = 7 ∨ q = 8 ∨ q = 9 ∨ q = 10 ∨ q = 11 ∨ q = 12 ∨ q = 13 ∨ q = 14 ∨ q = 15 := by omega
  clear hq
  rcases hc with rfl | rfl | rfl | rfl | rfl | rfl | rfl | rfl | rfl | rfl | rfl | rfl | rfl | rfl | rfl | rfl
  all_goals (simp only [ByteArray.toList_eq]; decide +kernel)
theorem nd_eq (a : Option Addr) (n c p q : Nat) (Z : Nat → Int) (w : World) (hp : p ≤ 15) (hq : q ≤ 15) (hn : n ≤ 2097152) (hsl : Fsl w a n (fun i => .int .u8 (Z i))) :
    Calls Try.prog 12 #[.slice a n c, .int .i64 n, .int .i64 p, .int .i64 q] w (Nd (nB p q (lt n Z)) w) := by
  obtain ⟨k1, hz, hz2, k2, k3⟩ := fb_bt q hq
  have hc : p = 0 ∨ p = 1 ∨ p = 2 ∨ p = 3 ∨ p = 4 ∨ p = 5 ∨ p = 6 ∨ p = 7 ∨ p = 8 ∨ p = 9 ∨ p = 10 ∨ p = 11 ∨ p = 12 ∨ p = 13 ∨ p = 14 ∨ p = 15 := by omega
  clear hp
  rcases hc with rfl | rfl | rfl | rfl | rfl | rfl | rfl | rfl | rfl | rfl | rfl | rfl | rfl | rfl | rfl | rfl
  · cases hp : pf q
    · cases h0 : (bt (txt q) 0 == 43)
      · have e0 : (fb q == 43) = false := by rw [← k1]; exact h0
        rw [show nB 0 q (lt n Z) = false by simp only [nB, hp, show fb 0 = 43 from rfl, e0]; simp]
        exact nd_3 a n c q (txt q) Z w hq rfl hz hz2 hn hsl hp h0
      · have e0 : (fb q == 43) = true := by rw [← k1]; exact h0
        rw [show nB 0 q (lt n Z) = true by simp only [nB, hp, show fb 0 = 43 from rfl, e0]; simp]
        exact nd_2 a n c q (txt q) Z w hq rfl hz hz2 hn hsl hp h0
    · rw [show nB 0 q (lt n Z) = false by simp only [nB, hp]; simp]
      exact nd_1 a n c q (txt q) Z w hq rfl hz hz2 hn hsl hp
  · cases hp : pf q
    · cases h0 : (bt (txt q) 0 == 43)
      · have e0 : (fb q == 43) = false := by rw [← k1]; exact h0
        rw [show nB 1 q (lt n Z) = false by simp only [nB, hp, show fb 1 = 43 from rfl, e0]; simp]
        exact nd_6 a n c q (txt q) Z w hq rfl hz hz2 hn hsl hp h0
      · have e0 : (fb q == 43) = true := by rw [← k1]; exact h0
        rw [show nB 1 q (lt n Z) = true by simp only [nB, hp, show fb 1 = 43 from rfl, e0]; simp]
        exact nd_5 a n c q (txt q) Z w hq rfl hz hz2 hn hsl hp h0
    · rw [show nB 1 q (lt n Z) = false by simp only [nB, hp]; simp]
      exact nd_4 a n c q (txt q) Z w hq rfl hz hz2 hn hsl hp
  · rw [show nB 2 q (lt n Z) = false by simp [nB]]
    exact nd_21 a n c q (txt q) Z w hq rfl hz hz2 hn hsl
  · rw [show nB 3 q (lt n Z) = false by simp [nB]]
    exact nd_22 a n c q (txt q) Z w hq rfl hz hz2 hn hsl
  · cases hp : pf q
    · cases h0 : (bt (txt q) 0 == 45)
      · have e0 : (fb q == 45) = false := by rw [← k1]; exact h0
        rw [show nB 4 q (lt n Z) = false by simp only [nB, hp, show fb 4 = 45 from rfl, e0]; simp]
        exact nd_9 a n c q (txt q) Z w hq rfl hz hz2 hn hsl hp h0
      · have e0 : (fb q == 45) = true := by rw [← k1]; exact h0
        rw [show nB 4 q (lt n Z) = true by simp only [nB, hp, show fb 4 = 45 from rfl, e0]; simp]
        exact nd_8 a n c q (txt q) Z w hq rfl hz hz2 hn hsl hp h0
    · rw [show nB 4 q (lt n Z) = false by simp only [nB, hp]; simp]
      exact nd_7 a n c q (txt q) Z w hq rfl hz hz2 hn hsl hp
  · cases hp : pf q
    · cases h0 : (bt (txt q) 0 == 45)
      · have e0 : (fb q == 45) = false := by rw [← k1]; exact h0
        rw [show nB 5 q (lt n Z) = false by simp only [nB, hp, show fb 5 = 45 from rfl, e0]; simp]
        exact nd_12 a n c q (txt q) Z w hq rfl hz hz2 hn hsl hp h0
      · have e0 : (fb q == 45) = true := by rw [← k1]; exact h0
        rw [show nB 5 q (lt n Z) = true by simp only [nB, hp, show fb 5 = 45 from rfl, e0]; simp]
        exact nd_11 a n c q (txt q) Z w hq rfl hz hz2 hn hsl hp h0
    · rw [show nB 5 q (lt n Z) = false by simp only [nB, hp]; simp]
      exact nd_10 a n c q (txt q) Z w hq rfl hz hz2 hn hsl hp
  · rw [show nB 6 q (lt n Z) = false by simp [nB]]
    exact nd_13 a n c q (txt q) Z w hq rfl hz hz2 hn hsl
  · cases h1 : ((txt q).toList == [62])
    · rw [show nB 7 q (lt n Z) = false by simp only [nB, ← k2, h1]; simp]
      exact nd_15 a n c q (txt q) Z w hq rfl hz hz2 hn hsl h1
    · rw [show nB 7 q (lt n Z) = true by simp only [nB, ← k2, h1]; simp]
      exact nd_14 a n c q (txt q) Z w hq rfl hz hz2 hn hsl h1
  · rw [show nB 8 q (lt n Z) = false by simp [nB]]
    exact nd_23 a n c q (txt q) Z w hq rfl hz hz2 hn hsl
  · rw [show nB 9 q (lt n Z) = false by simp [nB]]
    exact nd_24 a n c q (txt q) Z w hq rfl hz hz2 hn hsl
  · cases h1 : ((txt q).toList == [45, 45])
    · have e6 : (q == 6) = false := by rw [h1] at k3; simpa using (Bool.or_eq_false_iff.1 k3.symm).1
      rw [show nB 10 q (lt n Z) = false by simp only [nB, e6]; simp]
      exact nd_16 a n c q (txt q) Z w hq rfl hz hz2 hn hsl h1
    · cases hp : pf q
      · have e6 : (q == 6) = true := by
          rw [h1] at k3
          rcases (Bool.or_eq_true_iff.1 k3.symm) with h | h
          · exact h
          · have : q = 7 := by simpa using h
            subst this
            cases hp
        by_cases hl : 2 ≤ n
        · cases h6 : (Z (n - 2) == 60)
          · rw [show nB 10 q (lt n Z) = false by simp [nB, lt, h6]]
            exact nd_20 a n c q (txt q) Z w hq rfl hz hz2 hn hsl h1 hp hl h6
          · rw [show nB 10 q (lt n Z) = true by simp only [nB, lt, e6, h6]; simp; omega]
            exact nd_19 a n c q (txt q) Z w hq rfl hz hz2 hn hsl h1 hp hl h6
        · rw [show nB 10 q (lt n Z) = false by simp only [nB, lt]; simp; omega]
          exact nd_18 a n c q (txt q) Z w hq rfl hz hz2 hn hsl h1 hp (by omega)
      · have e6 : (q == 6) = false := by
          cases h : (q == 6)
          · rfl
          · have : q = 6 := by simpa using h
            subst this
            cases hp
        rw [show nB 10 q (lt n Z) = false by simp only [nB, e6]; simp]
        exact nd_17 a n c q (txt q) Z w hq rfl hz hz2 hn hsl h1 hp
  · rw [show nB 11 q (lt n Z) = false by simp [nB]]
    exact nd_25 a n c q (txt q) Z w hq rfl hz hz2 hn hsl
  · rw [show nB 12 q (lt n Z) = false by simp [nB]]
    exact nd_26 a n c q (txt q) Z w hq rfl hz hz2 hn hsl
  · rw [show nB 13 q (lt n Z) = false by simp [nB]]
    exact nd_27 a n c q (txt q) Z w hq rfl hz hz2 hn hsl
  · rw [show nB 14 q (lt n Z) = false by simp [nB]]
    exact nd_28 a n c q (txt q) Z w hq rfl hz hz2 hn hsl
  · rw [show nB 15 q (lt n Z) = false by simp [nB]]
    exact nd_29 a n c q (txt q) Z w hq rfl hz hz2 hn hsl
theorem agree (p q : Nat) (hp : p ≤ 15) (hq : q ≤ 15) (l : Bool) : cB (opc p) (opc q) l = nB p q l := by
  have h : ∀ p q : Fin 16, ∀ l : Bool, cB (opc p.val) (opc q.val) l = nB p.val q.val l := by decide +kernel
  exact h ⟨p, by omega⟩ ⟨q, by omega⟩ l
def rB (e : Int) (n p q : Nat) (Z : Nat → Int) : Bool := (e == (n : Int)) && nB p q (lt n Z)
theorem sp10 (e : Int) (p q : Nat) (hp : p ≤ 15) (hq : q ≤ 15) (pb B : Nat) (a : Option Addr) (n c : Nat) (xs : List Value) (Z : Nat → Int) (w : World) (h9 : w.cell? ⟨pb, 9, none⟩ = some (.slice a n c)) (hf : w.frozen? ⟨pb, 9, none⟩ = false) (hne : (Value.slice a n c).ownBlock ≠ some pb)
    (ho : w.ownsRow B 5 1 (.slice a n c) xs.length xs) (hB : B ≤ w.heap.size) (hs : xs.length + 1 ≤ 4194304) (h65 : w.cell? ⟨pb, 65, none⟩ = some (.int .i64 e)) (hn : n ≤ 2097152) (hsl : Fsl w a n (fun i => .int .u8 (Z i))) (h137 : w.cell? ⟨pb, 137, none⟩ = some (.int .u8 (opc p))) :
    Calls Try.prog 10 #[.pointer (some ⟨pb, 0, none⟩), .int .u8 (opc q)] w (Sp (rB e n p q Z) w pb B (.slice a n c) xs) := by
  have H : Hid (Calls Try.prog 25 #[.pointer (some ⟨pb, 0, none⟩), .int .u8 (opc q)] w (Sp (rB e n p q Z) w pb B (.slice a n c) xs)) := by
    by_cases he : e = (n : Int)
    · subst he
      rw [show rB n n p q Z = cB (opc p) (opc q) (lt n Z) by rw [agree p q hp hq]; simp [rB]]
      exact Lib.hid (sp25 _ _ pb B a n c xs Z w h9 hf hne ho hB hs h65 hn hsl h137)
    · rw [show rB e n p q Z = false by simp [rB, he]]
      exact Lib.hid ((sp_not pb a n c e (opc q) w h9 h65 (by simpa using he)).mono fun r w' h => .inr ⟨rfl, h⟩)
  clear h9 hf hne ho hB hs h65 hn hsl h137
  generalize opc q = oq at H ⊢
  generalize rB e n p q Z = r at H ⊢
  go_enter Try.func10, Try.ntmps10
  go_wp2_with fail
  refine H.out.mono ?_
  intro e w1 h
  have he : e = .returned (.tuple #[]) := by
    rcases h with ⟨_, h⟩ | ⟨_, h, _⟩
    · exact h.1
    · exact h
  have H2 := Lib.hid h
  subst he
  clear h
  go_wp2_with fail
  go_end0
  exact H2.out
theorem need (e : Int) (a : Option Addr) (n c p q : Nat) (Z : Nat → Int) (w : World) (hp : p ≤ 15) (hq : q ≤ 15) (hn : n ≤ 2097152) (hsl : Fsl w a n (fun i => .int .u8 (Z i))) :
    Calls Try.prog 12 #[.slice a n c, .int .i64 e, .int .i64 p, .int .i64 q] w (Nd (rB e n p q Z) w) := by
  by_cases he : e = (n : Int)
  · subst he
    rw [show rB n n p q Z = nB p q (lt n Z) by simp [rB]]
    exact nd_eq a n c p q Z w hp hq hn hsl
  · rw [show rB e n p q Z = false by simp [rB, he]]
    exact nd_not a n c e p q w (by simpa using he) (by simpa using he)
theorem fsl_chg {w w' : World} {a : Option Addr} {n : Nat} {V : Nat → Value} {S : Nat → Prop} (h : Fsl w a n V) (hc : Chg S w w') (hn : ∀ x, a = some x → 0 < n → ¬ S x.block) : Fsl w' a n V := by
  refine ⟨h.1, fun i hi => ?_⟩
  obtain ⟨b, off, e, hlt, hcell⟩ := h.2 i hi
  exact ⟨b, off, e, Nat.lt_of_lt_of_le hlt hc.size, hc.cell hcell (hn ⟨b, off, none⟩ e (by omega))⟩
theorem sp_list (Z : Nat → Int) (n : Nat) : ∀ i, i < n → ((List.range n).map (fun i => Value.int .u8 (Z i)) ++ Lib.strCells ⟨#[32]⟩).getD i undef = .int .u8 (Z i) := by
  intro i hi
  rw [List.getD_eq_getElem?_getD, List.getElem?_append_left (by simpa using hi)]
  simp [hi]
theorem sp_last (Z : Nat → Int) (n : Nat) : ((List.range n).map (fun i => Value.int .u8 (Z i)) ++ Lib.strCells ⟨#[32]⟩).getD n undef = .int .u8 32 := by
  rw [List.getD_eq_getElem?_getD, List.getElem?_append_right (by simp)]
  simp [Lib.strCells]
theorem sp_len (Z : Nat → Int) (n : Nat) : ((List.range n).map (fun i => Value.int .u8 (Z i)) ++ Lib.strCells ⟨#[32]⟩).length = n + 1 := by
  simp [Lib.strCells]
set_option maxRecDepth 100000 in
set_option maxHeartbeats 4000000 in
theorem main (a0 : Option Addr) (n c0 : Nat) (Z : Nat → Int) (e s1 s2 : Int) (w : World) (h0 : Fsl w a0 n (fun i => .int .u8 (Z i))) :
    Calls Try.prog 3 #[.slice a0 n c0, .int .i64 e, .int .i64 s1, .int .i64 s2] w fun e w' => e = .returned (.bool true) ∧ Below w.heap.size w w' := by
  have H0 := Lib.hid h0
  clear h0
  go_enter Try.func3, Try.ntmps3
  go_wp2_with fail
  refine (zb a0 n c0 e s1 s2 _).mono ?_
  rintro r w ⟨rfl, v, rfl⟩
  cases v
  · go_wp2_with fail
    go_ret
    exact ⟨rfl, Below.refl _ _⟩
  by_cases g0 : (1048576 : Int) < (n : Int)
  · go_wp2_with fail
    go_ret
    exact ⟨rfl, Below.refl _ _⟩
  by_cases g1 : s1 < 0
  · go_wp2_with fail
    go_ret
    exact ⟨rfl, Below.refl _ _⟩
  by_cases g2 : 15 < s1
  · go_wp2_with fail
    go_ret
    exact ⟨rfl, Below.refl _ _⟩
  by_cases g3 : s2 < 0
  · go_wp2_with fail
    go_ret
    exact ⟨rfl, Below.refl _ _⟩
  by_cases g4 : 15 < s2
  · go_wp2_with fail
    go_ret
    exact ⟨rfl, Below.refl _ _⟩
  obtain ⟨p, rfl⟩ : ∃ p : Nat, s1 = (p : Int) := ⟨s1.toNat, by omega⟩
  obtain ⟨q, rfl⟩ : ∃ q : Nat, s2 = (q : Int) := ⟨s2.toNat, by omega⟩
  have hp : p ≤ 15 := by omega
  have hq : q ≤ 15 := by omega
  have hn : n ≤ 1048576 := by omega
  go_wp2_with fail
  refine (clone a0 n c0 Z w H0.out (by omega)).mono ?_
  intro r w1 hcop
  obtain ⟨b0, k0, rfl, o0, l0, s0, z0⟩ := Cop.owns hcop (by omega)
  have L1 := Lib.hid l0
  have S1 := Lib.hid s0
  have O1 := Lib.hid o0
  clear hcop o0 l0 s0 z0
  go_wp2_with fail
  refine (clone b0 n k0 Z w1 S1.out (by omega)).mono ?_
  intro r w2 hcop
  obtain ⟨b1, k1, rfl, o1, l1, s1, z1⟩ := Cop.owns hcop (by omega)
  have L2 := Lib.hid l1
  have S2 := Lib.hid s1
  have O2 := Lib.hid o1
  clear hcop o1 l1 s1 z1
  go_wp2_with fail
  refine (op9 p hp w2).mono ?_
  rintro r w2 ⟨rfl, rfl⟩
  go_wp2_with fail
  refine (np8 b0 n k0 (opc p) e w2).mono ?_
  rintro r w3 ⟨rfl, cs, hw3, hc9, hc137, hc65⟩
  have W3 := Lib.hid hw3
  have K9 := Lib.hid hc9
  have K137 := Lib.hid hc137
  have K65 := Lib.hid hc65
  clear hw3 hc9 hc137 hc65
  have L3 : Hid (Below w2.heap.size w2 w3) := Lib.hid (by rw [W3.out]; exact (Below.refl _ _).alloc (Nat.le_refl _) _)
  have Y3 : Hid (w3.heap.size = w2.heap.size + 1) := Lib.hid (by rw [W3.out]; simp)
  have x1 := L1.out.size
  have x2 := L2.out.size
  have x3 : w2.heap.size + 1 ≤ w3.heap.size := by have := Y3.out; omega
  go_wp2_with fail
  refine (op9 q hq w3).mono ?_
  rintro r w3 ⟨rfl, rfl⟩
  go_wp2_with fail
  have D1 := Lib.hid O1.out.lt
  have D2 := Lib.hid O2.out.lt
  have C13 : Hid (Chg (fun _ => False) w1 w3) := Lib.hid (Chg.trans (Chg.of_below L2.out (fun i h1 h2 => by omega)) (Chg.of_below L3.out (fun i h1 h2 => by omega)))
  have P1 : Hid (w3.ownsRow w.heap.size 5 1 (.slice b0 n k0) ((List.range n).map fun i => Value.int .u8 (Z i)).length ((List.range n).map fun i => Value.int .u8 (Z i))) := Lib.hid (by
    rw [List.length_map, List.length_range]
    exact C13.out.owns O1.out (fun k _ e => e))
  have S3 : Hid (Fsl w3 b1 n (fun i => .int .u8 (Z i))) := Lib.hid (S2.out.below L3.out)
  have BB : Hid (Below w.heap.size w w3) := Lib.hid ((L1.out.trans (L2.out.mono x1)).trans (L3.out.mono (by omega)))
  refine (sp10 e p q hp hq w2.heap.size w.heap.size b0 n k0 ((List.range n).map fun i => Value.int .u8 (Z i)) Z w3 (by rw [W3.out]; exact np_cell K9.out) (by rw [W3.out]; exact np_frozen) ?_ P1.out (by omega) (by simp; omega) (by rw [W3.out]; exact np_cell K65.out) (by omega) ((S1.out.below L2.out).below L3.out) (by rw [W3.out]; exact np_cell K137.out)).mono ?_
  · exact fun e => by have := D1.out _ e; omega
  intro r w4 hsp
  generalize hr : rB e n p q Z = rb at hsp
  have HR := Lib.hid hr
  clear hr
  rcases hsp with ⟨rfl, rfl, v1, c1', f1', o1', g1', m1'⟩ | ⟨rfl, rfl, hch⟩
  · have Q1 := Lib.hid c1'
    have Q2 := Lib.hid o1'
    have Q3 := Lib.hid g1'
    have x4 := g1'.size
    clear c1' f1' o1' g1' m1'
    obtain ⟨e1, t1, hv1, _⟩ := owns_slice Q2.out
    subst hv1
    have hlen := sp_len Z n
    have Q5 : Hid (w4.cell? ⟨w2.heap.size, 9, none⟩ = some (.slice e1 (n + 1) t1)) := by have := Q1.out; rw [hlen] at this; exact Lib.hid this
    have Q6 : Hid (Fsl w4 e1 (n + 1) (fun i => ((List.range n).map (fun i => Value.int .u8 (Z i)) ++ Lib.strCells ⟨#[32]⟩).getD i undef)) := by have := Q2.out; rw [hlen] at this; exact Lib.hid (owns_fsl this)
    have BF : Hid (Below w.heap.size w w4) := Lib.hid (BB.out.trans (Q3.out.below (by omega) (fun i hi => by
      rcases hi with rfl | hi
      · omega
      · have := (D1.out i hi).1; omega)))
    have S4 : Hid (Fsl w4 b1 n (fun i => .int .u8 (Z i))) := Lib.hid (fsl_chg S3.out Q3.out (fun x hx hpos e => by
      subst hx
      have h2 := D2.out x.block rfl
      rcases e with e | e
      · omega
      · have h1 := D1.out _ e
        omega))
    clear hlen
    go_wp2_with fail
    refine (js11 _ _ _ _ _ Q5.out).mono ?_
    rintro r w4 ⟨rfl, rfl⟩
    go_wp2_with fail
    refine (need e b1 n k1 p q Z w4 hp hq (by omega) S4.out).mono ?_
    rintro r w5 ⟨rfl, hch⟩
    rw [HR.out]
    have C5 := Lib.hid hch
    have x5 := hch.size
    clear hch
    have F1 : Hid (Fsl w5 e1 n (fun i => .int .u8 (Z i))) := Lib.hid (fsl_chg ((Q6.out.fewer (by omega)).congr (sp_list Z n)) C5.out (fun _ _ _ e => e))
    have F2 : Hid (Fsl w5 b1 n (fun i => .int .u8 (Z i))) := Lib.hid (fsl_chg S4.out C5.out (fun _ _ _ e => e))
    obtain ⟨bb, off, hee, hlb, hcc⟩ := (fsl_chg Q6.out C5.out (fun _ _ _ e => e)).at n (by omega)
    subst hee
    rw [sp_last] at hcc
    have HC := Lib.hid hcc
    have HL := Lib.hid hlb
    clear hcc hlb
    go_wp2_with fail
    refine (pre13 (some ⟨bb, off, none⟩) b1 (n + 1) n t1 k1 Z w5 (by omega) (by omega) F1.out F2.out (by omega)).mono ?_
    rintro r w6 ⟨rfl, hb6⟩
    have hcell : w6.cell? ⟨bb, off + n, none⟩ = some (.int .u8 32) := by rw [hb6.cell (p := ⟨bb, off + n, none⟩) HL.out]; exact HC.out
    have B6 := Lib.hid hb6
    clear hb6
    go_wp2_with fail
    go_ret
    exact ⟨rfl, (BF.out.trans (C5.out.below (by omega) (fun i hi => hi.elim))).trans (B6.out.mono (by omega))⟩
  · have C4 := Lib.hid hch
    have x4 := hch.size
    clear hch
    have Q5 : Hid (w4.cell? ⟨w2.heap.size, 9, none⟩ = some (.slice b0 n k0)) := Lib.hid (C4.out.cell (by rw [W3.out]; exact np_cell K9.out) (fun e => e))
    go_wp2_with fail
    refine (js11 _ _ _ _ _ Q5.out).mono ?_
    rintro r w4 ⟨rfl, rfl⟩
    go_wp2_with fail
    refine (need e b1 n k1 p q Z w4 hp hq (by omega) (fsl_chg S3.out C4.out (fun _ _ _ e => e))).mono ?_
    rintro r w5 ⟨rfl, hch⟩
    rw [HR.out]
    have C5 := Lib.hid hch
    have x5 := hch.size
    clear hch
    have F1 : Hid (Fsl w5 b0 n (fun i => .int .u8 (Z i))) := Lib.hid (fsl_chg (fsl_chg ((S1.out.below L2.out).below L3.out) C4.out (fun _ _ _ e => e)) C5.out (fun _ _ _ e => e))
    have F2 : Hid (Fsl w5 b1 n (fun i => .int .u8 (Z i))) := Lib.hid (fsl_chg (fsl_chg S3.out C4.out (fun _ _ _ e => e)) C5.out (fun _ _ _ e => e))
    go_wp2_with fail
    refine (eq14 b0 b1 n k0 k1 Z w5 F1.out F2.out (by omega)).mono ?_
    rintro r w6 ⟨rfl, hb6⟩
    have B6 := Lib.hid hb6
    clear hb6
    go_wp2_with fail
    go_ret
    exact ⟨rfl, ((BB.out.trans (C4.out.below (by omega) (fun i hi => hi.elim))).trans (C5.out.below (by omega) (fun i hi => hi.elim))).trans (B6.out.mono (by omega))⟩

set_option maxHeartbeats 2000000 in
theorem walk (a0 : Option Addr) (len0 cap0 : Nat) (z0 : List Int) (a1 : Int) (a2 : Int) (a3 : Int) (w : World) (w0 : Aid.IsRow .u8 w a0 len0 cap0 z0) (w1 : (Lit.int .i64 a1).wf = true) (w2 : (Lit.int .i64 a2).wf = true) (w3 : (Lit.int .i64 a3).wf = true) :
    Calls Try.prog 3 #[.slice a0 len0 cap0, .int .i64 a1, .int .i64 a2, .int .i64 a3] w fun e w' => e = .returned (.bool true) ∧ Below w.heap.size w w' := by
  obtain ⟨Z0, h0, q0, _, _⟩ := Fl.of_ints w0
  exact main a0 len0 cap0 Z0 a1 a2 a3 w h0

set_option maxRecDepth 100000 in
theorem lifted (os : Os) (started : os.Started) (H : Type) (enc : TypeId × Value → H) :
    ReturnsInHanded {} Try.checked os 3 .any (Rows.fnSpaceBeforeOperatorSpecSpec.pre6 enc Try.prog Try.f3 Rows.fnSpaceBeforeOperatorSpecRow.domain false) (Rows.fnSpaceBeforeOperatorSpecSpec.post enc Try.prog Try.f3 false true false false) := by
  refine returnsInHanded_of_change (C := Try.checked) own started (by kernel_rfl) Try.func3
    (ChangeSpec.witness6 (enc := enc) (C := Try.checked) false ⟨#[], #[.slice none 0 0, .int .i64 0, .int .i64 0, .int .i64 0], []⟩ 8 (by kernel_rfl) (by kernel_rfl) (by kernel_rfl) (by kernel_rfl)) ?_
  intro W base args ds gs before hval0 hW hcnd _
  have hval : ∀ (j : Nat) t v, Try.f3.params[j]? = some t → args[j]? = some v → Value.okWide Try.prog W .any base t v := hval0
  have hW' := hW
  obtain ⟨p, q, hA0, hV, rfl, hfz, hnd⟩ := hW
  have hA : DataW.TrodAll enc Try.prog W 0 (fun _ => true) true Try.f3.params.toList args.toList ds p := hA0
  rw [Try.params3] at hA hval
  obtain ⟨v0, vs0, d0, ds0, p0, q0, hargs, rfl, rfl, h0, r0⟩ := trodAll_cons hA
  obtain ⟨v1, vs1, d1, ds1, p1, q1, rfl, rfl, rfl, h1, r1⟩ := trodAll_cons r0
  obtain ⟨v2, vs2, d2, ds2, p2, q2, rfl, rfl, rfl, h2, r2⟩ := trodAll_cons r1
  obtain ⟨v3, vs3, d3, ds3, p3, q3, rfl, rfl, rfl, h3, r3⟩ := trodAll_cons r2
  obtain ⟨rfl, rfl, rfl⟩ := trodAll_nil r3
  obtain rfl : args = #[v0, v1, v2, v3] := by cases args; simp_all
  obtain ⟨rfl, rfl⟩ := trodVars_none hV
  obtain ⟨a0, len0, cap0, rfl⟩ := okWide_slice Try.underlying22 (hval 0 22 v0 rfl rfl)
  have k0 := h0
  have lt0 : ∀ x ∈ p0, x.block < W.heap.size := by obtain ⟨m, hm⟩ := k0; exact DataW.trod_lt m _ _ _ hm
  obtain ⟨z0, w0⟩ := Aid.open_row Try.underlying22 Try.underlying5 (by kernel_rfl) h0
  obtain ⟨a1, rfl, rfl, rfl, w1⟩ := open_int Try.underlying3 (hval 1 3 v1 rfl rfl) h1
  obtain ⟨a2, rfl, rfl, rfl, w2⟩ := open_int Try.underlying3 (hval 2 3 v2 rfl rfl) h2
  obtain ⟨a3, rfl, rfl, rfl, w3⟩ := open_int Try.underlying3 (hval 3 3 v3 rfl rfl) h3
  clear hA0 hval0
  refine (walk a0 len0 cap0 z0 a1 a2 a3 W w0 w1 w2 w3).mono fun e W' ⟨he, bel⟩ => ?_
  subst he
  exact ⟨_, rfl, _, _, _, [], _, [], hW', trodAll_mk1 (shut_bool Try.underlying4 _), (trodAll_cons_mk (Below.trod laidOut (by kernel_rfl) (of_decide_eq_true (by kernel_rfl)) k0 bel lt0) (trodAll_cons_mk (shut_int Try.underlying3 w1) (trodAll_cons_mk (shut_int Try.underlying3 w2) (trodAll_cons_mk (shut_int Try.underlying3 w3) trodAll_mk0)))), rfl, bel.frame _, fun h => by cases h⟩

theorem joined : joinedFacts Try.prog 3 Try.f3 Rows.fnSpaceBeforeOperatorSpecSpec Rows.fnSpaceBeforeOperatorSpecRow = true := by
  unfold joinedFacts
  rw [Facts.enter, Facts.lifts, Facts.make]
  kernel_rfl

theorem over : Rows.fnSpaceBeforeOperatorSpecRow.holds Try.pinned (OpenSpec.ofChange Rows.fnSpaceBeforeOperatorSpecSpec) :=
  OpenClaim.holds_of_wide 3 Try.f3 rfl rfl rfl rfl rfl rfl rfl ⟨rfl, rfl, rfl, rfl, rfl⟩ rfl rfl rfl rfl rfl (by kernel_rfl) Try.func3 joined
    (of_decide_eq_true (by kernel_rfl)) (by unfold Func.isWrapper; first | (rw [if_pos (by decide +kernel)]; kernel_rfl) | (rw [if_neg (by decide +kernel)]; exact ⟨rfl, rfl⟩))
    (fun os started H enc _ => lifted os started H enc)

theorem proved : Rows.FnSpaceBeforeOperatorSpecSaid :=
  over
#print axioms proved
end Go.Proofs.Ytllnkckhafdikab.fnSpaceBeforeOperatorSpec
