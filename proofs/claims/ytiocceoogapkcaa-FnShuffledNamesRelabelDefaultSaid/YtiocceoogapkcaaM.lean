/- Contracts of functions that the law of this seat reaches, and plain facts; no condition. -/
import Derived.Test.YtiocceoogapkcaaProg
import Derived.WalkKit
import Derived.ProofKit
import Derived.OpenShut
import Derived.ShutString
import Derived.Test.YtiocceoogapkcaaAid
import Derived.Test.YtiocceoogapkcaaL
import Derived.Sort.LotA
import Derived.Sort.LotB
import Derived.Sort.LotC
import Derived.Sort.LotD3
import Derived.ArgAppend
import Derived.WalkSmall
import Derived.WalkSpells
import Derived.WalkLawsBesides
import Derived.LoopTactic
import Derived.Deep.LoopGhost
import Derived.Deep.CutBlock
import Derived.Deep.DeepCutAuto
import Derived.IntWalk
import Derived.Outline
import Derived.Deep.QuietTactic
import Derived.BigQuiet
import Derived.RegionTactic
import Derived.StillTailTactics
import Derived.Shelf.Small.Bits
import Derived.Shelf.Lays
import Derived.Laws.BitsAllLaws
import Derived.Laws.BitsLemmas
import Derived.BigRegion
import Derived.Laws.OwnMore
import Derived.Laws.Rows
namespace Go.Proofs.Ytiocceoogapkcaa.Aux
open Go.ChangeShapes Go.WideShapes Go.ChangeAt Go.RowKit
open Go.ChangeMaps (open_string shut_string)
set_option linter.unusedVariables false
set_option linter.unusedSimpArgs false
open Fl Str Pb Qd PlainAid Aux
open Go.Sort (swp)
section
variable {g : Nat → ByteArray} {f : Nat → Int} {blk : Nat} {w w' W0 : World} {d : Array Nat}
theorem infoC : (Try.prog.info? 37).map (fun i => (i.zero, i.size, i.bytes)) = some (some (.agg #[.string ⟨#[]⟩, .int .i32 0, .int .u8 0]), 3, 24) := by kernel_rfl
/-- The array, filled up to place k. -/
def fillV (g : Nat → ByteArray) (f : Nat → Int) (Z : Nat → Value) (k t : Nat) : Value := if t < 3 * k then cellV g f (t / 3) (t % 3) else Z t
theorem fill_step (Z : Nat → Value) (k : Nat) : upd (upd (upd (fillV g f Z k) (k * 3) (.string (g k))) (k * 3 + 1) (.int .i32 (f k))) (k * 3 + 2) (.int .u8 (k : Int)) = fillV g f Z (k + 1) := by
  have := upd3 (fillV g f Z k) k (cellV g f k)
  have e : upd (upd (upd (fillV g f Z k) (k * 3) (.string (g k))) (k * 3 + 1) (.int .i32 (f k))) (k * 3 + 2) (.int .u8 (k : Int)) = updRow (fillV g f Z k) k (cellV g f k) := this
  rw [e]
  funext t
  unfold updRow fillV
  by_cases h : t / 3 = k
  · rw [if_pos h, if_pos (by omega), h]
  · rw [if_neg h]
    by_cases h2 : t < 3 * k
    · rw [if_pos h2, if_pos (by omega)]
    · rw [if_neg h2, if_neg (by omega)]
theorem range_get (x : Nat) (h : x < 64) : (Array.range 64)[x]! = x := by
  have : ∀ x : Fin 64, (Array.range 64)[x.val]! = x.val := by decide
  exact this ⟨x, h⟩
theorem fill_done (Z : Nat → Value) (h : Fblk w blk 37 192 (fillV g f Z 64)) : St g f blk w (Array.range 64) := by
  refine ⟨by simp, h.congr fun t ht => ?_⟩
  unfold fillV rowV
  rw [if_pos (by omega), range_get _ (by omega)]
/-- The tail's text, the head's text, up to place k. -/
def tlS (g : Nat → ByteArray) (d : Array Nat) : Nat → ByteArray
  | 0 => ⟨#[]⟩
  | k + 1 => tlS g d k ++ g d[k]!
def isDig (s : ByteArray) : Bool := decide (48 ≤ bt s 0) && decide (bt s 0 ≤ 57)
def hdS (g : Nat → ByteArray) (d : Array Nat) : Nat → ByteArray
  | 0 => ⟨#[]⟩
  | k + 1 => if isDig (g d[k]!) then hdS g d k else hdS g d k ++ g d[k]!
/-- While the array is filled. -/
def Fi (g : Nat → ByteArray) (f : Nat → Int) (blk : Nat) (W0 : World) (k : Nat) (wr : World) : Prop := (∃ Z, Fblk wr blk 37 192 (fillV g f Z k)) ∧ Chg (fun b => b = blk) W0 wr
theorem fi_step {k : Nat} (h : Fi g f blk W0 k w) : Fi g f blk W0 (k + 1) ((((w.setCell ⟨blk, k * 3, none⟩ (.string (g k))).setCell ⟨blk, k * 3 + 1, none⟩ (.int .i32 (f k))).setCell ⟨blk, k * 3 + 2, none⟩ (.int .u8 (k : Int))).drew) := by
  obtain ⟨⟨Z, h1⟩, h2⟩ := h
  refine ⟨⟨Z, ?_⟩, ?_⟩
  · rw [← fill_step]
    exact (((h1.set (k * 3) (.string (g k))).set (k * 3 + 1) (.int .i32 (f k))).set (k * 3 + 2) (.int .u8 (k : Int))).drew
  · refine Chg.drewR ?_
    refine Chg.setCell (S := fun b => b = blk) ?_ (.inl rfl) _
    refine Chg.setCell (S := fun b => b = blk) ?_ (.inl rfl) _
    refine Chg.setCell (S := fun b => b = blk) ?_ (.inl rfl) _
    exact h2
/-- The first worlds of the function: the boxed arguments, the result's variable, the array. -/
structure Bs (g : Nat → ByteArray) (f : Nat → Int) (T : ByteArray) (w W1 : World) : Prop where
  t1 : W1.cell? ⟨w.heap.size, 1, none⟩ = some (.string T)
  fr : ∀ i, i < 64 → W1.cell? ⟨w.heap.size + 1, i, none⟩ = some (.int .i32 (f i))
  rb : W1.heap[w.heap.size + 1 + 1]? = some (.cells #[.string ⟨#[]⟩, .string ⟨#[]⟩] 24 (0, 0))
  ar : Fi g f (w.heap.size + 1 + 1 + 1) W1 0 W1
  bl : Below w.heap.size w W1
  sz : W1.heap.size = w.heap.size + 1 + 1 + 1 + 1
theorem bs_mk (g : Nat → ByteArray) (f : Nat → Int) (hd T : ByteArray) (C cs : Array Value) (hC : ∀ i, i < 64 → C[i]? = some (.int .i32 (f i))) (w : World) : Bs g f T w ((((w.alloc (.cells #[.string hd, .string T] 24)).alloc (.cells C 27)).alloc (.cells #[.string ⟨#[]⟩, .string ⟨#[]⟩] 24)).alloc (.cells (madeCells cs 192) 37)) := by
  have r0 := heap_alloc_new w (.cells #[.string hd, .string T] 24)
  have r1 := heap_alloc_new (w.alloc (.cells #[.string hd, .string T] 24)) (.cells C 27)
  have r2 := heap_alloc_new ((w.alloc (.cells #[.string hd, .string T] 24)).alloc (.cells C 27)) (.cells #[.string ⟨#[]⟩, .string ⟨#[]⟩] 24)
  have b0 := (Below.heap_alloc _ (.cells C 27) _ (by simp)).trans r0
  have b0' := (Below.heap_alloc _ (.cells #[.string ⟨#[]⟩, .string ⟨#[]⟩] 24) _ (by simp; omega)).trans b0
  have b0'' := (Below.heap_alloc _ (.cells (madeCells cs 192) 37) _ (by simp; omega)).trans b0'
  have b1' := (Below.heap_alloc _ (.cells #[.string ⟨#[]⟩, .string ⟨#[]⟩] 24) _ (by simp)).trans r1
  have b1'' := (Below.heap_alloc _ (.cells (madeCells cs 192) 37) _ (by simp)).trans b1'
  have b2'' := (Below.heap_alloc _ (.cells (madeCells cs 192) 37) _ (by simp)).trans r2
  refine ⟨by rw [cell_of_row _ _ 1 _ _ _ b0'']; rfl, fun i hi => ?_, by simpa using b2'', ⟨⟨fun t => (madeCells cs 192).getD t undef, ?_⟩, Chg.refl _ _⟩, ?_, by simp⟩
  · have := cell_of_row _ _ i _ _ _ b1''
    rw [hC i hi] at this
    simpa using this
  · refine (Fblk.madeManyAt (by simp)).congr fun t ht => ?_
    unfold fillV
    rw [if_neg (by omega)]
  · exact ((((Below.refl _ w).alloc (Nat.le_refl _) _).alloc (by simp) _).alloc (by simp; omega) _).alloc (by simp; omega) _
theorem f64_get {z : List Int} (hz : z.length = 64) (i : Nat) (hi : i < 64) : (z.map (Value.int .i32)).toArray[i]? = some (.int .i32 (z.getD i 0)) := by
  simp [List.getD, List.getElem?_eq_getElem (show i < z.length by omega)]
/-- A character of the text. -/
def chr (T : ByteArray) (x : Nat) : ByteArray := T.extract x (x + 1)
/-- While the texts are put together. -/
def Mi (g : Nat → ByteArray) (d : Array Nat) (w2 : World) (k : Nat) (wr : World) : Prop := wr.heap[w2.heap.size]? = some (.cells #[.string (hdS g d k), .string (tlS g d k)] 24 (0, 0)) ∧ Below w2.heap.size w2 wr
theorem mi_start (g : Nat → ByteArray) (d : Array Nat) (w2 : World) : Mi g d w2 0 (w2.alloc (.cells #[.string ⟨#[]⟩, .string ⟨#[]⟩] 24)) := ⟨heap_alloc_new _ _, (Below.refl _ _).alloc (Nat.le_refl _) _⟩
theorem mi_cells {w2 wr : World} {k : Nat} (h : Mi g d w2 k wr) : wr.cell? ⟨w2.heap.size, 0, none⟩ = some (.string (hdS g d k)) ∧ wr.cell? ⟨w2.heap.size, 1, none⟩ = some (.string (tlS g d k)) ∧ wr.frozen? ⟨w2.heap.size, 0, none⟩ = false ∧ wr.frozen? ⟨w2.heap.size, 1, none⟩ = false ∧ w2.heap.size < wr.heap.size :=
  ⟨by rw [cell_of_row _ _ 0 _ _ _ h.1]; rfl, by rw [cell_of_row _ _ 1 _ _ _ h.1]; rfl, frozen_of_row _ _ _ _ _ h.1, frozen_of_row _ _ _ _ _ h.1, (Array.getElem?_eq_some_iff.1 h.1).1⟩
theorem one_of (s : ByteArray) (h : s.size = 1) : ∃ b : UInt8, s = ⟨#[b]⟩ := by
  obtain ⟨⟨l⟩⟩ := s
  match l, h with
  | [b], _ => exact ⟨b, rfl⟩
theorem one_toList (b : UInt8) : (⟨#[b]⟩ : ByteArray).toList = [b] := by
  unfold ByteArray.toList
  rw [ByteArray.toList.loop, if_pos (by show 0 < 1; omega), ByteArray.toList.loop, if_neg (by show ¬ 1 < 1; omega)]
  rfl
theorem one_bt (b : UInt8) : bt ⟨#[b]⟩ 0 = (b.toNat : Int) := by
  rw [bt_get _ 0 (by show 0 < 1; omega)]; rfl
/-- How a one-byte text compares with "0" and "9". -/
theorem one_cases (s : ByteArray) (h : s.size = 1) :
    (isDig s = true ∧ Op.bytesLess s.toList [48] = false ∧ Op.bytesLess s.toList [57] = true) ∨ (isDig s = true ∧ Op.bytesLess s.toList [48] = false ∧ Op.bytesLess s.toList [57] = false ∧ (s.toList == [57]) = true) ∨
    (isDig s = false ∧ Op.bytesLess s.toList [48] = true) ∨ (isDig s = false ∧ Op.bytesLess s.toList [48] = false ∧ Op.bytesLess s.toList [57] = false ∧ (s.toList == [57]) = false) := by
  obtain ⟨b, rfl⟩ := one_of s h
  have e : ∀ c : UInt8, Op.bytesLess [b] [c] = decide (b.toNat < c.toNat) := fun c => by
    simp [Op.bytesLess, UInt8.lt_iff_toNat_lt]
  rw [one_toList, e, e]
  unfold isDig
  rw [one_bt]
  by_cases h1 : b.toNat < 48
  · right; right; left
    exact ⟨by simp; omega, by simpa using h1⟩
  · by_cases h2 : b.toNat < 57
    · left
      exact ⟨by simp; omega, by simpa using h1, by simpa using h2⟩
    · by_cases h3 : b.toNat = 57
      · right; left
        have hb : b = 57 := UInt8.toNat.inj h3
        subst hb
        exact ⟨by decide, by decide, by decide, by decide⟩
      · right; right; right
        refine ⟨by simp; omega, by simpa using h1, by simpa using h2, ?_⟩
        have : b ≠ 57 := fun e => h3 (by rw [e]; rfl)
        simpa using this
theorem chr_size (T : ByteArray) (x : Nat) (h : x < T.size) : (chr T x).size = 1 := by
  simp [chr, ByteArray.size_extract]; omega
theorem tl_size (hg : ∀ k, k < 64 → (g d[k]!).size = 1) : ∀ k, k ≤ 64 → (tlS g d k).size = k ∧ (hdS g d k).size ≤ k := by
  intro k
  induction k with
  | zero => intro _; exact ⟨rfl, Nat.le_refl _⟩
  | succ k ih =>
    intro hk
    have h1 := ih (by omega)
    have h2 := hg k (by omega)
    refine ⟨by rw [tlS, ByteArray.size_append]; omega, ?_⟩
    rw [hdS]
    split
    · omega
    · rw [ByteArray.size_append]; omega
theorem mi_dig {w2 wr : World} {k : Nat} (h : Mi g d w2 k wr) (hd : isDig (g d[k]!) = true) (o : Obj) : Mi g d w2 (k + 1) ((wr.setCell ⟨w2.heap.size, 1, none⟩ (.string (tlS g d k ++ g d[k]!))).alloc o) := by
  obtain ⟨h1, h2⟩ := h
  have r1 := heap_setCell_same _ _ 1 _ _ (.string (tlS g d k ++ g d[k]!)) h1
  have hl : w2.heap.size < wr.heap.size := (Array.getElem?_eq_some_iff.1 h1).1
  refine ⟨(Below.heap_alloc _ o _ (by simpa [World.setCell] using hl)).trans ?_, (h2.setCell (Nat.le_refl _) _).alloc (by simp [World.setCell]; omega) _⟩
  rw [r1, hdS, if_pos hd, tlS]
  rfl
theorem mi_not {w2 wr : World} {k : Nat} (h : Mi g d w2 k wr) (hd : isDig (g d[k]!) = false) (o : Obj) : Mi g d w2 (k + 1) (((wr.setCell ⟨w2.heap.size, 0, none⟩ (.string (hdS g d k ++ g d[k]!))).setCell ⟨w2.heap.size, 1, none⟩ (.string (tlS g d k ++ g d[k]!))).alloc o) := by
  obtain ⟨h1, h2⟩ := h
  have r0 := heap_setCell_same _ _ 0 _ _ (.string (hdS g d k ++ g d[k]!)) h1
  have r1 := heap_setCell_same _ _ 1 _ _ (.string (tlS g d k ++ g d[k]!)) r0
  have hl : w2.heap.size < wr.heap.size := (Array.getElem?_eq_some_iff.1 h1).1
  refine ⟨(Below.heap_alloc _ o _ (by simpa [World.setCell] using hl)).trans ?_, ((h2.setCell (Nat.le_refl _) _).setCell (Nat.le_refl _) _).alloc (by simp [World.setCell]; omega) _⟩
  rw [r1, hdS, if_neg (by rw [hd]; simp), tlS]
  rfl
theorem range_perm_lt {d' : Array Nat} (h : Sort.PermIn 0 64 (Array.range 64) d') (k : Nat) (hk : k < 64) : d'[k]! < 64 :=
  Sort.permIn_all (Array.range 64) d' 0 64 (fun x => x < 64) (by simp) h (fun i _ hi => by rw [range_get i hi]; exact hi) k (Nat.zero_le _) hk
/-- What ShuffleByCharFreq hands back. -/
def Sh (T : ByteArray) (f : Nat → Int) (w : World) (e : Ending) (w' : World) : Prop := ∃ d : Array Nat, Hid (Sort.PermIn 0 64 (Array.range 64) d ∧ Sort.SortedIn (ltF f) 0 64 d) ∧ e = .returned (.agg #[.string (hdS (chr T) d 64), .string (tlS (chr T) d 64)]) ∧ Hid (Below w.heap.size w w')
set_option maxRecDepth 100000 in
set_option maxHeartbeats 8000000 in
theorem shuf6 (hd T : ByteArray) (hT : T.size = 64) (z : List Int) (hz : z.length = 64) (w : World) : Calls Try.prog 6 #[.agg #[.string hd, .string T], .agg (z.map (Value.int .i32)).toArray] w (Sh T (fun i => z.getD i 0) w) := by
  obtain ⟨cs, hcs⟩ : ∃ cs, (Value.agg #[.string ⟨#[]⟩, .int .i32 0, .int .u8 0]).cells = cs := ⟨_, rfl⟩
  have hmk : ∀ w : World, (Instr.makeSlice 35 (.int .i64 64) (.int .i64 64)).run Try.prog w = .ok (.slice (some ⟨w.heap.size, 0, none⟩) 64 64) (w.alloc (.cells (madeCells cs 192) 37)) := fun w => run_make_many (P := Try.prog) Try.underlying35 infoC hcs (by omega) 64 (by omega) w
  obtain ⟨C, hC⟩ : ∃ C, (z.map (Value.int .i32)).toArray = C := ⟨_, rfl⟩
  have hCs : C.size = 64 := by rw [← hC]; simpa using hz
  have HCs := Lib.hid hCs
  rw [hC]
  have hC0 : ¬ C = #[] := by intro e; rw [e] at hCs; cases hCs
  clear hCs
  go_enter Try.func6, Try.ntmps6
  go_wp2_with fail
  obtain ⟨W1, hW1⟩ : ∃ W1, ((((w.alloc (.cells #[.string hd, .string T] 24)).alloc (.cells C 27)).alloc (.cells #[.string ⟨#[]⟩, .string ⟨#[]⟩] 24)).alloc (.cells (madeCells cs 192) 37)) = W1 := ⟨_, rfl⟩
  rw [hW1]
  have HB : Hid (Bs (chr T) (fun i => z.getD i 0) T w W1) := Lib.hid (by rw [← hW1]; exact bs_mk _ _ hd T C cs (fun i hi => by rw [← hC]; exact f64_get hz i hi) w)
  clear hW1 hmk hcs hC hz
  go_loopw [6] (fun s6 wr => ∃ k : Nat, k ≤ 64 ∧ s6 = .int .i64 k ∧ Hid (Fi (chr T) (fun i => z.getD i 0) (w.heap.size + 1 + 1 + 1) W1 k wr)) (fun s6 _ => 64 - (intOf s6).toNat)
  case atStart => exact ⟨0, Nat.zero_le _, rfl, Lib.hid HB.out.ar⟩
  case round =>
    obtain ⟨k, hk, rfl, HF⟩ := hrel
    have t1 := HF.out.2.cell HB.out.t1 (show ¬ w.heap.size = w.heap.size + 1 + 1 + 1 by omega)
    by_cases hlt : k < 64
    · have hltz : (k : Int) < (T.size : Int) := by omega
      have fr := HF.out.2.cell (HB.out.fr k hlt) (show ¬ w.heap.size + 1 = w.heap.size + 1 + 1 + 1 by omega)
      obtain ⟨⟨Z, hZ⟩, _⟩ := id HF.out
      have c0 := hZ.cell (k * 3) (by omega)
      have c1 := hZ.cell (k * 3 + 1) (by omega)
      have c2 := hZ.cell (k * 3 + 2) (by omega)
      have f0 := hZ.frozen (k * 3)
      have f1 := hZ.frozen (k * 3 + 1)
      have f2 := hZ.frozen (k * 3 + 2)
      have hu8 : IntKind.u8.wrap (k : Int) = (k : Int) := IntWalk.u8_in _ (by omega)
      have hk64 : (k : Int) < 64 := by omega
      have ew : IntKind.i64.wrap ((k : Int) + 1) = (k : Int) + 1 := IntWalk.i64_in _ (by omega)
      have et : ((k : Int) + 1).toNat = k + 1 := by omega
      have e0 : 0 ≤ (k : Int) + 1 := by omega
      have eT4 : (k : Int) + 1 ≤ 64 := by omega
      have eT3 : (k : Int) ≤ (k : Int) + 1 := by omega
      clear hZ
      go_wp2_with fail
      go_still_tail 15, (by kernel_rfl)
      repeat still_step
      try refine wpStill_nil ?_
      go_wp2_with fail
      go_roundw
      case rel => exact ⟨k + 1, by omega, by go_num, Lib.hid (fi_step HF.out)⟩
      case measure => simp [intOf]; omega
    · have hge : ¬ (k : Int) < (T.size : Int) := by omega
      have hge2 : ¬ (k : Int) < 64 := by omega
      have hF := HF.out
      rw [show k = 64 by omega] at hF
      obtain ⟨⟨Z, hZ⟩, hCh⟩ := hF
      have HST := Lib.hid (fill_done Z hZ)
      have HSO := Lib.hid (sort12 HST.out)
      have HCH := Lib.hid hCh
      clear hZ hCh
      go_wp2_with fail
      refine HSO.out.mono ?_
      rintro e w2 ⟨rfl, d', HPS, HX⟩
      have HRB : Hid (w2.heap[w.heap.size + 1 + 1]? = some (.cells #[.string ⟨#[]⟩, .string ⟨#[]⟩] 24 (0, 0))) := Lib.hid (by
        have h1 := HB.out.rb
        have hs := HB.out.sz
        have hs2 := HCH.out.size
        rw [HX.out.2.block _ (by omega) (by omega), HCH.out.block _ (by omega) (by omega)]
        exact h1)
      go_wp2_with fail
      go_loopw [39] (fun s wr => ∃ k : Nat, k ≤ 64 ∧ s = .int .i64 k ∧ Hid (Mi (chr T) d' w2 k wr)) (fun s _ => 64 - (intOf s).toNat)
      case atStart => exact ⟨0, Nat.zero_le _, rfl, Lib.hid (mi_start _ _ w2)⟩
      case round =>
        obtain ⟨k, hk, rfl, HM⟩ := hrel
        obtain ⟨m0, m1, g0, g1, hmz⟩ := mi_cells HM.out
        by_cases hlt : k < 64
        · have hltz : (k : Int) < 64 := by omega
          obtain ⟨c0, c1, c2⟩ := (HX.out.1.below HM.out.2).cells hlt
          have ne1 : ¬ wr.heap.size = w2.heap.size := by omega
          have hsz1 := chr_size T d'[k]! (by rw [hT]; exact range_perm_lt HPS.out.1 k hlt)
          obtain ⟨ht1, ht2⟩ := tl_size (g := chr T) (d := d') (fun k hk => chr_size T _ (by rw [hT]; exact range_perm_lt HPS.out.1 k hk)) k hk
          have hb1 : (hdS (chr T) d' k).size + (chr T d'[k]!).size ≤ 9223372036854775807 := by omega
          have hb2 : (tlS (chr T) d' k).size + (chr T d'[k]!).size ≤ 9223372036854775807 := by omega
          have HD := fun h o => mi_dig HM.out h o
          have HN := fun h o => mi_not HM.out h o
          have HDD := Lib.hid HD
          have HNN := Lib.hid HN
          clear HD HN ht1 ht2
          have hcs := one_cases (chr T d'[k]!) hsz1
          generalize hs : chr T d'[k]! = s at c0 hb1 hb2 hcs HDD HNN
          generalize hh : hdS (chr T) d' k = hk1 at m0 hb1 HDD HNN
          generalize htt : tlS (chr T) d' k = tk1 at m1 hb2 HDD HNN
          clear hs hh htt hsz1
          rcases hcs with ⟨hd, q1, q2⟩ | ⟨hd, q1, q2, q3⟩ | ⟨hd, q1⟩ | ⟨hd, q1, q2, q3⟩
          · have HI := Lib.hid (HDD.out hd)
            clear hd HDD HNN
            go_wp2_with fail
            go_roundw
            case rel => exact ⟨k + 1, by omega, by go_num, Lib.hid (HI.out _)⟩
            case measure => simp [intOf]; omega
          · have HI := Lib.hid (HDD.out hd)
            clear hd HDD HNN
            go_wp2_with fail
            go_roundw
            case rel => exact ⟨k + 1, by omega, by go_num, Lib.hid (HI.out _)⟩
            case measure => simp [intOf]; omega
          · have HI := Lib.hid (HNN.out hd)
            clear hd HDD HNN
            go_wp2_with fail
            go_roundw
            case rel => exact ⟨k + 1, by omega, by go_num, Lib.hid (HI.out _)⟩
            case measure => simp [intOf]; omega
          · have HI := Lib.hid (HNN.out hd)
            clear hd HDD HNN
            go_wp2_with fail
            go_roundw
            case rel => exact ⟨k + 1, by omega, by go_num, Lib.hid (HI.out _)⟩
            case measure => simp [intOf]; omega
        · have hge3 : ¬ (k : Int) < 64 := by omega
          have e64 : k = 64 := by omega
          have hrw := (HM.out.2.block (w.heap.size + 1 + 1) (by have := HB.out.sz; have := HCH.out.size; have := HX.out.2.size; omega)).trans HRB.out
          have r0 := (cell_of_row _ _ 0 _ _ _ hrw)
          have r1 := (cell_of_row _ _ 1 _ _ _ hrw)
          have z0 := frozen_of_row _ _ 0 _ _ hrw
          have z1 := frozen_of_row _ _ 1 _ _ hrw
          simp only [List.getElem?_toArray, List.getElem?_cons_zero, List.getElem?_cons_succ] at r0 r1
          rw [e64] at m0 m1
          have HBW := Lib.hid ((((HB.out.bl).trans (HCH.out.below (B := w.heap.size) (by have := HB.out.sz; omega) (fun i hi => by omega))).trans (HX.out.2.below (B := w.heap.size) (by have := HB.out.sz; have := HCH.out.size; omega) (fun i hi => by omega))).trans (HM.out.2.mono (by have := HB.out.sz; have := HCH.out.size; have := HX.out.2.size; omega)))
          clear hrw e64
          go_wp2_with fail
          have s0 : (((wr.setCell ⟨w.heap.size + 1 + 1, 0, none⟩ (.string (hdS (chr T) d' 64))).setCell ⟨w.heap.size + 1 + 1, 1, none⟩ (.string (tlS (chr T) d' 64))).cell? ⟨w.heap.size + 1 + 1, 0, none⟩) = some (.string (hdS (chr T) d' 64)) := by
            rw [World.cell?_setCell_other _ _ _ _ (by simp)]
            exact World.cell?_setCell_same _ _ _ (by rw [r0])
          have s1 : (((wr.setCell ⟨w.heap.size + 1 + 1, 0, none⟩ (.string (hdS (chr T) d' 64))).setCell ⟨w.heap.size + 1 + 1, 1, none⟩ (.string (tlS (chr T) d' 64))).cell? ⟨w.heap.size + 1 + 1, 1, none⟩) = some (.string (tlS (chr T) d' 64)) := by
            exact World.cell?_setCell_same _ _ _ (by rw [World.cell?_setCell_other _ _ _ _ (by simp), r1])
          refine bodyPost_ret (v := .agg #[.string (hdS (chr T) d' 64), .string (tlS (chr T) d' 64)]) ?_ rfl ⟨d', HPS, rfl, Lib.hid ((HBW.out.setCell (by simp; omega) _).setCell (by simp; omega) _)⟩
          simp [results, Try.results6, go_sem, s0, s1]
end
end Go.Proofs.Ytiocceoogapkcaa.Aux
