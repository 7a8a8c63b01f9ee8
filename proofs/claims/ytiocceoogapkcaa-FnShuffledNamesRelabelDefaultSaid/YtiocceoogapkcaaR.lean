/- Contracts of functions that the law of this seat reaches, and plain facts; no condition. -/
import Derived.Test.YtiocceoogapkcaaProg
import Derived.WalkKit
import Derived.ProofKit
import Derived.OpenShut
import Derived.ShutString
import Derived.Test.YtiocceoogapkcaaAid
import Derived.Test.YtiocceoogapkcaaQ
import Derived.Sort.LotA
import Derived.Sort.LotB
import Derived.Sort.LotC
import Derived.Sort.LotD3
import Derived.ArgAppend
import Derived.WalkSmall
import Derived.WalkSpells
import Derived.Test.YtiocceoogapkcaaShelf
import Derived.Lib.Builder
import Derived.Lib.AppendStr
import Derived.Laws.Externs
import Derived.WalkLawsBesides
import Derived.LoopTactic
import Derived.Deep.LoopGhost
import Derived.Deep.CutBlock
import Derived.Deep.DeepCutAuto
import Derived.IntWalk
import Derived.Outline
import Derived.Deep.QuietTactic
import Derived.BigQuiet
import Derived.RegionTactic
import Derived.Deep.RegionHeld3
import Derived.Deep.MidRow
import Derived.StillTailTactics
import Derived.Shelf.Small.Bits
import Derived.Shelf.Lays
import Derived.Laws.BitsAllLaws
import Derived.Laws.BitsLemmas
import Derived.BigRegion
import Derived.Laws.OwnMore
import Derived.Laws.Rows
namespace Go.Proofs.Ytiocceoogapkcaa.Aux
open Go.ChangeShapes Go.WideShapes Go.ChangeAt Go.RowKit
open Go.ChangeMaps (open_string shut_string)
set_option linter.unusedVariables false
set_option linter.unusedSimpArgs false
open Fl Str Pb Qd PlainAid Aux
open Go.Sort (swp)
/-- The places of a name's later characters. -/
def dgs (n : Nat) : Nat → List Nat
  | 0 => []
  | m + 1 => (m % n) :: dgs n (m / n)
termination_by m => m
decreasing_by exact Nat.lt_succ_of_le (Nat.div_le_self m n)
theorem dgs_lt (n : Nat) (hn : 0 < n) : ∀ (M m : Nat), m ≤ M → ∀ x ∈ dgs n m, x < n := by
  intro M
  induction M with
  | zero =>
    intro m hm x hx
    obtain rfl : m = 0 := by omega
    rw [dgs] at hx; cases hx
  | succ M ih =>
    intro m hm x hx
    cases m with
    | zero => rw [dgs] at hx; cases hx
    | succ m =>
      rw [dgs] at hx
      rcases List.mem_cons.1 hx with rfl | hx
      · exact Nat.mod_lt _ hn
      · exact ih (m / n) (Nat.le_trans (Nat.div_le_self m n) (by omega)) x hx
theorem dgs_len (n : Nat) : ∀ (M m : Nat), m ≤ M → (dgs n m).length ≤ m := by
  intro M
  induction M with
  | zero =>
    intro m hm
    obtain rfl : m = 0 := by omega
    rw [dgs]; simp
  | succ M ih =>
    intro m hm
    cases m with
    | zero => rw [dgs]; simp
    | succ m =>
      rw [dgs]
      have h1 := Nat.div_le_self m n
      have := ih (m / n) (by omega)
      simp; omega
/-- A byte of a text. -/
def ub (T : ByteArray) (x : Nat) : UInt8 := T.data.toList.getD x 0
theorem chr_cells (T : ByteArray) (x : Nat) (h : x < T.size) : Lib.strCells (T.extract x (x + 1)) = Lib.byteCells [ub T x] := by
  have e : (T.extract x (x + 1)).data.toList = [ub T x] := by
    rw [extract_data]
    have hx : x < T.data.toList.length := by rw [len_data]; exact h
    have : x + 1 - x = 1 := by omega
    rw [this, List.drop_eq_getElem_cons hx]
    simp [ub, List.getD, List.getElem?_eq_getElem hx]
  unfold Lib.strCells
  rw [e]
  rfl
/-- The bytes of a name. -/
def nmB (H T : ByteArray) (i : Nat) : List UInt8 := ub H (i % H.size) :: (dgs T.size (i / H.size)).map (ub T)
def Nm (H T : ByteArray) (i : Nat) (w : World) (e : Ending) (w' : World) : Prop := e = .returned (.string ⟨(nmB H T i).toArray⟩) ∧ Hid (Below w.heap.size w w')
theorem bc_app (a b : List UInt8) : Lib.byteCells (a ++ b) = Lib.byteCells a ++ Lib.byteCells b := by
  unfold Lib.byteCells
  exact List.map_append
theorem bc_len (a : List UInt8) : (Lib.byteCells a).length = a.length := by
  unfold Lib.byteCells
  simp
set_option maxHeartbeats 8000000 in
set_option maxRecDepth 100000 in
theorem name10 (H T : ByteArray) (i : Nat) (hH0 : 0 < H.size) (hH : H.size ≤ 64) (hT0 : 0 < T.size) (hT : T.size ≤ 64) (hi : i ≤ 2147483647) (w : World) :
    Calls Try.prog 10 #[.agg #[.string H, .string T], .int .i64 i] w (Nm H T i w) := by
  obtain ⟨j, hj⟩ : ∃ j, j = i % H.size := ⟨_, rfl⟩
  obtain ⟨m0, hm0⟩ : ∃ m, m = i / H.size := ⟨_, rfl⟩
  have hjl : j < H.size := by rw [hj]; exact Nat.mod_lt _ hH0
  have hml : m0 ≤ i := by rw [hm0]; exact Nat.div_le_self _ _
  have e1 : (i : Int) % (H.size : Int) = (j : Int) := by rw [hj]; simp
  have e2 : (i : Int) / (H.size : Int) = (m0 : Int) := by rw [hm0]; simp
  have HNM : Hid (nmB H T i = ub H j :: (dgs T.size m0).map (ub T)) := Lib.hid (by rw [hj, hm0]; rfl)
  have HCH := Lib.hid (chr_cells H j hjl)
  have hjz : (j : Int) + 1 ≤ (H.size : Int) := by omega
  have hz0 : (1 : Int) ≤ (H.size : Int) := by omega
  have hzn : ¬ (H.size : Int) = 0 := by omega
  have hzb : ((H.size : Int) == 0) = false := beq_eq_false_iff_ne.2 hzn
  clear hj hm0
  go_enter Try.func10, Try.ntmps10
  go_wp2_with fail
  have HB0 : Hid (Lib.IsBuilder 43 5 (w.heap.size + 1) (w.heap.size + 1) [] ((w.alloc (.cells #[.string H, .string T] 24)).alloc (.cells #[.pointer none, .slice none 0 0] 43))) := Lib.hid (by
    have := Lib.fresh_isBuilder 43 5 (w.alloc (.cells #[.string H, .string T] 24))
    simpa using this)
  refine (ws14 (w.heap.size + 1) (w.heap.size + 1) [] (H.extract j (j + 1)) _ HB0.out (by simp [ByteArray.size_extract]; omega) (by simp)).mono ?_
  rintro e w1 ⟨rfl, hb1, hl1⟩
  rw [HCH.out, List.nil_append] at hb1
  have HB1 := Lib.hid hb1
  have HT1 : Hid (w1.cell? ⟨w.heap.size, 1, none⟩ = some (.string T)) := Lib.hid (by
    have h0 : ((w.alloc (.cells #[.string H, .string T] 24)).alloc (.cells #[.pointer none, .slice none 0 0] 43)).heap[w.heap.size]? = some (.cells #[.string H, .string T] 24 (0, 0)) := (Below.heap_alloc _ _ _ (by simp)).trans (heap_alloc_new _ _)
    rw [cell_of_row _ _ 1 _ _ _ ((hl1.block _ (by omega)).trans h0)]; rfl)
  have HL1 : Hid (Below w.heap.size w w1) := Lib.hid ((((Below.refl _ w).alloc (Nat.le_refl _) _).alloc (by simp) _).trans (hl1.mono (by omega)))
  have hz1 : w.heap.size + 1 ≤ w1.heap.size := by have := hl1.size; simp at this; omega
  clear hb1 hl1 HB0 HCH
  go_wp2_with fail
  go_loopw [1] (fun s1 wr => ∃ (m : Nat) (l : List UInt8), s1 = .int .i64 m ∧ l ≠ [] ∧ l.length + m ≤ 2147483648 ∧ Hid (nmB H T i = l ++ (dgs T.size m).map (ub T)) ∧ Hid (Lib.BuilderAt 43 5 (w.heap.size + 1) (w.heap.size + 1) (.pointer (some ⟨w.heap.size + 1, 0, none⟩)) (Lib.byteCells l) wr) ∧ Hid (Below (w.heap.size + 1) w1 wr)) (fun s1 _ => (intOf s1).toNat)
  case atStart => exact ⟨m0, [ub H j], rfl, by simp, by simp; omega, HNM, HB1, Lib.hid (Below.refl _ _)⟩
  case round =>
    obtain ⟨m, l, rfl, hl0, hlm, HN, HB, HL⟩ := hrel
    have tc := (HL.out.cell (p := ⟨w.heap.size, 1, none⟩) (by simp)).trans HT1.out
    have hszr := HL.out.size
    rcases Nat.eq_zero_or_pos m with hm0 | hm0
    · have hmz : ¬ 0 < (m : Int) := by omega
      have HS := Lib.hid (Try.Builder_String (w.heap.size + 1) (w.heap.size + 1) l wr (.inr HB.out) hl0)
      have HNN : Hid (nmB H T i = l) := Lib.hid (by have := HN.out; rw [hm0, dgs] at this; simpa using this)
      clear hm0
      go_wp2_with (go_at_call 15; refine HS.out.mono ?_; rintro e w3 ⟨rfl, hb3⟩)
      go_ret
      exact ⟨by rw [HNN.out]; rfl, Lib.hid (HL1.out.trans ((HL.out.mono (by omega)).trans (hb3.mono (by omega))))⟩
    · obtain ⟨x, hx⟩ : ∃ x, x = (m - 1) % T.size := ⟨_, rfl⟩
      obtain ⟨m', hm'⟩ : ∃ m', m' = (m - 1) / T.size := ⟨_, rfl⟩
      have hxl : x < T.size := by rw [hx]; exact Nat.mod_lt _ hT0
      have hml' : m' ≤ m - 1 := by rw [hm']; exact Nat.div_le_self _ _
      have q1 : ((m : Int) - 1) % (T.size : Int) = (x : Int) := by rw [hx, show (m : Int) - 1 = ((m - 1 : Nat) : Int) by omega]; simp
      have q2 : ((m : Int) - 1) / (T.size : Int) = (m' : Int) := by rw [hm', show (m : Int) - 1 = ((m - 1 : Nat) : Int) by omega]; simp
      have HN2 : Hid (nmB H T i = (l ++ [ub T x]) ++ (dgs T.size m').map (ub T)) := Lib.hid (by
        have := HN.out
        obtain ⟨k, rfl⟩ : ∃ k, m = k + 1 := ⟨m - 1, by omega⟩
        rw [this, dgs, hx, hm']
        simp)
      have HC2 := Lib.hid (chr_cells T x hxl)
      have hmz : 0 < (m : Int) := by omega
      have xz : (x : Int) + 1 ≤ (T.size : Int) := by omega
      have t0 : (1 : Int) ≤ (T.size : Int) := by omega
      have tn : ¬ (T.size : Int) = 0 := by omega
      have tb : ((T.size : Int) == 0) = false := beq_eq_false_iff_ne.2 tn
      have mz2 : 0 ≤ (m : Int) - 1 := by omega
      clear hx hm'
      have HW := Lib.hid (ws14 (w.heap.size + 1) (w.heap.size + 1) (Lib.byteCells l) (T.extract x (x + 1)) wr (.inr HB.out) (by rw [bc_len]; simp [ByteArray.size_extract]; omega) (by omega))
      go_wp2_with (go_at_call 14; refine HW.out.mono ?_; rintro e w2 ⟨rfl, hb2, hl2⟩; rw [HC2.out, ← bc_app] at hb2; have HB2 := Lib.hid hb2; have HL2 := Lib.hid hl2; clear hb2 hl2)
      go_roundw
      case rel => exact ⟨m', l ++ [ub T x], (by rw [q2]), by simp, by simp; omega, HN2, HB2, Lib.hid (HL.out.trans HL2.out)⟩
      case measure => simp [intOf]; omega
end Go.Proofs.Ytiocceoogapkcaa.Aux
