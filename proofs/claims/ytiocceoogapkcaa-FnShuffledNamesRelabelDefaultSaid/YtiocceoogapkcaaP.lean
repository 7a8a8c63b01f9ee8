/- Contracts of functions that the law of this seat reaches, and plain facts; no condition. -/
import Derived.Test.YtiocceoogapkcaaProg
import Derived.WalkKit
import Derived.ProofKit
import Derived.OpenShut
import Derived.ShutString
import Derived.Test.YtiocceoogapkcaaAid
import Derived.Test.YtiocceoogapkcaaO
import Derived.Sort.LotA
import Derived.Sort.LotB
import Derived.Sort.LotC
import Derived.Sort.LotD3
import Derived.ArgAppend
import Derived.WalkSmall
import Derived.WalkSpells
import Derived.WalkLawsBesides
import Derived.LoopTactic
import Derived.Deep.LoopGhost
import Derived.Deep.CutBlock
import Derived.Deep.DeepCutAuto
import Derived.IntWalk
import Derived.Outline
import Derived.Deep.QuietTactic
import Derived.BigQuiet
import Derived.RegionTactic
import Derived.Deep.RegionHeld3
import Derived.Deep.MidRow
import Derived.StillTailTactics
import Derived.Shelf.Small.Bits
import Derived.Shelf.Lays
import Derived.Laws.BitsAllLaws
import Derived.Laws.BitsLemmas
import Derived.BigRegion
import Derived.Laws.OwnMore
import Derived.Laws.Rows
namespace Go.Proofs.Ytiocceoogapkcaa.Aux
open Go.ChangeShapes Go.WideShapes Go.ChangeAt Go.RowKit
open Go.ChangeMaps (open_string shut_string)
set_option linter.unusedVariables false
set_option linter.unusedSimpArgs false
open Fl Str Pb Qd PlainAid Aux
open Go.Sort (swp)
section
variable {f : Nat → Int} {w w' : World} {d : Array Nat}
def KS (fb mb : Nat) (C : Array Value) (Y X : ByteArray) (w' : World) : Prop := w'.rangeAt fb 0 C.toList ∧ w'.cell? ⟨mb, 0, none⟩ = some (.string Y) ∧ w'.cell? ⟨mb, 1, none⟩ = some (.string X)
theorem ks_below {fb mb : Nat} {C : Array Value} {Y X : ByteArray} (h : KS fb mb C Y X w) (hf : fb < w.heap.size) (hm : mb < w.heap.size) (hb : Below w.heap.size w w') : KS fb mb C Y X w' :=
  ⟨fun j v hj => (hb.cell (p := ⟨fb, 0 + j, none⟩) hf).trans (h.1 j v hj), (hb.cell (p := ⟨mb, 0, none⟩) hm).trans h.2.1, (hb.cell (p := ⟨mb, 1, none⟩) hm).trans h.2.2⟩
theorem info22 : (Try.prog.info? 22).map (·.size) = some 64 := by kernel_rfl
set_option maxRecDepth 100000 in
set_option maxHeartbeats 16000000 in
theorem main3 (z : List Int) (hz : z.length = 64) (w : World) : Calls Try.prog 3 #[.agg (z.map (Value.int .i32)).toArray] w (Ok7 w) := by
  obtain ⟨f, hf⟩ : ∃ f : Nat → Int, f = fun i => z.getD i 0 := ⟨_, rfl⟩
  have hfz : ∀ i, z.getD i 0 = f i := fun i => by rw [hf]
  have hsh := fun w => shuf6 ⟨#[97, 98, 99, 100, 101, 102, 103, 104, 105, 106, 107, 108, 109, 110, 111, 112, 113, 114, 115, 116, 117, 118, 119, 120, 121, 122, 65, 66, 67, 68, 69, 70, 71, 72, 73, 74, 75, 76, 77, 78, 79, 80, 81, 82, 83, 84, 85, 86, 87, 88, 89, 90, 95, 36]⟩ ⟨#[97, 98, 99, 100, 101, 102, 103, 104, 105, 106, 107, 108, 109, 110, 111, 112, 113, 114, 115, 116, 117, 118, 119, 120, 121, 122, 65, 66, 67, 68, 69, 70, 71, 72, 73, 74, 75, 76, 77, 78, 79, 80, 81, 82, 83, 84, 85, 86, 87, 88, 89, 90, 48, 49, 50, 51, 52, 53, 54, 55, 56, 57, 95, 36]⟩ rfl z hz w
  rw [← hf] at hsh
  have hmo := fun (d : Array Nat) hp hs w => model7 (f := f) (d := d) ⟨#[97, 98, 99, 100, 101, 102, 103, 104, 105, 106, 107, 108, 109, 110, 111, 112, 113, 114, 115, 116, 117, 118, 119, 120, 121, 122, 65, 66, 67, 68, 69, 70, 71, 72, 73, 74, 75, 76, 77, 78, 79, 80, 81, 82, 83, 84, 85, 86, 87, 88, 89, 90, 48, 49, 50, 51, 52, 53, 54, 55, 56, 57, 95, 36]⟩ rfl z hz hfz hp hs w
  clear hfz hf
  obtain ⟨C, hC⟩ : ∃ C, (z.map (Value.int .i32)).toArray = C := ⟨_, rfl⟩
  have hCs : C.size = 64 := by rw [← hC]; simpa using hz
  have hC0 : ¬ C = #[] := by intro e; rw [e] at hCs; cases hCs
  rw [hC] at hsh hmo ⊢
  have HSH := Lib.hid hsh
  have HMO := Lib.hid hmo
  have i22 : (Try.prog.info? 22).map (·.size) = some C.size := by rw [hCs]; exact info22
  have i22l : (Try.prog.info? 22).map (·.size) = some C.toList.length := by rw [Array.length_toList]; exact i22
  have I22 := Lib.hid i22
  have I22L := Lib.hid i22l
  have u22 := Try.underlying22
  clear hC hsh hmo hCs i22 i22l hz
  go_enter Try.func3, Try.ntmps3
  go_wp2_with fail
  refine (new5 _ _ _).mono ?_
  rintro e w1 ⟨rfl, hb1⟩
  have HR0 : Hid ((w.alloc (.cells C 22)).heap[w.heap.size]? = some (.cells C 22 (0, 0))) := Lib.hid (heap_alloc_new _ _)
  have hz1 : w.heap.size + 1 ≤ w1.heap.size := by have := hb1.size; simpa using this
  have HR1 : Hid (w1.heap[w.heap.size]? = some (.cells C 22 (0, 0))) := Lib.hid ((hb1.block _ (by simp)).trans HR0.out)
  have HB1 : Hid (Below w.heap.size w w1) := Lib.hid (((Below.refl _ w).alloc (Nat.le_refl _) (.cells C 22)).trans (hb1.mono (by simp)))
  clear hb1
  go_wp2_with (with_reducible refine wpList_load_row rfl 22 _ rfl w.heap.size rfl 22 C (0, 0) _ ((Below.heap_alloc _ _ _ (by omega)).trans HR1.out) u22 rfl I22.out ?_)
  refine (HSH.out _).mono ?_
  rintro e w2 ⟨d, HP, rfl, HB2⟩
  have HM := Lib.hid (fun w => HMO.out d HP.out.1 HP.out.2 w)
  obtain ⟨Y, hY⟩ : ∃ Y, hdS (chr ⟨#[97, 98, 99, 100, 101, 102, 103, 104, 105, 106, 107, 108, 109, 110, 111, 112, 113, 114, 115, 116, 117, 118, 119, 120, 121, 122, 65, 66, 67, 68, 69, 70, 71, 72, 73, 74, 75, 76, 77, 78, 79, 80, 81, 82, 83, 84, 85, 86, 87, 88, 89, 90, 48, 49, 50, 51, 52, 53, 54, 55, 56, 57, 95, 36]⟩) d 64 = Y := ⟨_, rfl⟩
  obtain ⟨X, hX⟩ : ∃ X, tlS (chr ⟨#[97, 98, 99, 100, 101, 102, 103, 104, 105, 106, 107, 108, 109, 110, 111, 112, 113, 114, 115, 116, 117, 118, 119, 120, 121, 122, 65, 66, 67, 68, 69, 70, 71, 72, 73, 74, 75, 76, 77, 78, 79, 80, 81, 82, 83, 84, 85, 86, 87, 88, 89, 90, 48, 49, 50, 51, 52, 53, 54, 55, 56, 57, 95, 36]⟩) d 64 = X := ⟨_, rfl⟩
  rw [hY, hX] at HM ⊢
  clear hY hX HMO HSH
  have hz2 : w.heap.size < w2.heap.size := by have := HB2.out.size; simp at this; omega
  have HR2 : Hid (w2.heap[w.heap.size]? = some (.cells C 22 (0, 0))) := Lib.hid ((HB2.out.block _ (by simp; omega)).trans ((Below.heap_alloc _ _ _ (by omega)).trans HR1.out))
  have HBW : Hid (Below w.heap.size w (w2.alloc (.cells #[.string Y, .string X] 24))) := Lib.hid (((HB1.out.alloc (by omega) _).trans (HB2.out.mono (by simp; omega))).alloc (by omega) _)
  have HS0 : Hid (KS w.heap.size w2.heap.size C Y X (w2.alloc (.cells #[.string Y, .string X] 24))) := Lib.hid (by
    have hn := heap_alloc_new w2 (.cells #[.string Y, .string X] 24)
    have ho := (Below.heap_alloc w2 (.cells #[.string Y, .string X] 24) _ hz2).trans HR2.out
    refine ⟨fun j v hj => ?_, by rw [cell_of_row _ _ 0 _ _ _ hn]; rfl, by rw [cell_of_row _ _ 1 _ _ _ hn]; rfl⟩
    rw [Nat.zero_add, cell_of_row _ _ j _ _ _ ho, ← hj, Array.getElem?_toList])
  have hzW : w2.heap.size < (w2.alloc (.cells #[.string Y, .string X] 24)).heap.size := by simp
  clear HR0 HR1 HR2 HB1 HB2 HP
  go_wp2_with fail
  generalize w2.alloc (.cells #[.string Y, .string X] 24) = W at HBW HS0 hzW ⊢
  have i22l := I22L.out
  obtain ⟨s0, s1, s2⟩ := HS0.out
  go_region_held3 (fun w' => w'.rangeAt w.heap.size 0 C.toList ∧ w'.cell? ⟨w2.heap.size, 0, none⟩ = some (.string Y) ∧ w'.cell? ⟨w2.heap.size, 1, none⟩ = some (.string X))
    (first | exact ⟨s0, s1, s2⟩ | exact HS3.out | exact HS4.out | exact HS5.out | assumption)
    (first
      | (go_at_call 8
         refine (head8 Y X _).mono ?_
         rintro e w3 ⟨rfl, hb3⟩
         have HB3 := Lib.hid hb3
         have HS3 := Lib.hid (ks_below HS0.out (by omega) hzW (below_of_drew hb3))
         clear hb3)
      | (go_at_call 9
         refine (tail9 Y X _).mono ?_
         rintro e w4 ⟨rfl, hb4⟩
         have HB4 := Lib.hid hb4
         have HS4 := Lib.hid (ks_below HS3.out (by have := HB3.out.size; simp at this; omega) (by have := HB3.out.size; simp at this; omega) hb4)
         clear hb4)
      | (go_at_call 7
         refine (HM.out _).mono ?_
         rintro e w5 ⟨rfl, hb5⟩
         have HB5 := Lib.hid hb5
         have HS5 := Lib.hid (ks_below HS4.out (by have := HB3.out.size; have := HB4.out.size; simp at *; omega) (by have := HB3.out.size; have := HB4.out.size; simp at *; omega) hb5)
         clear hb5))
  go_wp2_with fail
  go_ret
  exact ⟨rfl, ((HBW.out.trans ((below_of_drew HB3.out).mono HBW.out.size)).trans (HB4.out.mono (by have := HB3.out.size; have := HBW.out.size; simp at *; omega))).trans (HB5.out.mono (by have := HB3.out.size; have := HB4.out.size; have := HBW.out.size; simp at *; omega))⟩
end
end Go.Proofs.Ytiocceoogapkcaa.Aux
