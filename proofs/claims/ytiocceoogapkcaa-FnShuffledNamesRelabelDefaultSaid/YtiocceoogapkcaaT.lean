/- Contracts of functions that the law of this seat reaches, and plain facts; no condition. -/
import Derived.Test.YtiocceoogapkcaaProg
import Derived.WalkKit
import Derived.ProofKit
import Derived.OpenShut
import Derived.ShutString
import Derived.Test.YtiocceoogapkcaaAid
import Derived.Test.YtiocceoogapkcaaS
import Derived.Test.YtiocceoogapkcaaP
import Derived.Sort.LotA
import Derived.Sort.LotB
import Derived.Sort.LotC
import Derived.Sort.LotD3
import Derived.ArgAppend
import Derived.WalkSmall
import Derived.WalkSpells
import Derived.Test.YtiocceoogapkcaaShelf
import Derived.Lib.Builder
import Derived.Lib.AppendStr
import Derived.Laws.Externs
import Derived.WalkLawsBesides
import Derived.LoopTactic
import Derived.Deep.LoopGhost
import Derived.Deep.CutBlock
import Derived.Deep.DeepCutAuto
import Derived.IntWalk
import Derived.Outline
import Derived.Deep.QuietTactic
import Derived.BigQuiet
import Derived.RegionTactic
import Derived.Deep.RegionHeld3
import Derived.Deep.MidRow
import Derived.StillTailTactics
import Derived.Shelf.Small.Bits
import Derived.Shelf.Lays
import Derived.Laws.BitsAllLaws
import Derived.Laws.BitsLemmas
import Derived.BigRegion
import Derived.Laws.OwnMore
import Derived.Laws.Rows
namespace Go.Proofs.Ytiocceoogapkcaa.Aux
open Go.ChangeShapes Go.WideShapes Go.ChangeAt Go.RowKit
open Go.ChangeMaps (open_string shut_string)
set_option linter.unusedVariables false
set_option linter.unusedSimpArgs false
open Fl Str Pb Qd PlainAid Aux
open Go.Sort (swp)
section
variable {f : Nat → Int} {w w' : World} {d : Array Nat}
theorem disH : dis ⟨#[97, 98, 99, 100, 101, 102, 103, 104, 105, 106, 107, 108, 109, 110, 111, 112, 113, 114, 115, 116, 117, 118, 119, 120, 121, 122, 65, 66, 67, 68, 69, 70, 71, 72, 73, 74, 75, 76, 77, 78, 79, 80, 81, 82, 83, 84, 85, 86, 87, 88, 89, 90, 95, 36]⟩ = true := by kernel_rfl
theorem disT : dis ⟨#[97, 98, 99, 100, 101, 102, 103, 104, 105, 106, 107, 108, 109, 110, 111, 112, 113, 114, 115, 116, 117, 118, 119, 120, 121, 122, 65, 66, 67, 68, 69, 70, 71, 72, 73, 74, 75, 76, 77, 78, 79, 80, 81, 82, 83, 84, 85, 86, 87, 88, 89, 90, 48, 49, 50, 51, 52, 53, 54, 55, 56, 57, 95, 36]⟩ = true := by kernel_rfl
theorem nd54 : ((List.range 64).filter (fun x => !isDig (chr ⟨#[97, 98, 99, 100, 101, 102, 103, 104, 105, 106, 107, 108, 109, 110, 111, 112, 113, 114, 115, 116, 117, 118, 119, 120, 121, 122, 65, 66, 67, 68, 69, 70, 71, 72, 73, 74, 75, 76, 77, 78, 79, 80, 81, 82, 83, 84, 85, 86, 87, 88, 89, 90, 48, 49, 50, 51, 52, 53, 54, 55, 56, 57, 95, 36]⟩ x))).length = 54 := by kernel_rfl
/-- The two strings stand in a block. -/
def K2 (mb : Nat) (Y X : ByteArray) (w' : World) : Prop := w'.cell? ⟨mb, 0, none⟩ = some (.string Y) ∧ w'.cell? ⟨mb, 1, none⟩ = some (.string X)
theorem k2_below {mb : Nat} {Y X : ByteArray} (h : K2 mb Y X w) (hm : mb < w.heap.size) (hb : Below w.heap.size w w') : K2 mb Y X w' :=
  ⟨(hb.cell (p := ⟨mb, 0, none⟩) hm).trans h.1, (hb.cell (p := ⟨mb, 1, none⟩) hm).trans h.2⟩
theorem k2_new (w : World) (Y X : ByteArray) : K2 w.heap.size Y X (w.alloc (.cells #[.string Y, .string X] 24)) := by
  have hn := heap_alloc_new w (.cells #[.string Y, .string X] 24)
  exact ⟨by rw [cell_of_row _ _ 0 _ _ _ hn]; rfl, by rw [cell_of_row _ _ 1 _ _ _ hn]; rfl⟩
set_option maxRecDepth 100000 in
set_option maxHeartbeats 16000000 in
theorem main4 (z : List Int) (hz : z.length = 64) (x : Int) (w : World) : Calls Try.prog 4 #[.agg (z.map (Value.int .i32)).toArray, .int .i64 x] w (Ok7 w) := by
  have hsh := fun w => shuf6 ⟨#[97, 98, 99, 100, 101, 102, 103, 104, 105, 106, 107, 108, 109, 110, 111, 112, 113, 114, 115, 116, 117, 118, 119, 120, 121, 122, 65, 66, 67, 68, 69, 70, 71, 72, 73, 74, 75, 76, 77, 78, 79, 80, 81, 82, 83, 84, 85, 86, 87, 88, 89, 90, 95, 36]⟩ ⟨#[97, 98, 99, 100, 101, 102, 103, 104, 105, 106, 107, 108, 109, 110, 111, 112, 113, 114, 115, 116, 117, 118, 119, 120, 121, 122, 65, 66, 67, 68, 69, 70, 71, 72, 73, 74, 75, 76, 77, 78, 79, 80, 81, 82, 83, 84, 85, 86, 87, 88, 89, 90, 48, 49, 50, 51, 52, 53, 54, 55, 56, 57, 95, 36]⟩ rfl z hz w
  obtain ⟨f, hf⟩ : ∃ f : Nat → Int, f = fun i => z.getD i 0 := ⟨_, rfl⟩
  rw [← hf] at hsh
  clear hf
  obtain ⟨C, hC⟩ : ∃ C, (z.map (Value.int .i32)).toArray = C := ⟨_, rfl⟩
  have hCs : C.size = 64 := by rw [← hC]; simpa using hz
  have hC0 : ¬ C = #[] := by intro e; rw [e] at hCs; cases hCs
  rw [hC] at hsh ⊢
  have HSH := Lib.hid hsh
  have i22 : (Try.prog.info? 22).map (·.size) = some C.size := by rw [hCs]; exact info22
  have I22 := Lib.hid i22
  have u22 := Try.underlying22
  clear hC hsh hCs i22 hz
  by_cases h1 : x < 0
  · go_enter Try.func4, Try.ntmps4
    go_wp2_with fail
    go_ret
    exact ⟨rfl, (Below.refl _ _).alloc (Nat.le_refl _) _⟩
  by_cases h2 : 2147483647 < x
  · go_enter Try.func4, Try.ntmps4
    go_wp2_with fail
    go_ret
    exact ⟨rfl, (Below.refl _ _).alloc (Nat.le_refl _) _⟩
  obtain ⟨i, rfl⟩ : ∃ i : Nat, x = i := ⟨x.toNat, by omega⟩
  have hi : i ≤ 2147483647 := by omega
  go_enter Try.func4, Try.ntmps4
  go_wp2_with fail
  refine (new5 _ _ _).mono ?_
  rintro e w1 ⟨rfl, hb1⟩
  have HR0 : Hid ((w.alloc (.cells C 22)).heap[w.heap.size]? = some (.cells C 22 (0, 0))) := Lib.hid (heap_alloc_new _ _)
  have hz1 : w.heap.size + 1 ≤ w1.heap.size := by have := hb1.size; simpa using this
  have HR1 : Hid (w1.heap[w.heap.size]? = some (.cells C 22 (0, 0))) := Lib.hid ((hb1.block _ (by simp)).trans HR0.out)
  have HB1 : Hid (Below w.heap.size w w1) := Lib.hid (((Below.refl _ w).alloc (Nat.le_refl _) (.cells C 22)).trans (hb1.mono (by simp)))
  clear hb1 HR0
  go_wp2_with (with_reducible refine wpList_load_row rfl 22 _ rfl w.heap.size rfl 22 C (0, 0) _ ((Below.heap_alloc _ _ _ (by omega)).trans HR1.out) u22 rfl I22.out ?_)
  refine (HSH.out _).mono ?_
  rintro e w2 ⟨d, HP, rfl, HB2⟩
  have hg : ∀ k, k < 64 → (chr ⟨#[97, 98, 99, 100, 101, 102, 103, 104, 105, 106, 107, 108, 109, 110, 111, 112, 113, 114, 115, 116, 117, 118, 119, 120, 121, 122, 65, 66, 67, 68, 69, 70, 71, 72, 73, 74, 75, 76, 77, 78, 79, 80, 81, 82, 83, 84, 85, 86, 87, 88, 89, 90, 48, 49, 50, 51, 52, 53, 54, 55, 56, 57, 95, 36]⟩ d[k]!).size = 1 := fun k hk => chr_size ⟨#[97, 98, 99, 100, 101, 102, 103, 104, 105, 106, 107, 108, 109, 110, 111, 112, 113, 114, 115, 116, 117, 118, 119, 120, 121, 122, 65, 66, 67, 68, 69, 70, 71, 72, 73, 74, 75, 76, 77, 78, 79, 80, 81, 82, 83, 84, 85, 86, 87, 88, 89, 90, 48, 49, 50, 51, 52, 53, 54, 55, 56, 57, 95, 36]⟩ _ (range_perm_lt HP.out.1 k hk)
  have hY54 : (hdS (chr ⟨#[97, 98, 99, 100, 101, 102, 103, 104, 105, 106, 107, 108, 109, 110, 111, 112, 113, 114, 115, 116, 117, 118, 119, 120, 121, 122, 65, 66, 67, 68, 69, 70, 71, 72, 73, 74, 75, 76, 77, 78, 79, 80, 81, 82, 83, 84, 85, 86, 87, 88, 89, 90, 48, 49, 50, 51, 52, 53, 54, 55, 56, 57, 95, 36]⟩) d 64).size = 54 := (hd_54 HP.out.1 hg).trans nd54
  have hX64 : (tlS (chr ⟨#[97, 98, 99, 100, 101, 102, 103, 104, 105, 106, 107, 108, 109, 110, 111, 112, 113, 114, 115, 116, 117, 118, 119, 120, 121, 122, 65, 66, 67, 68, 69, 70, 71, 72, 73, 74, 75, 76, 77, 78, 79, 80, 81, 82, 83, 84, 85, 86, 87, 88, 89, 90, 48, 49, 50, 51, 52, 53, 54, 55, 56, 57, 95, 36]⟩) d 64).size = 64 := (tl_size hg 64 (Nat.le_refl _)).1
  obtain ⟨Y, hY⟩ : ∃ Y, hdS (chr ⟨#[97, 98, 99, 100, 101, 102, 103, 104, 105, 106, 107, 108, 109, 110, 111, 112, 113, 114, 115, 116, 117, 118, 119, 120, 121, 122, 65, 66, 67, 68, 69, 70, 71, 72, 73, 74, 75, 76, 77, 78, 79, 80, 81, 82, 83, 84, 85, 86, 87, 88, 89, 90, 48, 49, 50, 51, 52, 53, 54, 55, 56, 57, 95, 36]⟩) d 64 = Y := ⟨_, rfl⟩
  obtain ⟨X, hX⟩ : ∃ X, tlS (chr ⟨#[97, 98, 99, 100, 101, 102, 103, 104, 105, 106, 107, 108, 109, 110, 111, 112, 113, 114, 115, 116, 117, 118, 119, 120, 121, 122, 65, 66, 67, 68, 69, 70, 71, 72, 73, 74, 75, 76, 77, 78, 79, 80, 81, 82, 83, 84, 85, 86, 87, 88, 89, 90, 48, 49, 50, 51, 52, 53, 54, 55, 56, 57, 95, 36]⟩) d 64 = X := ⟨_, rfl⟩
  rw [hY] at hY54
  rw [hX] at hX64
  rw [hY, hX]
  obtain ⟨A, B, n, j, t, nA, nB, zA, zB, hn, hj, xj, bj, hk⟩ := names ⟨#[97, 98, 99, 100, 101, 102, 103, 104, 105, 106, 107, 108, 109, 110, 111, 112, 113, 114, 115, 116, 117, 118, 119, 120, 121, 122, 65, 66, 67, 68, 69, 70, 71, 72, 73, 74, 75, 76, 77, 78, 79, 80, 81, 82, 83, 84, 85, 86, 87, 88, 89, 90, 95, 36]⟩ ⟨#[97, 98, 99, 100, 101, 102, 103, 104, 105, 106, 107, 108, 109, 110, 111, 112, 113, 114, 115, 116, 117, 118, 119, 120, 121, 122, 65, 66, 67, 68, 69, 70, 71, 72, 73, 74, 75, 76, 77, 78, 79, 80, 81, 82, 83, 84, 85, 86, 87, 88, 89, 90, 48, 49, 50, 51, 52, 53, 54, 55, 56, 57, 95, 36]⟩ Y X hY54 hX64 (by decide) (by decide) (by decide) (by decide) disH disT i hi
  have hj : j < 54 := hj
  obtain ⟨N, hN⟩ : ∃ N, N = n + 1 := ⟨_, rfl⟩
  rw [← hN] at zA zB hk
  have hN1 : 1 ≤ N := by omega
  have hN2 : N ≤ 2147483648 := by omega
  clear hN hn
  obtain ⟨a0, ha0⟩ : ∃ a, bt A 0 = a := ⟨_, rfl⟩
  obtain ⟨b0, hb0⟩ : ∃ b, bt B 0 = b := ⟨_, rfl⟩
  rw [ha0] at xj
  rw [hb0] at bj
  have GA0 : Hid (∀ h' : 0 < A.size, ((A[0]'h').toNat : Int) = a0) := Lib.hid fun h' => (get_bt A 0 h').trans ha0
  have GB0 : Hid (∀ h' : 0 < B.size, ((B[0]'h').toNat : Int) = b0) := Lib.hid fun h' => (get_bt B 0 h').trans hb0
  have GYJ : Hid (∀ h' : j < Y.size, ((Y[j]'h').toNat : Int) = b0) := Lib.hid fun h' => (get_bt Y j h').trans bj.symm
  clear ha0 hb0
  have HNA := Lib.hid nA
  have HNB := Lib.hid nB
  have HXJ := Lib.hid xj
  have HK : Hid (∀ k, 1 ≤ k → k < N → t k < 64 ∧ _ ∧ _) := Lib.hid hk
  clear hY hX HSH hg nA nB xj bj hk HP
  have hz2 : w1.heap.size < w2.heap.size := by have := HB2.out.size; simp at this; omega
  have HM2 : Hid (K2 w1.heap.size ⟨#[97, 98, 99, 100, 101, 102, 103, 104, 105, 106, 107, 108, 109, 110, 111, 112, 113, 114, 115, 116, 117, 118, 119, 120, 121, 122, 65, 66, 67, 68, 69, 70, 71, 72, 73, 74, 75, 76, 77, 78, 79, 80, 81, 82, 83, 84, 85, 86, 87, 88, 89, 90, 95, 36]⟩ ⟨#[97, 98, 99, 100, 101, 102, 103, 104, 105, 106, 107, 108, 109, 110, 111, 112, 113, 114, 115, 116, 117, 118, 119, 120, 121, 122, 65, 66, 67, 68, 69, 70, 71, 72, 73, 74, 75, 76, 77, 78, 79, 80, 81, 82, 83, 84, 85, 86, 87, 88, 89, 90, 48, 49, 50, 51, 52, 53, 54, 55, 56, 57, 95, 36]⟩ w2) := Lib.hid (k2_below (k2_new _ _ _) (by simp) HB2.out)
  have HBW : Hid (Below w.heap.size w (w2.alloc (.cells #[.string Y, .string X] 24))) := Lib.hid (((HB1.out.alloc (by omega) _).trans (HB2.out.mono (by simp; omega))).alloc (by omega) _)
  have HM3 : Hid (K2 w1.heap.size ⟨#[97, 98, 99, 100, 101, 102, 103, 104, 105, 106, 107, 108, 109, 110, 111, 112, 113, 114, 115, 116, 117, 118, 119, 120, 121, 122, 65, 66, 67, 68, 69, 70, 71, 72, 73, 74, 75, 76, 77, 78, 79, 80, 81, 82, 83, 84, 85, 86, 87, 88, 89, 90, 95, 36]⟩ ⟨#[97, 98, 99, 100, 101, 102, 103, 104, 105, 106, 107, 108, 109, 110, 111, 112, 113, 114, 115, 116, 117, 118, 119, 120, 121, 122, 65, 66, 67, 68, 69, 70, 71, 72, 73, 74, 75, 76, 77, 78, 79, 80, 81, 82, 83, 84, 85, 86, 87, 88, 89, 90, 48, 49, 50, 51, 52, 53, 54, 55, 56, 57, 95, 36]⟩ (w2.alloc (.cells #[.string Y, .string X] 24))) := Lib.hid (k2_below HM2.out hz2 ((Below.refl _ _).alloc (Nat.le_refl _) _))
  have HS3 : Hid (K2 w2.heap.size Y X (w2.alloc (.cells #[.string Y, .string X] 24))) := Lib.hid (k2_new _ _ _)
  have hzW : w2.heap.size < (w2.alloc (.cells #[.string Y, .string X] 24)).heap.size := by simp
  clear HR1 HB1 HB2 HM2
  go_wp2_with fail
  generalize w2.alloc (.cells #[.string Y, .string X] 24) = W at HBW HS3 HM3 hzW ⊢
  have hb0 := HBW.out.size
  refine (head8 Y X _).mono ?_
  rintro e w3 ⟨rfl, hb3⟩
  have HS4 := Lib.hid (k2_below HS3.out hzW hb3)
  have HM4 := Lib.hid (k2_below HM3.out (by omega) hb3)
  have HB4 : Hid (Below w.heap.size w w3) := Lib.hid (HBW.out.trans (hb3.mono hb0))
  have hz3 : W.heap.size ≤ w3.heap.size := hb3.size
  obtain ⟨s0, s1⟩ := HS4.out
  clear hb3 HBW HS3 HM3
  go_wp2_with fail
  refine (tail9 Y X _).mono ?_
  rintro e w4 ⟨rfl, hb4⟩
  clear s0 s1
  have HS5 := Lib.hid (k2_below HS4.out (by omega) hb4)
  have HM5 := Lib.hid (k2_below HM4.out (by omega) hb4)
  have HB5 : Hid (Below w.heap.size w w4) := Lib.hid (HB4.out.trans (hb4.mono (by omega)))
  have hz4 : w3.heap.size ≤ w4.heap.size := hb4.size
  obtain ⟨s0, s1⟩ := HM5.out
  clear hb4 HS4 HM4 HB4
  go_wp2_with fail
  refine (HNA.out _).mono ?_
  rintro e w5 ⟨rfl, hb5⟩
  clear s0 s1
  have HS6 := Lib.hid (k2_below HS5.out (by omega) hb5.out)
  have HB6 : Hid (Below w.heap.size w w5) := Lib.hid (HB5.out.trans (hb5.out.mono (by omega)))
  have hz5 : w4.heap.size ≤ w5.heap.size := hb5.out.size
  obtain ⟨s0, s1⟩ := HS6.out
  clear hb5 HS5 HM5 HB5
  go_wp2_with fail
  refine (HNB.out _).mono ?_
  rintro e w6 ⟨rfl, hb6⟩
  clear s0 s1
  have HB7 : Hid (Below w.heap.size w w6) := Lib.hid (HB6.out.trans (hb6.out.mono (by omega)))
  clear hb6 HS6 HB6 hz5 hz4 hz3 hzW hz2 hz1 hb0
  have NA : ¬ (N : Int) = 0 := by omega
  have NB : ((N : Int) == 0) = false := beq_eq_false_iff_ne.2 NA
  have g1 := GA0.out
  go_wp2_with fail
  refine (HXJ.out _).mono ?_
  rintro e w7 ⟨rfl, rfl⟩
  clear g1
  have g1 := GB0.out
  have g2 := GYJ.out
  have jz : (j : Int) < 54 := by omega
  have n0 : (0 : Int) < (N : Int) := by omega
  have j0 : ¬ (j : Int) < 0 := by omega
  have j1 : ¬ (54 : Int) ≤ (j : Int) := by omega
  have jd0 : decide ((j : Int) < 0) = false := decide_eq_false j0
  have jd1 : decide ((54 : Int) ≤ (j : Int)) = false := decide_eq_false j1
  go_wp2_with fail
  go_quiet (fail)
  go_wp2_with fail
  clear g1 g2
  go_loopw [12] (fun s12 wr => ∃ k : Nat, 1 ≤ k ∧ k ≤ N ∧ s12 = .int .i64 k ∧ ∃ q, wr = w7.drewN q) (fun s12 _ => N - (intOf s12).toNat)
  case atStart => exact ⟨1, Nat.le_refl _, hN1, rfl, _, rfl⟩
  case round =>
    obtain ⟨k, hk1, hkN, rfl, q, rfl⟩ := hrel
    by_cases hlt : k < N
    · have hkz : (k : Int) < (N : Int) := by omega
      obtain ⟨tl, xt, bk⟩ := HK.out k hk1 hlt
      obtain ⟨ak, hak⟩ : ∃ a, bt A k = a := ⟨_, rfl⟩
      obtain ⟨bv, hbv⟩ : ∃ b, bt B k = b := ⟨_, rfl⟩
      rw [hak] at xt
      rw [hbv] at bk
      have HXT := Lib.hid xt
      have g1 : ∀ h' : k < A.size, ((A[k]'h').toNat : Int) = ak := fun h' => (get_bt A k h').trans hak
      have g2 : ∀ h' : k < B.size, ((B[k]'h').toNat : Int) = bv := fun h' => (get_bt B k h').trans hbv
      obtain ⟨m, hm⟩ : ∃ m, t k = m := ⟨_, rfl⟩
      rw [hm] at tl bk HXT
      have g3 : ∀ h' : m < X.size, ((X[m]'h').toNat : Int) = bv := fun h' => (get_bt X m h').trans bk.symm
      have mz : (m : Int) < 64 := by omega
      have m0 : ¬ (m : Int) < 0 := by omega
      have m1 : ¬ (64 : Int) ≤ (m : Int) := by omega
      have md0 : decide ((m : Int) < 0) = false := decide_eq_false m0
      have md1 : decide ((64 : Int) ≤ (m : Int)) = false := decide_eq_false m1
      clear xt bk hak hbv hm
      go_wp2_with (go_at_call 11; refine (HXT.out _).mono ?_; rintro e w8 ⟨rfl, rfl⟩)
      go_quiet (fail)
      go_wp2_with fail
      go_roundw
      case rel => exact ⟨k + 1, by omega, by omega, by go_num, _, rfl⟩
      case measure => simp [intOf]; omega
    · have hkz : ¬ (k : Int) < (N : Int) := by omega
      go_wp2_with fail
      go_ret
      exact ⟨rfl, below_drewN HB7.out _⟩
end
end Go.Proofs.Ytiocceoogapkcaa.Aux
