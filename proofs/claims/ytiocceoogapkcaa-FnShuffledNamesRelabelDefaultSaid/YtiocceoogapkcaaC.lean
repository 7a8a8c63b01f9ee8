/- Contracts of functions that the law of this seat reaches, and plain facts; no condition. -/
import Derived.Test.YtiocceoogapkcaaProg
import Derived.WalkKit
import Derived.ProofKit
import Derived.OpenShut
import Derived.ShutString
import Derived.Test.YtiocceoogapkcaaAid
import Derived.Test.YtiocceoogapkcaaB
import Derived.Sort.LotA
import Derived.Sort.LotB
import Derived.Sort.LotC
import Derived.Sort.LotD3
import Derived.ArgAppend
import Derived.WalkSmall
import Derived.WalkSpells
import Derived.LoopTactic
import Derived.Deep.LoopGhost
import Derived.IntWalk
import Derived.Outline
import Derived.Deep.QuietTactic
import Derived.BigQuiet
import Derived.RegionTactic
import Derived.BigRegion
import Derived.Laws.OwnMore
import Derived.Laws.Rows
namespace Go.Proofs.Ytiocceoogapkcaa.Aux
open Go.ChangeShapes Go.WideShapes Go.ChangeAt Go.RowKit
open Go.ChangeMaps (open_string shut_string)
set_option linter.unusedVariables false
set_option linter.unusedSimpArgs false
open Fl Str Pb Qd PlainAid Aux
open Go.Sort (swp)
section
variable {g : Nat → ByteArray} {f : Nat → Int} {blk : Nat} {w w' W0 : World} {d : Array Nat}
theorem sift_eq (lt : Nat → Nat → Bool) (hi fi r c : Nat) (d : Array Nat) (h : ¬ 2 * r + 1 ≥ hi) (hc : (2 * r + 2 < hi ∧ lt d[fi + (2 * r + 1)]! d[fi + (2 * r + 2)]! = true ∧ c = 2 * r + 2) ∨ (¬ (2 * r + 2 < hi ∧ lt d[fi + (2 * r + 1)]! d[fi + (2 * r + 2)]! = true) ∧ c = 2 * r + 1)) :
    Sort.siftDown lt hi fi r d = if lt d[fi + r]! d[fi + c]! = true then Sort.siftDown lt hi fi c (swp d (fi + r) (fi + c)) else d := by
  rw [Sort.siftDown, dif_neg h]
  rcases hc with ⟨h1, h2, rfl⟩ | ⟨h1, rfl⟩
  · rw [if_pos (by simp; exact ⟨by omega, h2⟩)]
    by_cases h3 : lt d[fi + r]! d[fi + (2 * r + 2)]! = true
    · rw [if_neg (by simp [h3]), dif_pos h1, if_pos h3]
    · rw [if_pos (by simpa using h3), if_neg h3]
  · rw [if_neg (by simp; intro h3; have : ¬ lt d[fi + (2 * r + 1)]! d[fi + (2 * r + 2)]! = true := fun h4 => h1 ⟨by omega, h4⟩; rw [show fi + (2 * r + 1) + 1 = fi + (2 * r + 2) by omega]; simpa using this)]
    by_cases h3 : lt d[fi + r]! d[fi + (2 * r + 1)]! = true
    · rw [if_neg (by simp [h3]), if_pos h3]
    · rw [if_pos (by simpa using h3), if_neg h3]
theorem sx_lessZ (h : SX g f blk W0 d w) (i j : Nat) (zi zj : Int) (hi : i < 64) (hj : j < 64) (ei : zi = (i : Int)) (ej : zj = (j : Int)) : Calls Try.prog 53 #[.slice (some ⟨blk, 0, none⟩) 64 64, .int .i64 zi, .int .i64 zj] w fun e w' => e = .returned (.bool (ltF f d[i]! d[j]!)) ∧ Hid (SX g f blk W0 d w') := by
  subst ei; subst ej
  exact h.less hi hj
theorem sx_swapZ (h : SX g f blk W0 d w) (i j : Nat) (zi zj : Int) (hi : i < 64) (hj : j < 64) (ei : zi = (i : Int)) (ej : zj = (j : Int)) : Calls Try.prog 54 #[.slice (some ⟨blk, 0, none⟩) 64 64, .int .i64 zi, .int .i64 zj] w fun e w' => e = .returned (.tuple #[]) ∧ Hid (SX g f blk W0 (swp d i j) w') := by
  subst ei; subst ej
  exact h.swap hi hj
set_option maxRecDepth 100000 in
set_option maxHeartbeats 8000000 in
theorem sift30 {lo hi fi : Nat} (h : St g f blk w d) (hhi : fi + hi ≤ 64) (hlo : lo ≤ 64) : Calls Try.prog 30 #[.iface 35 (.slice (some ⟨blk, 0, none⟩) 64 64), .int .i64 lo, .int .i64 hi, .int .i64 fi] w fun e w' => e = .returned (.tuple #[]) ∧ Hid (SX g f blk w (Sort.siftDown (ltF f) hi fi lo d) w') := by
  have mS := mSwap blk
  have mL := mLess blk
  have HS := Lib.hid (SX.start h)
  go_enter Try.func30, Try.ntmps30
  go_wp2_with fail
  go_loopw [8] (fun s8 wr => ∃ (r : Nat) (dk : Array Nat), s8 = .int .i64 r ∧ r ≤ 128 ∧ Hid (SX g f blk w dk wr) ∧ Hid (Sort.siftDown (ltF f) hi fi r dk = Sort.siftDown (ltF f) hi fi lo d)) (fun s8 _ => (129 - intOf s8).toNat)
  case atStart => exact ⟨lo, d, rfl, by omega, HS, Lib.hid rfl⟩
  case round =>
    obtain ⟨r, dk, rfl, hr, HK, HR⟩ := hrel
    by_cases hend : 2 * r + 1 ≥ hi
    · have hz : (hi : Int) ≤ 2 * (r : Int) + 1 := by omega
      have HF : Hid (dk = Sort.siftDown (ltF f) hi fi lo d) := Lib.hid (by have := HR.out; rw [Sort.siftDown, dif_pos hend] at this; exact this)
      go_wp2_with fail
      go_end0
      exact ⟨rfl, by rw [← HF.out]; exact HK⟩
    · have hz : ¬ (hi : Int) ≤ 2 * (r : Int) + 1 := by omega
      have fin : ∀ (wk : World) (c : Nat) (zc : Int), zc = (c : Int) → Hid (SX g f blk w dk wk) → c < hi → r < c → ((2 * r + 2 < hi ∧ ltF f dk[fi + (2 * r + 1)]! dk[fi + (2 * r + 2)]! = true ∧ c = 2 * r + 2) ∨ (¬ (2 * r + 2 < hi ∧ ltF f dk[fi + (2 * r + 1)]! dk[fi + (2 * r + 2)]! = true) ∧ c = 2 * r + 1)) →
          ∃ bv, Hid (Calls Try.prog 53 #[.slice (some ⟨blk, 0, none⟩) 64 64, .int .i64 ((fi : Int) + (r : Int)), .int .i64 ((fi : Int) + zc)] wk fun e w' => e = .returned (.bool bv) ∧ Hid (SX g f blk w dk w')) ∧
          Hid ((if bv = true then Sort.siftDown (ltF f) hi fi c (swp dk (fi + r) (fi + c)) else dk) = Sort.siftDown (ltF f) hi fi lo d) := fun wk c zc ezc hk hc hrc hh =>
        ⟨_, Lib.hid (sx_lessZ hk.out (fi + r) (fi + c) _ _ (by omega) (by omega) (by omega) (by omega)), Lib.hid (by rw [← sift_eq (ltF f) hi fi r c dk hend hh]; exact HR.out)⟩
      have HFN := Lib.hid fin
      clear fin HR
      by_cases h2 : 2 * r + 2 < hi
      · have h2z : 2 * (r : Int) + 1 + 1 < (hi : Int) := by omega
        have hl := sx_lessZ HK.out (fi + (2 * r + 1)) (fi + (2 * r + 2)) ((fi : Int) + (2 * (r : Int) + 1)) ((fi : Int) + (2 * (r : Int) + 1) + 1) (by omega) (by omega) (by omega) (by omega)
        cases hb1 : ltF f dk[fi + (2 * r + 1)]! dk[fi + (2 * r + 2)]! with
        | true =>
          rw [hb1] at hl
          have A1 := Lib.hid hl
          have HB1 := Lib.hid hb1
          clear hl hb1
          go_wp2_with (have A0 := A1; clear A1; go_at_call 53; refine A0.out.mono ?_; clear A0; rintro e w1 ⟨rfl, HK1⟩)
          obtain ⟨bv, HL2, HE2⟩ := HFN.out _ (2 * r + 2) (2 * (r : Int) + 1 + 1) (by omega) HK1 (by omega) (by omega) (.inl ⟨h2, HB1.out, rfl⟩)
          cases bv with
          | false =>
            have HF : Hid (dk = Sort.siftDown (ltF f) hi fi lo d) := HE2
            go_wp2_with (have A0 := HL2; clear HL2; go_at_call 53; refine A0.out.mono ?_; clear A0; rintro e w2 ⟨rfl, HK2⟩)
            refine bodyPost_ret (v := .tuple #[]) (by simp [results, Try.results30, go_sem]) rfl ?_
            exact ⟨rfl, by rw [← HF.out]; exact HK2⟩
          | true =>
            have HF : Hid (Sort.siftDown (ltF f) hi fi (2 * r + 2) (swp dk (fi + r) (fi + (2 * r + 2))) = Sort.siftDown (ltF f) hi fi lo d) := HE2
            go_wp2_with (have A0 := HL2; clear HL2; go_at_call 53; refine A0.out.mono ?_; clear A0; rintro e w2 ⟨rfl, HK2⟩; have HSW := Lib.hid (sx_swapZ HK2.out (fi + r) (fi + (2 * r + 2)) ((fi : Int) + (r : Int)) ((fi : Int) + (2 * (r : Int) + 1 + 1)) (by omega) (by omega) (by omega) (by omega)))
            go_wp2_with (go_at_call 54; refine HSW.out.mono ?_; rintro e w3 ⟨rfl, HK3⟩)
            go_roundw
            case rel => exact ⟨2 * r + 2, _, by first | rfl | (congr 1; omega), by omega, HK3, HF⟩
            case measure => simp [intOf]; omega
        | false =>
          rw [hb1] at hl
          have A1 := Lib.hid hl
          have HB1 := Lib.hid hb1
          clear hl hb1
          go_wp2_with (have A0 := A1; clear A1; go_at_call 53; refine A0.out.mono ?_; clear A0; rintro e w1 ⟨rfl, HK1⟩)
          obtain ⟨bv, HL2, HE2⟩ := HFN.out _ (2 * r + 1) (2 * (r : Int) + 1) (by omega) HK1 (by omega) (by omega) (.inr ⟨fun h => (by rw [HB1.out] at h; cases h.2), rfl⟩)
          cases bv with
          | false =>
            have HF : Hid (dk = Sort.siftDown (ltF f) hi fi lo d) := HE2
            go_wp2_with (have A0 := HL2; clear HL2; go_at_call 53; refine A0.out.mono ?_; clear A0; rintro e w2 ⟨rfl, HK2⟩)
            refine bodyPost_ret (v := .tuple #[]) (by simp [results, Try.results30, go_sem]) rfl ?_
            exact ⟨rfl, by rw [← HF.out]; exact HK2⟩
          | true =>
            have HF : Hid (Sort.siftDown (ltF f) hi fi (2 * r + 1) (swp dk (fi + r) (fi + (2 * r + 1))) = Sort.siftDown (ltF f) hi fi lo d) := HE2
            go_wp2_with (have A0 := HL2; clear HL2; go_at_call 53; refine A0.out.mono ?_; clear A0; rintro e w2 ⟨rfl, HK2⟩; have HSW := Lib.hid (sx_swapZ HK2.out (fi + r) (fi + (2 * r + 1)) ((fi : Int) + (r : Int)) ((fi : Int) + (2 * (r : Int) + 1)) (by omega) (by omega) (by omega) (by omega)))
            go_wp2_with (go_at_call 54; refine HSW.out.mono ?_; rintro e w3 ⟨rfl, HK3⟩)
            go_roundw
            case rel => exact ⟨2 * r + 1, _, by first | rfl | (congr 1; omega), by omega, HK3, HF⟩
            case measure => simp [intOf]; omega
      · have h2z : ¬ 2 * (r : Int) + 1 + 1 < (hi : Int) := by omega
        obtain ⟨bv, HL2, HE2⟩ := HFN.out _ (2 * r + 1) (2 * (r : Int) + 1) (by omega) HK (by omega) (by omega) (.inr ⟨fun h => h2 h.1, rfl⟩)
        cases bv with
        | false =>
          have HF : Hid (dk = Sort.siftDown (ltF f) hi fi lo d) := HE2
          go_wp2_with (have A0 := HL2; clear HL2; go_at_call 53; refine A0.out.mono ?_; clear A0; rintro e w2 ⟨rfl, HK2⟩)
          refine bodyPost_ret (v := .tuple #[]) (by simp [results, Try.results30, go_sem]) rfl ?_
          exact ⟨rfl, by rw [← HF.out]; exact HK2⟩
        | true =>
          have HF : Hid (Sort.siftDown (ltF f) hi fi (2 * r + 1) (swp dk (fi + r) (fi + (2 * r + 1))) = Sort.siftDown (ltF f) hi fi lo d) := HE2
          go_wp2_with (have A0 := HL2; clear HL2; go_at_call 53; refine A0.out.mono ?_; clear A0; rintro e w2 ⟨rfl, HK2⟩; have HSW := Lib.hid (sx_swapZ HK2.out (fi + r) (fi + (2 * r + 1)) ((fi : Int) + (r : Int)) ((fi : Int) + (2 * (r : Int) + 1)) (by omega) (by omega) (by omega) (by omega)))
          go_wp2_with (go_at_call 54; refine HSW.out.mono ?_; rintro e w3 ⟨rfl, HK3⟩)
          go_roundw
          case rel => exact ⟨2 * r + 1, _, by first | rfl | (congr 1; omega), by omega, HK3, HF⟩
          case measure => simp [intOf]; omega
end
end Go.Proofs.Ytiocceoogapkcaa.Aux
