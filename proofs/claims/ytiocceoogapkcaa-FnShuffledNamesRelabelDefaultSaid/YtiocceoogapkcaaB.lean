/- Contracts of functions that the law of this seat reaches, and plain facts; no condition. -/
import Derived.Test.YtiocceoogapkcaaProg
import Derived.WalkKit
import Derived.ProofKit
import Derived.OpenShut
import Derived.ShutString
import Derived.Test.YtiocceoogapkcaaAid
import Derived.Test.YtiocceoogapkcaaA
import Derived.Sort.LotA
import Derived.Sort.LotB
import Derived.Sort.LotC
import Derived.Sort.LotD3
import Derived.ArgAppend
import Derived.WalkSmall
import Derived.WalkSpells
import Derived.LoopTactic
import Derived.Deep.LoopGhost
import Derived.IntWalk
import Derived.Outline
import Derived.Deep.QuietTactic
import Derived.BigQuiet
import Derived.RegionTactic
import Derived.BigRegion
import Derived.Laws.OwnMore
import Derived.Laws.Rows
namespace Go.Proofs.Ytiocceoogapkcaa.Aux
open Go.ChangeShapes Go.WideShapes Go.ChangeAt Go.RowKit
open Go.ChangeMaps (open_string shut_string)
set_option linter.unusedVariables false
set_option linter.unusedSimpArgs false
open Fl Str Pb Qd PlainAid Aux
open Go.Sort (swp)
theorem mLess (blk : Nat) (w : World) : (method 193 35 (.slice (some ⟨blk, 0, none⟩) 64 64) "Less").run Try.prog w = .ok (53, .slice (some ⟨blk, 0, none⟩) 64 64) w := by kernel_rfl
theorem mSwap (blk : Nat) (w : World) : (method 193 35 (.slice (some ⟨blk, 0, none⟩) 64 64) "Swap").run Try.prog w = .ok (54, .slice (some ⟨blk, 0, none⟩) 64 64) w := by kernel_rfl
theorem mLen (blk : Nat) (w : World) : (method 193 35 (.slice (some ⟨blk, 0, none⟩) 64 64) "Len").run Try.prog w = .ok (52, .slice (some ⟨blk, 0, none⟩) 64 64) w := by kernel_rfl
section
variable {g : Nat → ByteArray} {f : Nat → Int} {blk : Nat} {w w' W0 : World} {d : Array Nat}
set_option maxRecDepth 100000 in
set_option maxHeartbeats 8000000 in
theorem rev25 {a b : Nat} (h : St g f blk w d) (hab : a ≤ b) (hb : b ≤ 64) : Calls Try.prog 25 #[.iface 35 (.slice (some ⟨blk, 0, none⟩) 64 64), .int .i64 a, .int .i64 b] w fun e w' => e = .returned (.tuple #[]) ∧ Hid (SX g f blk w (Sort.reverseRange d a b) w') := by
  have mS := mSwap blk
  have HS := Lib.hid (SX.start h)
  go_enter Try.func25, Try.ntmps25
  go_wp2_with fail
  go_loopw [6, 7] (fun s6 s7 wr => ∃ (i j : Nat) (dk : Array Nat), s6 = .int .i64 i ∧ s7 = .int .i64 ((j : Int) - 1) ∧ a ≤ i ∧ j ≤ b ∧ Hid (SX g f blk w dk wr) ∧ Hid (Sort.reverseLoop i (j - 1) dk = Sort.reverseRange d a b)) (fun s6 s7 _ => (intOf s7 + 1 - intOf s6).toNat)
  case atStart => exact ⟨a, b, d, rfl, rfl, Nat.le_refl _, Nat.le_refl _, HS, Lib.hid rfl⟩
  case round =>
    obtain ⟨i, j, dk, rfl, rfl, hai, hjb, HK, HR⟩ := hrel
    by_cases hlt : (i : Int) < (j : Int) - 1
    · have hs := HK.out.swap (i := i) (j := j - 1) (by omega) (by omega)
      rw [show ((j - 1 : Nat) : Int) = (j : Int) - 1 by omega] at hs
      have HSW := Lib.hid hs
      clear hs
      go_wp2_with (go_at_call 54; refine HSW.out.mono ?_; rintro e w1 ⟨rfl, HK1⟩)
      go_roundw
      case rel => exact ⟨i + 1, j - 1, _, by go_num, by rw [show ((j - 1 : Nat) : Int) = (j : Int) - 1 by omega], by omega, by omega, HK1, Lib.hid (by have := HR.out; rw [Sort.reverseLoop, if_pos (by omega)] at this; exact this)⟩
      case measure => simp [intOf]; omega
    · have HF : Hid (dk = Sort.reverseRange d a b) := Lib.hid (by have := HR.out; rw [Sort.reverseLoop, if_neg (by omega)] at this; exact this)
      go_wp2_with fail
      go_end0
      exact ⟨rfl, by rw [← HF.out]; exact HK⟩
theorem ins_eq (lt : Nat → Nat → Bool) (a j : Nat) (d : Array Nat) : Sort.insInner lt a j d = if a < j ∧ lt d[j]! d[j - 1]! = true then Sort.insInner lt a (j - 1) (swp d j (j - 1)) else d := by
  cases j with
  | zero => rw [if_neg (by omega)]; rfl
  | succ j =>
    rw [Sort.insInner]
    by_cases h : a < j + 1 ∧ lt d[j + 1]! d[j]! = true
    · rw [if_pos (by simp [h.1, h.2]), if_pos (by simpa using h)]; rfl
    · rw [if_neg (by simpa using fun h1 h2 => h ⟨by omega, h2⟩), if_neg (by simpa using h)]
set_option maxRecDepth 100000 in
set_option maxHeartbeats 8000000 in
theorem ins21 {a b : Nat} (h : St g f blk w d) (hab : a ≤ b) (hb : b ≤ 64) : Calls Try.prog 21 #[.iface 35 (.slice (some ⟨blk, 0, none⟩) 64 64), .int .i64 a, .int .i64 b] w fun e w' => e = .returned (.tuple #[]) ∧ Hid (SX g f blk w (Sort.insertionSort (ltF f) d a b) w') := by
  have mS := mSwap blk
  have mL := mLess blk
  have HS := Lib.hid (SX.start h)
  go_enter Try.func21, Try.ntmps21
  go_wp2_with fail
  go_loopw [6] (fun s6 wr => ∃ (i : Nat) (dk : Array Nat), s6 = .int .i64 i ∧ a < i ∧ i ≤ b + 1 ∧ Hid (SX g f blk w dk wr) ∧ Hid (Sort.insOuter (ltF f) a b i dk = Sort.insertionSort (ltF f) d a b)) (fun s6 _ => (b + 1 - intOf s6).toNat)
  case atStart => exact ⟨a + 1, d, by go_num, by omega, by omega, HS, Lib.hid rfl⟩
  case round =>
    obtain ⟨i, dk, rfl, hai, hib, HK, HR⟩ := hrel
    by_cases hlt : i < b
    · have hltz : (i : Int) < (b : Int) := by omega
      have HR2 : Hid (Sort.insOuter (ltF f) a b (i + 1) (Sort.insInner (ltF f) a i dk) = Sort.insertionSort (ltF f) d a b) := Lib.hid (by have := HR.out; rw [Sort.insOuter, if_pos hlt] at this; exact this)
      clear HR
      go_wp2_with fail
      obtain ⟨wo, hwo⟩ : ∃ wo : World, wo = wr := ⟨_, rfl⟩
      subst hwo
      go_loopw [7] (fun s7 wr => ∃ (j : Nat) (dj : Array Nat), s7 = .int .i64 j ∧ a ≤ j ∧ j ≤ i ∧ Hid (SX g f blk w dj wr) ∧ Hid (Sort.insInner (ltF f) a j dj = Sort.insInner (ltF f) a i dk)) (fun s7 _ => (intOf s7).toNat)
      case atStart => exact ⟨i, dk, rfl, by omega, Nat.le_refl _, HK, Lib.hid rfl⟩
      case round =>
        obtain ⟨j, dj, rfl, haj, hji, HJ, HE⟩ := hrel
        by_cases hj : a < j
        · have hjz : (a : Int) < (j : Int) := by omega
          have hl := HJ.out.less (i := j) (j := j - 1) (by omega) (by omega)
          have hs := HJ.out.swap (i := j) (j := j - 1) (by omega) (by omega)
          have he := HE.out
          rw [ins_eq] at he
          rw [show ((j - 1 : Nat) : Int) = (j : Int) - 1 by omega] at hl hs
          cases hbv : ltF f dj[j]! dj[j - 1]! with
          | true =>
            rw [hbv] at hl
            rw [if_pos ⟨hj, hbv⟩] at he
            have HL := Lib.hid hl
            have HEE := Lib.hid he
            clear hl hs he hbv
            go_wp2_with (go_at_call 53; refine HL.out.mono ?_; rintro e w1 ⟨rfl, HJ1⟩; have hs := HJ1.out.swap (i := j) (j := j - 1) (by omega) (by omega); rw [show ((j - 1 : Nat) : Int) = (j : Int) - 1 by omega] at hs; have HSW := Lib.hid hs; clear hs)
            go_wp2_with (go_at_call 54; refine HSW.out.mono ?_; rintro e w2 ⟨rfl, HJ2⟩)
            go_roundw
            case rel => exact ⟨j - 1, _, by rw [show ((j - 1 : Nat) : Int) = (j : Int) - 1 by omega], by omega, by omega, HJ2, HEE⟩
            case measure => simp [intOf]; omega
          | false =>
            rw [hbv] at hl
            rw [if_neg (by rw [hbv]; simp)] at he
            have HL := Lib.hid hl
            have HEE : Hid (Sort.insOuter (ltF f) a b (i + 1) dj = Sort.insertionSort (ltF f) d a b) := Lib.hid (by rw [he]; exact HR2.out)
            clear hl hs he hbv
            go_wp2_with (go_at_call 53; refine HL.out.mono ?_; rintro e w1 ⟨rfl, HJ1⟩)
            go_roundw
            case rel => exact ⟨i + 1, _, by go_num, by omega, by omega, HJ1, HEE⟩
            case measure => simp [intOf]; omega
        · have hjz : ¬ (a : Int) < (j : Int) := by omega
          have he := HE.out
          rw [ins_eq, if_neg (by omega)] at he
          have HEE : Hid (Sort.insOuter (ltF f) a b (i + 1) dj = Sort.insertionSort (ltF f) d a b) := Lib.hid (by rw [he]; exact HR2.out)
          clear he
          go_wp2_with fail
          go_roundw
          case rel => exact ⟨i + 1, _, by go_num, by omega, by omega, HJ, HEE⟩
          case measure => simp [intOf]; omega
    · have hltz : ¬ (i : Int) < (b : Int) := by omega
      have HF : Hid (dk = Sort.insertionSort (ltF f) d a b) := Lib.hid (by have := HR.out; rw [Sort.insOuter, if_neg hlt] at this; exact this)
      go_wp2_with fail
      go_end0
      exact ⟨rfl, by rw [← HF.out]; exact HK⟩
end
end Go.Proofs.Ytiocceoogapkcaa.Aux
