/- Contracts of functions that the law of this seat reaches, and plain facts; no condition. -/
import Derived.Test.YtiocceoogapkcaaProg
import Derived.WalkKit
import Derived.ProofKit
import Derived.OpenShut
import Derived.ShutString
import Derived.Test.YtiocceoogapkcaaAid
import Derived.Test.YtiocceoogapkcaaC
import Derived.Sort.LotA
import Derived.Sort.LotB
import Derived.Sort.LotC
import Derived.Sort.LotD3
import Derived.ArgAppend
import Derived.WalkSmall
import Derived.WalkSpells
import Derived.LoopTactic
import Derived.Deep.LoopGhost
import Derived.IntWalk
import Derived.Outline
import Derived.Deep.QuietTactic
import Derived.BigQuiet
import Derived.RegionTactic
import Derived.BigRegion
import Derived.Laws.OwnMore
import Derived.Laws.Rows
namespace Go.Proofs.Ytiocceoogapkcaa.Aux
open Go.ChangeShapes Go.WideShapes Go.ChangeAt Go.RowKit
open Go.ChangeMaps (open_string shut_string)
set_option linter.unusedVariables false
set_option linter.unusedSimpArgs false
open Fl Str Pb Qd PlainAid Aux
open Go.Sort (swp)
section
variable {g : Nat → ByteArray} {f : Nat → Int} {blk : Nat} {w w' W0 : World} {d : Array Nat}
set_option maxRecDepth 100000 in
set_option maxHeartbeats 8000000 in
theorem heap22 {a b : Nat} (h : St g f blk w d) (hab : a < b) (hb : b ≤ 64) : Calls Try.prog 22 #[.iface 35 (.slice (some ⟨blk, 0, none⟩) 64 64), .int .i64 a, .int .i64 b] w fun e w' => e = .returned (.tuple #[]) ∧ Hid (SX g f blk w (Sort.heapSort (ltF f) d a b) w') := by
  have mS := mSwap blk
  have HS := Lib.hid (SX.start h)
  obtain ⟨n, hn⟩ : ∃ n : Nat, n = b - a := ⟨_, rfl⟩
  have hn1 : 1 ≤ n := by omega
  have hn2 : a + n ≤ 64 := by omega
  have HSF : Hid (∀ (wk : World) (dk : Array Nat) (lo hi : Nat), Hid (SX g f blk w dk wk) → hi ≤ n → lo ≤ n → Calls Try.prog 30 #[.iface 35 (.slice (some ⟨blk, 0, none⟩) 64 64), .int .i64 lo, .int .i64 hi, .int .i64 a] wk fun e w' => e = .returned (.tuple #[]) ∧ Hid (SX g f blk w (Sort.siftDown (ltF f) hi a lo dk) w')) := Lib.hid fun wk dk lo hi hk h1 h2 =>
    (sift30 hk.out.1 (by omega) (by omega)).mono fun e w' ⟨he, hx⟩ => ⟨he, Lib.hid (hk.out.trans hx.out)⟩
  have HRES : Hid (Sort.heapPop (ltF f) a n (Sort.heapBuild (ltF f) n a ((n - 1) / 2 + 1) d) = Sort.heapSort (ltF f) d a b) := Lib.hid (by rw [hn]; rfl)
  have hbn : (b : Int) - (a : Int) = (n : Int) := by omega
  clear hn h
  go_enter Try.func22, Try.ntmps22
  go_wp2_with fail
  go_loopw [9] (fun s9 wr => ∃ (k : Nat) (dk : Array Nat), s9 = .int .i64 ((k : Int) - 1) ∧ k ≤ n ∧ Hid (SX g f blk w dk wr) ∧ Hid (Sort.heapPop (ltF f) a n (Sort.heapBuild (ltF f) n a k dk) = Sort.heapSort (ltF f) d a b)) (fun s9 _ => (intOf s9 + 1).toNat)
  case atStart => exact ⟨(n - 1) / 2 + 1, d, by congr 1; omega, by omega, HS, HRES⟩
  case round =>
    obtain ⟨k, dk, rfl, hk, HK, HR⟩ := hrel
    rcases Nat.eq_zero_or_pos k with hk0 | hk0
    · have HR2 : Hid (Sort.heapPop (ltF f) a n dk = Sort.heapSort (ltF f) d a b) := Lib.hid (by have := HR.out; rw [hk0] at this; exact this)
      have hng : ¬ (1 : Int) ≤ (k : Int) := by omega
      have hng0 : ¬ (0 : Int) ≤ (k : Int) - 1 := by omega
      clear HR hk0
      go_wp2_with fail
      go_loopw [10] (fun s10 wr => ∃ (k : Nat) (dk : Array Nat), s10 = .int .i64 ((k : Int) - 1) ∧ k ≤ n ∧ Hid (SX g f blk w dk wr) ∧ Hid (Sort.heapPop (ltF f) a k dk = Sort.heapSort (ltF f) d a b)) (fun s10 _ => (intOf s10 + 1).toNat)
      case atStart => exact ⟨n, dk, by congr 1, Nat.le_refl _, HK, HR2⟩
      case round =>
        obtain ⟨k, dj, rfl, hk, HJ, HQ⟩ := hrel
        rcases Nat.eq_zero_or_pos k with hk0 | hk0
        · have HF : Hid (dj = Sort.heapSort (ltF f) d a b) := Lib.hid (by have := HQ.out; rw [hk0] at this; exact this)
          have hng1 : ¬ (1 : Int) ≤ (k : Int) := by omega
          have hng2 : ¬ (0 : Int) ≤ (k : Int) - 1 := by omega
          clear HQ hk0
          go_wp2_with fail
          go_end0
          exact ⟨rfl, by rw [← HF.out]; exact HJ⟩
        · have HQ2 : Hid (Sort.heapPop (ltF f) a (k - 1) (Sort.siftDown (ltF f) (k - 1) a 0 (swp dj a (a + (k - 1)))) = Sort.heapSort (ltF f) d a b) := Lib.hid (by
            obtain ⟨j, rfl⟩ : ∃ j, k = j + 1 := ⟨k - 1, by omega⟩
            have := HQ.out
            rw [Sort.heapPop] at this
            exact this)
          have HSW := Lib.hid (sx_swapZ HJ.out a (a + (k - 1)) (a : Int) ((a : Int) + ((k : Int) - 1)) (by omega) (by omega) rfl (by omega))
          have hkz : 0 ≤ (k : Int) - 1 := by omega
          clear HQ
          go_wp2_with (go_at_call 54; refine HSW.out.mono ?_; rintro e w1 ⟨rfl, HJ1⟩; have hs := HSF.out _ _ 0 (k - 1) HJ1 (by omega) (by omega); rw [show ((k - 1 : Nat) : Int) = (k : Int) - 1 by omega] at hs; have HS1 := Lib.hid hs; clear hs)
          go_wp2_with (go_at_call 30; refine HS1.out.mono ?_; rintro e w2 ⟨rfl, HJ2⟩)
          go_roundw
          case rel => exact ⟨k - 1, _, by congr 1; omega, by omega, HJ2, HQ2⟩
          case measure => simp [intOf]; omega
    · have HR2 : Hid (Sort.heapPop (ltF f) a n (Sort.heapBuild (ltF f) n a (k - 1) (Sort.siftDown (ltF f) n a (k - 1) dk)) = Sort.heapSort (ltF f) d a b) := Lib.hid (by
        obtain ⟨j, rfl⟩ : ∃ j, k = j + 1 := ⟨k - 1, by omega⟩
        have := HR.out
        rw [Sort.heapBuild] at this
        exact this)
      have hs := HSF.out wr dk (k - 1) n HK (Nat.le_refl _) (by omega)
      rw [show ((k - 1 : Nat) : Int) = (k : Int) - 1 by omega] at hs
      have HS1 := Lib.hid hs
      have hkz : 0 ≤ (k : Int) - 1 := by omega
      clear hs HR
      go_wp2_with (go_at_call 30; refine HS1.out.mono ?_; rintro e w2 ⟨rfl, HJ2⟩)
      go_roundw
      case rel => exact ⟨k - 1, _, by congr 1; omega, by omega, HJ2, HR2⟩
      case measure => simp [intOf]; omega
end
end Go.Proofs.Ytiocceoogapkcaa.Aux
