/- Contracts of functions that the law of this seat reaches, and plain facts; no condition. -/
import Derived.Test.YtiocceoogapkcaaProg
import Derived.WalkKit
import Derived.ProofKit
import Derived.OpenShut
import Derived.ShutString
import Derived.Test.YtiocceoogapkcaaAid
import Derived.Test.YtiocceoogapkcaaE
import Derived.Sort.LotA
import Derived.Sort.LotB
import Derived.Sort.LotC
import Derived.Sort.LotD3
import Derived.ArgAppend
import Derived.WalkSmall
import Derived.WalkSpells
import Derived.LoopTactic
import Derived.Deep.LoopGhost
import Derived.Deep.CutBlock
import Derived.Deep.DeepCutAuto
import Derived.IntWalk
import Derived.Outline
import Derived.Deep.QuietTactic
import Derived.BigQuiet
import Derived.RegionTactic
import Derived.BigRegion
import Derived.Laws.OwnMore
import Derived.Laws.Rows
namespace Go.Proofs.Ytiocceoogapkcaa.Aux
open Go.ChangeShapes Go.WideShapes Go.ChangeAt Go.RowKit
open Go.ChangeMaps (open_string shut_string)
set_option linter.unusedVariables false
set_option linter.unusedSimpArgs false
open Fl Str Pb Qd PlainAid Aux
open Go.Sort (swp)
section
variable {g : Nat → ByteArray} {f : Nat → Int} {blk : Nat} {w w' W0 : World} {d : Array Nat}
/-- What partitionEqual hands back and leaves. -/
def Pe (g : Nat → ByteArray) (f : Nat → Int) (blk : Nat) (w : World) (M : Nat) (D : Array Nat) (e : Ending) (w' : World) : Prop := e = .returned (.int .i64 (M : Int)) ∧ Hid (SX g f blk w D w')
set_option maxRecDepth 100000 in
set_option maxHeartbeats 16000000 in
theorem parteq27 {a b p : Nat} (h : St g f blk w d) (h1 : a ≤ p) (h2 : p < b) (hb : b ≤ 64) : Calls Try.prog 27 #[.iface 35 (.slice (some ⟨blk, 0, none⟩) 64 64), .int .i64 a, .int .i64 b, .int .i64 p] w (Pe g f blk w (Sort.partitionEqual (ltF f) d a b p).1 (Sort.partitionEqual (ltF f) d a b p).2) := by
  rw [Sort.partitionEqual]
  have mS := mSwap blk
  have mL := mLess blk
  have HSW := Lib.hid ((SX.start h).swap (i := a) (j := p) (by omega) (by omega))
  obtain ⟨j0, hj0⟩ : ∃ j0 : Nat, j0 = b - 1 := ⟨_, rfl⟩
  rw [← hj0]
  have hbj : (b : Int) - 1 = (j0 : Int) := by omega
  have hj64 : j0 < 64 := by omega
  have hja : a ≤ j0 := by omega
  clear hj0 h
  generalize swp d a p = X0 at HSW ⊢
  generalize hM : (Sort.partEqLoop (ltF f) a (a + 1) j0 X0).1 = M
  generalize hD : (Sort.partEqLoop (ltF f) a (a + 1) j0 X0).2 = R
  have HRES : Hid (Sort.partEqLoop (ltF f) a (a + 1) j0 X0 = (M, R)) := Lib.hid (by rw [← hM, ← hD])
  clear hM hD h1 h2
  go_enter Try.func27, Try.ntmps27
  go_wp2_with fail
  refine HSW.out.mono ?_
  rintro e w0 ⟨rfl, HK0⟩
  have ha1 : a + 1 ≤ 64 := by omega
  go_wp2_with fail
  go_loopg [9, 10] (j0 + 1) (fun k vi vj wr => ∃ (i j : Nat) (X : Array Nat), vi = .int .i64 i ∧ vj = .int .i64 j ∧ a < i ∧ i ≤ 64 ∧ j < 64 ∧ j + 1 ≤ k + 0 ∧ Hid (SX g f blk w X wr) ∧ Hid (Sort.partEqLoop (ltF f) a i j X = (M, R)))
  case atStart => exact ⟨a + 1, j0, _, by go_num, rfl, by omega, by omega, by omega, by omega, HK0, HRES⟩
  case round =>
    obtain ⟨i, j, X, rfl, rfl, hai, hi64, hj64', hjk, HK, HR⟩ := hrel
    have hbz : 0 ≤ (j : Int) := by omega
    go_upto_block 2 with fail
    go_cut [9] from 19 to 30 (fun v wc => ∃ i3 : Nat, v = .int .i64 i3 ∧ Hid (Sort.scanUp (fun x => !ltF f X[a]! x) X j i = i3) ∧ Hid (SX g f blk w X wc))
    case first =>
      go_wp2_with fail
      go_loopg [9] (65 - i) (fun k v wr => ∃ it : Nat, v = .int .i64 it ∧ i ≤ it ∧ it ≤ 64 ∧ 65 - it ≤ k ∧ Hid (SX g f blk w X wr) ∧ Hid (Sort.scanUp (fun x => !ltF f X[a]! x) X j it = Sort.scanUp (fun x => !ltF f X[a]! x) X j i))
      case atStart => exact ⟨i, rfl, Nat.le_refl _, by omega, Nat.le_refl _, HK, Lib.hid rfl⟩
      case round =>
        obtain ⟨it, rfl, hb1, hb2, hb3, HT, HE⟩ := hrel
        have he := HE.out
        rw [Sort.scanUp] at he
        by_cases hle : it ≤ j
        · have hlez : (it : Int) ≤ (j : Int) := by omega
          have hl := sx_lessZ HT.out a it (a : Int) (it : Int) (by omega) (by omega) rfl rfl
          cases hb : ltF f X[a]! X[it]! with
          | true =>
            rw [hb] at hl
            rw [if_neg (by simp [hb])] at he
            have HL := Lib.hid hl
            have HEE := Lib.hid he.symm
            clear hl he hb HE
            go_wp2_with (go_at_call 53; refine HL.out.mono ?_; rintro e w1 ⟨rfl, HT1⟩)
            go_meet
            case rel => exact ⟨it, rfl, HEE, HT1⟩
          | false =>
            rw [hb] at hl
            rw [if_pos (by simp [hle, hb])] at he
            have HL := Lib.hid hl
            have HEE := Lib.hid he
            clear hl he hb HE
            go_wp2_with (go_at_call 53; refine HL.out.mono ?_; rintro e w1 ⟨rfl, HT1⟩)
            go_roundg (65 - (it + 1))
            case rel => exact ⟨it + 1, by go_num, by omega, by omega, Nat.le_refl _, HT1, HEE⟩
            case measure => omega
        · have hlez : ¬ (it : Int) ≤ (j : Int) := by omega
          rw [if_neg (by simp; omega)] at he
          have HEE := Lib.hid he.symm
          clear he HE
          go_wp2_with fail
          go_meet
          case rel => exact ⟨it, rfl, HEE, HT⟩
    case rest =>
      obtain ⟨i3, rfl, HU3, HK4⟩ := hcut
      have hiu3 : i ≤ i3 := by have := Sort.scanUp_ge (fun x => !ltF f X[a]! x) X j i; rw [HU3.out] at this; exact this
      go_upto_block 4 with fail
      go_cut [10] from 31 to 41 (fun v wc => ∃ j3 : Nat, v = .int .i64 j3 ∧ Hid (Sort.scanDown (fun x => ltF f X[a]! x) X i3 j = j3) ∧ Hid (SX g f blk w X wc))
      case first =>
        go_wp2_with fail
        go_loopg [10] (j) (fun k v wr => ∃ it : Nat, v = .int .i64 it ∧ it ≤ j ∧ it ≤ k ∧ it ≤ 64 ∧ Hid (SX g f blk w X wr) ∧ Hid (Sort.scanDown (fun x => ltF f X[a]! x) X i3 it = Sort.scanDown (fun x => ltF f X[a]! x) X i3 j))
        case atStart => exact ⟨j, rfl, Nat.le_refl _, Nat.le_refl _, by omega, HK4, Lib.hid rfl⟩
        case round =>
          obtain ⟨it, rfl, hb1, hb2, hb3, HT, HE⟩ := hrel
          have he := HE.out
          rw [sdown_eq _ _ _ _ (by omega)] at he
          by_cases hle : i3 ≤ it
          · have hlez : (i3 : Int) ≤ (it : Int) := by omega
            have hl := sx_lessZ HT.out a it (a : Int) (it : Int) (by omega) (by omega) rfl rfl
            cases hb : ltF f X[a]! X[it]! with
            | true =>
              rw [hb] at hl
              rw [if_pos ⟨hle, by simp [hb]⟩] at he
              have HL := Lib.hid hl
              have HEE := Lib.hid he
              clear hl he hb HE
              go_wp2_with (go_at_call 53; refine HL.out.mono ?_; rintro e w1 ⟨rfl, HT1⟩)
              go_roundg (it - 1)
              case rel => exact ⟨it - 1, by congr 1; omega, by omega, Nat.le_refl _, by omega, HT1, HEE⟩
              case measure => omega
            | false =>
              rw [hb] at hl
              rw [if_neg (fun h => by simp [hb] at h)] at he
              have HL := Lib.hid hl
              have HEE := Lib.hid he.symm
              clear hl he hb HE
              go_wp2_with (go_at_call 53; refine HL.out.mono ?_; rintro e w1 ⟨rfl, HT1⟩)
              go_meet
              case rel => exact ⟨it, rfl, HEE, HT1⟩
          · have hlez : ¬ (i3 : Int) ≤ (it : Int) := by omega
            rw [if_neg (fun h => hle h.1)] at he
            have HEE := Lib.hid he.symm
            clear he HE
            go_wp2_with fail
            go_meet
            case rel => exact ⟨it, rfl, HEE, HT⟩
      case rest =>
        obtain ⟨j3, rfl, HV3, HK5⟩ := hcut
        have hjd3 : j3 ≤ j := by have := Sort.scanDown_le (fun x => ltF f X[a]! x) X i3 j; rw [HV3.out] at this; exact this
        have hpl := HR.out
        rw [Sort.partEqLoop_eq, HU3.out, HV3.out] at hpl
        by_cases hij : i3 > j3
        · rw [if_pos hij] at hpl
          injection hpl with e1 e2
          have hz3 : (j3 : Int) < (i3 : Int) := by omega
          have HE : Hid (i3 = M ∧ X = R) := Lib.hid ⟨e1, e2⟩
          clear e1 e2 HR HU3 HV3
          go_wp2_with fail
          go_ret
          rw [← HE.out.1, ← HE.out.2]
          exact ⟨rfl, HK5⟩
        · rw [if_neg hij] at hpl
          have HPL := Lib.hid hpl
          have hz3 : ¬ (j3 : Int) < (i3 : Int) := by omega
          have HS3 := Lib.hid (sx_swapZ HK5.out i3 j3 (i3 : Int) (j3 : Int) (by omega) (by omega) rfl rfl)
          clear hpl HR HU3 HV3
          go_wp2_with (go_at_call 54; refine HS3.out.mono ?_; rintro e w1 ⟨rfl, HK6⟩)
          go_roundg (j3)
          case rel => exact ⟨i3 + 1, j3 - 1, _, by go_num, by congr 1; omega, by omega, by omega, by omega, by omega, HK6, HPL⟩
          case measure => omega
end
end Go.Proofs.Ytiocceoogapkcaa.Aux
