/- Contracts of functions that the law of this seat reaches, and plain facts; no condition. -/
import Derived.Test.YtiocceoogapkcaaProg
import Derived.WalkKit
import Derived.ProofKit
import Derived.OpenShut
import Derived.ShutString
import Derived.Test.YtiocceoogapkcaaAid
import Derived.Test.YtiocceoogapkcaaD
import Derived.Sort.LotA
import Derived.Sort.LotB
import Derived.Sort.LotC
import Derived.Sort.LotD3
import Derived.ArgAppend
import Derived.WalkSmall
import Derived.WalkSpells
import Derived.LoopTactic
import Derived.Deep.LoopGhost
import Derived.Deep.CutBlock
import Derived.Deep.DeepCutAuto
import Derived.IntWalk
import Derived.Outline
import Derived.Deep.QuietTactic
import Derived.BigQuiet
import Derived.RegionTactic
import Derived.BigRegion
import Derived.Laws.OwnMore
import Derived.Laws.Rows
namespace Go.Proofs.Ytiocceoogapkcaa.Aux
open Go.ChangeShapes Go.WideShapes Go.ChangeAt Go.RowKit
open Go.ChangeMaps (open_string shut_string)
set_option linter.unusedVariables false
set_option linter.unusedSimpArgs false
open Fl Str Pb Qd PlainAid Aux
open Go.Sort (swp)
section
variable {g : Nat → ByteArray} {f : Nat → Int} {blk : Nat} {w w' W0 : World} {d : Array Nat}
theorem sdown_eq (p : Nat → Bool) (d : Array Nat) (i j : Nat) (hi : 1 ≤ i) : Sort.scanDown p d i j = if i ≤ j ∧ p d[j]! = true then Sort.scanDown p d i (j - 1) else j := by
  cases j with
  | zero => rw [if_neg (by omega)]; rfl
  | succ j =>
    rw [Sort.scanDown]
    by_cases h : i ≤ j + 1 ∧ p d[j + 1]! = true
    · rw [if_pos h, if_pos (by simp [h.1, h.2])]; rfl
    · rw [if_neg h, if_neg (by simpa using h)]
/-- What partition hands back and leaves. -/
def Pt (g : Nat → ByteArray) (f : Nat → Int) (blk : Nat) (w : World) (M : Nat) (D : Array Nat) (e : Ending) (w' : World) : Prop := ∃ ap : Bool, e = .returned (.tuple #[.int .i64 (M : Int), .bool ap]) ∧ Hid (SX g f blk w D w')
set_option maxRecDepth 100000 in
set_option maxHeartbeats 16000000 in
theorem part28 {a b p : Nat} (h : St g f blk w d) (h1 : a ≤ p) (h2 : p < b) (hb : b ≤ 64) : Calls Try.prog 28 #[.iface 35 (.slice (some ⟨blk, 0, none⟩) 64 64), .int .i64 a, .int .i64 b, .int .i64 p] w (Pt g f blk w (Sort.partition (ltF f) d a b p).1 (Sort.partition (ltF f) d a b p).2.2) := by
  rw [Sort.partition_fst, Sort.partition_arr]
  have mS := mSwap blk
  have mL := mLess blk
  have HSW := Lib.hid ((SX.start h).swap (i := a) (j := p) (by omega) (by omega))
  obtain ⟨j0, hj0⟩ : ∃ j0 : Nat, j0 = b - 1 := ⟨_, rfl⟩
  rw [← hj0]
  have hbj : (b : Int) - 1 = (j0 : Int) := by omega
  have hj64 : j0 < 64 := by omega
  have hja : a ≤ j0 := by omega
  clear hj0 h
  generalize swp d a p = X at HSW ⊢
  generalize hM : (Sort.partLoop (ltF f) a (a + 1) j0 X).1 = M
  generalize hD : (Sort.partLoop (ltF f) a (a + 1) j0 X).2 = R
  have HRES : Hid (Sort.partLoop (ltF f) a (a + 1) j0 X = (M, R)) := Lib.hid (by rw [← hM, ← hD])
  clear hM hD h1 h2
  go_enter Try.func28, Try.ntmps28
  go_wp2_with fail
  refine HSW.out.mono ?_
  rintro e w0 ⟨rfl, HK⟩
  have ha1 : a + 1 ≤ 64 := by omega
  go_upto_block 0 with fail
  go_cut [10] from 20 to 30 (fun v wc => ∃ i2 : Nat, v = .int .i64 i2 ∧ Hid (Sort.scanUp (fun x => ltF f x X[a]!) X j0 (a + 1) = i2) ∧ Hid (SX g f blk w X wc))
  case first =>
    go_wp2_with fail
    go_loopg [10] (65 - (a + 1)) (fun k v wr => ∃ it : Nat, v = .int .i64 it ∧ (a + 1) ≤ it ∧ it ≤ 64 ∧ 65 - it ≤ k ∧ Hid (SX g f blk w X wr) ∧ Hid (Sort.scanUp (fun x => ltF f x X[a]!) X j0 it = Sort.scanUp (fun x => ltF f x X[a]!) X j0 (a + 1)))
    case atStart => exact ⟨(a + 1), rfl, Nat.le_refl _, by omega, Nat.le_refl _, HK, Lib.hid rfl⟩
    case round =>
      obtain ⟨it, rfl, hb1, hb2, hb3, HT, HE⟩ := hrel
      have he := HE.out
      rw [Sort.scanUp] at he
      by_cases hle : it ≤ j0
      · have hlez : (it : Int) ≤ (j0 : Int) := by omega
        have hl := sx_lessZ HT.out it a (it : Int) (a : Int) (by omega) (by omega) rfl rfl
        cases hb : ltF f X[it]! X[a]! with
        | true =>
          rw [hb] at hl
          rw [if_pos (by simp [hle, hb])] at he
          have HL := Lib.hid hl
          have HEE := Lib.hid he
          clear hl he hb HE
          go_wp2_with (go_at_call 53; refine HL.out.mono ?_; rintro e w1 ⟨rfl, HT1⟩)
          go_roundg (65 - (it + 1))
          case rel => exact ⟨it + 1, by go_num, by omega, by omega, Nat.le_refl _, HT1, HEE⟩
          case measure => omega
        | false =>
          rw [hb] at hl
          rw [if_neg (by simp [hb])] at he
          have HL := Lib.hid hl
          have HEE := Lib.hid he.symm
          clear hl he hb HE
          go_wp2_with (go_at_call 53; refine HL.out.mono ?_; rintro e w1 ⟨rfl, HT1⟩)
          go_meet
          case rel => exact ⟨it, rfl, HEE, HT1⟩
      · have hlez : ¬ (it : Int) ≤ (j0 : Int) := by omega
        rw [if_neg (by simp; omega)] at he
        have HEE := Lib.hid he.symm
        clear he HE
        go_wp2_with fail
        go_meet
        case rel => exact ⟨it, rfl, HEE, HT⟩
  case rest =>
    obtain ⟨i2, rfl, HU, HK1⟩ := hcut
    have hiu : a + 1 ≤ i2 := by have := Sort.scanUp_ge (fun x => ltF f x X[a]!) X j0 (a + 1); rw [HU.out] at this; exact this
    go_upto_block 2 with fail
    go_cut [11] from 31 to 42 (fun v wc => ∃ j2 : Nat, v = .int .i64 j2 ∧ Hid (Sort.scanDown (fun x => !ltF f x X[a]!) X i2 j0 = j2) ∧ Hid (SX g f blk w X wc))
    case first =>
      go_wp2_with fail
      go_loopg [11] (j0) (fun k v wr => ∃ it : Nat, v = .int .i64 it ∧ it ≤ j0 ∧ it ≤ k ∧ it ≤ 64 ∧ Hid (SX g f blk w X wr) ∧ Hid (Sort.scanDown (fun x => !ltF f x X[a]!) X i2 it = Sort.scanDown (fun x => !ltF f x X[a]!) X i2 j0))
      case atStart => exact ⟨j0, rfl, Nat.le_refl _, Nat.le_refl _, by omega, HK1, Lib.hid rfl⟩
      case round =>
        obtain ⟨it, rfl, hb1, hb2, hb3, HT, HE⟩ := hrel
        have he := HE.out
        rw [sdown_eq _ _ _ _ (by omega)] at he
        by_cases hle : i2 ≤ it
        · have hlez : (i2 : Int) ≤ (it : Int) := by omega
          have hl := sx_lessZ HT.out it a (it : Int) (a : Int) (by omega) (by omega) rfl rfl
          cases hb : ltF f X[it]! X[a]! with
          | true =>
            rw [hb] at hl
            rw [if_neg (fun h => by simp [hb] at h)] at he
            have HL := Lib.hid hl
            have HEE := Lib.hid he.symm
            clear hl he hb HE
            go_wp2_with (go_at_call 53; refine HL.out.mono ?_; rintro e w1 ⟨rfl, HT1⟩)
            go_meet
            case rel => exact ⟨it, rfl, HEE, HT1⟩
          | false =>
            rw [hb] at hl
            rw [if_pos ⟨hle, by simp [hb]⟩] at he
            have HL := Lib.hid hl
            have HEE := Lib.hid he
            clear hl he hb HE
            go_wp2_with (go_at_call 53; refine HL.out.mono ?_; rintro e w1 ⟨rfl, HT1⟩)
            go_roundg (it - 1)
            case rel => exact ⟨it - 1, by congr 1; omega, by omega, Nat.le_refl _, by omega, HT1, HEE⟩
            case measure => omega
        · have hlez : ¬ (i2 : Int) ≤ (it : Int) := by omega
          rw [if_neg (fun h => hle h.1)] at he
          have HEE := Lib.hid he.symm
          clear he HE
          go_wp2_with fail
          go_meet
          case rel => exact ⟨it, rfl, HEE, HT⟩
    case rest =>
      obtain ⟨j2, rfl, HV, HK2⟩ := hcut
      have hjd : j2 ≤ j0 := by have := Sort.scanDown_le (fun x => !ltF f x X[a]!) X i2 j0; rw [HV.out] at this; exact this
      have hpl := HRES.out
      rw [Sort.partLoop_eq, HU.out, HV.out] at hpl
      by_cases hij : i2 > j2
      · rw [if_pos hij] at hpl
        injection hpl with e1 e2
        have hz : (j2 : Int) < (i2 : Int) := by omega
        have HS3 := Lib.hid (sx_swapZ HK2.out j2 a (j2 : Int) (a : Int) (by omega) (by omega) rfl rfl)
        have HE : Hid (j2 = M ∧ X = R) := Lib.hid ⟨e1, e2⟩
        clear e1 e2 HRES HU HV
        go_wp2_with (go_at_call 54; refine HS3.out.mono ?_; rintro e w1 ⟨rfl, HK3⟩)
        refine bodyPost_ret (v := .tuple #[.int .i64 (j2 : Int), .bool true]) (by simp [results, Try.results28, go_sem]) rfl (by rw [← HE.out.1, ← HE.out.2]; exact ⟨true, rfl, HK3⟩)
      · rw [if_neg hij] at hpl
        have HPL := Lib.hid hpl
        have hz : ¬ (j2 : Int) < (i2 : Int) := by omega
        have HS3 := Lib.hid (sx_swapZ HK2.out i2 j2 (i2 : Int) (j2 : Int) (by omega) (by omega) rfl rfl)
        clear hpl HRES HU HV
        have hjz : (j2 : Int) - 1 = ((j2 - 1 : Nat) : Int) := by omega
        go_wp2_with (go_at_call 54; refine HS3.out.mono ?_; rintro e w1 ⟨rfl, HK3⟩)
        go_loopg [10, 11] (j2) (fun k vi vj wr => ∃ (i j : Nat) (X : Array Nat), vi = .int .i64 i ∧ vj = .int .i64 j ∧ a < i ∧ i ≤ 64 ∧ j < 64 ∧ j + 1 ≤ k + 0 ∧ Hid (SX g f blk w X wr) ∧ Hid (Sort.partLoop (ltF f) a i j X = (M, R)))
        case atStart => exact ⟨i2 + 1, j2 - 1, _, by go_num, rfl, by omega, by omega, by omega, by omega, HK3, HPL⟩
        case round =>
          obtain ⟨i, j, X, rfl, rfl, hai, hi64, hj64', hjk, HK, HR⟩ := hrel
          have hbz : 0 ≤ (j : Int) := by omega
          go_upto_block 6 with fail
          go_cut [10] from 59 to 69 (fun v wc => ∃ i3 : Nat, v = .int .i64 i3 ∧ Hid (Sort.scanUp (fun x => ltF f x X[a]!) X j i = i3) ∧ Hid (SX g f blk w X wc))
          case first =>
            go_wp2_with fail
            go_loopg [10] (65 - i) (fun k v wr => ∃ it : Nat, v = .int .i64 it ∧ i ≤ it ∧ it ≤ 64 ∧ 65 - it ≤ k ∧ Hid (SX g f blk w X wr) ∧ Hid (Sort.scanUp (fun x => ltF f x X[a]!) X j it = Sort.scanUp (fun x => ltF f x X[a]!) X j i))
            case atStart => exact ⟨i, rfl, Nat.le_refl _, by omega, Nat.le_refl _, HK, Lib.hid rfl⟩
            case round =>
              obtain ⟨it, rfl, hb1, hb2, hb3, HT, HE⟩ := hrel
              have he := HE.out
              rw [Sort.scanUp] at he
              by_cases hle : it ≤ j
              · have hlez : (it : Int) ≤ (j : Int) := by omega
                have hl := sx_lessZ HT.out it a (it : Int) (a : Int) (by omega) (by omega) rfl rfl
                cases hb : ltF f X[it]! X[a]! with
                | true =>
                  rw [hb] at hl
                  rw [if_pos (by simp [hle, hb])] at he
                  have HL := Lib.hid hl
                  have HEE := Lib.hid he
                  clear hl he hb HE
                  go_wp2_with (go_at_call 53; refine HL.out.mono ?_; rintro e w1 ⟨rfl, HT1⟩)
                  go_roundg (65 - (it + 1))
                  case rel => exact ⟨it + 1, by go_num, by omega, by omega, Nat.le_refl _, HT1, HEE⟩
                  case measure => omega
                | false =>
                  rw [hb] at hl
                  rw [if_neg (by simp [hb])] at he
                  have HL := Lib.hid hl
                  have HEE := Lib.hid he.symm
                  clear hl he hb HE
                  go_wp2_with (go_at_call 53; refine HL.out.mono ?_; rintro e w1 ⟨rfl, HT1⟩)
                  go_meet
                  case rel => exact ⟨it, rfl, HEE, HT1⟩
              · have hlez : ¬ (it : Int) ≤ (j : Int) := by omega
                rw [if_neg (by simp; omega)] at he
                have HEE := Lib.hid he.symm
                clear he HE
                go_wp2_with fail
                go_meet
                case rel => exact ⟨it, rfl, HEE, HT⟩
          case rest =>
            obtain ⟨i3, rfl, HU3, HK4⟩ := hcut
            have hiu3 : i ≤ i3 := by have := Sort.scanUp_ge (fun x => ltF f x X[a]!) X j i; rw [HU3.out] at this; exact this
            go_upto_block 8 with fail
            go_cut [11] from 70 to 81 (fun v wc => ∃ j3 : Nat, v = .int .i64 j3 ∧ Hid (Sort.scanDown (fun x => !ltF f x X[a]!) X i3 j = j3) ∧ Hid (SX g f blk w X wc))
            case first =>
              go_wp2_with fail
              go_loopg [11] (j) (fun k v wr => ∃ it : Nat, v = .int .i64 it ∧ it ≤ j ∧ it ≤ k ∧ it ≤ 64 ∧ Hid (SX g f blk w X wr) ∧ Hid (Sort.scanDown (fun x => !ltF f x X[a]!) X i3 it = Sort.scanDown (fun x => !ltF f x X[a]!) X i3 j))
              case atStart => exact ⟨j, rfl, Nat.le_refl _, Nat.le_refl _, by omega, HK4, Lib.hid rfl⟩
              case round =>
                obtain ⟨it, rfl, hb1, hb2, hb3, HT, HE⟩ := hrel
                have he := HE.out
                rw [sdown_eq _ _ _ _ (by omega)] at he
                by_cases hle : i3 ≤ it
                · have hlez : (i3 : Int) ≤ (it : Int) := by omega
                  have hl := sx_lessZ HT.out it a (it : Int) (a : Int) (by omega) (by omega) rfl rfl
                  cases hb : ltF f X[it]! X[a]! with
                  | true =>
                    rw [hb] at hl
                    rw [if_neg (fun h => by simp [hb] at h)] at he
                    have HL := Lib.hid hl
                    have HEE := Lib.hid he.symm
                    clear hl he hb HE
                    go_wp2_with (go_at_call 53; refine HL.out.mono ?_; rintro e w1 ⟨rfl, HT1⟩)
                    go_meet
                    case rel => exact ⟨it, rfl, HEE, HT1⟩
                  | false =>
                    rw [hb] at hl
                    rw [if_pos ⟨hle, by simp [hb]⟩] at he
                    have HL := Lib.hid hl
                    have HEE := Lib.hid he
                    clear hl he hb HE
                    go_wp2_with (go_at_call 53; refine HL.out.mono ?_; rintro e w1 ⟨rfl, HT1⟩)
                    go_roundg (it - 1)
                    case rel => exact ⟨it - 1, by congr 1; omega, by omega, Nat.le_refl _, by omega, HT1, HEE⟩
                    case measure => omega
                · have hlez : ¬ (i3 : Int) ≤ (it : Int) := by omega
                  rw [if_neg (fun h => hle h.1)] at he
                  have HEE := Lib.hid he.symm
                  clear he HE
                  go_wp2_with fail
                  go_meet
                  case rel => exact ⟨it, rfl, HEE, HT⟩
            case rest =>
              obtain ⟨j3, rfl, HV3, HK5⟩ := hcut
              have hjd3 : j3 ≤ j := by have := Sort.scanDown_le (fun x => !ltF f x X[a]!) X i3 j; rw [HV3.out] at this; exact this
              have hpl := HR.out
              rw [Sort.partLoop_eq, HU3.out, HV3.out] at hpl
              by_cases hij : i3 > j3
              · rw [if_pos hij] at hpl
                injection hpl with e1 e2
                have hz3 : (j3 : Int) < (i3 : Int) := by omega
                have HS3 := Lib.hid (sx_swapZ HK5.out j3 a (j3 : Int) (a : Int) (by omega) (by omega) rfl rfl)
                have HE : Hid (j3 = M ∧ X = R) := Lib.hid ⟨e1, e2⟩
                clear e1 e2 HR HU3 HV3
                go_wp2_with (go_at_call 54; refine HS3.out.mono ?_; rintro e w1 ⟨rfl, HK6⟩)
                refine bodyPost_ret (v := .tuple #[.int .i64 (j3 : Int), .bool false]) (by simp [results, Try.results28, go_sem]) rfl (by rw [← HE.out.1, ← HE.out.2]; exact ⟨false, rfl, HK6⟩)
              · rw [if_neg hij] at hpl
                have HPL := Lib.hid hpl
                have hz3 : ¬ (j3 : Int) < (i3 : Int) := by omega
                have HS3 := Lib.hid (sx_swapZ HK5.out i3 j3 (i3 : Int) (j3 : Int) (by omega) (by omega) rfl rfl)
                clear hpl HR HU3 HV3
                go_wp2_with (go_at_call 54; refine HS3.out.mono ?_; rintro e w1 ⟨rfl, HK6⟩)
                go_roundg (j3)
                case rel => exact ⟨i3 + 1, j3 - 1, _, by go_num, by congr 1; omega, by omega, by omega, by omega, by omega, HK6, HPL⟩
                case measure => omega
end
end Go.Proofs.Ytiocceoogapkcaa.Aux
