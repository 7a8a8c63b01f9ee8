/- Contracts of functions that the law of this seat reaches, and plain facts; no condition. -/
import Derived.Test.YtiocceoogapkcaaProg
import Derived.WalkKit
import Derived.ProofKit
import Derived.OpenShut
import Derived.ShutString
import Derived.Test.YtiocceoogapkcaaAid
import Derived.Test.YtiocceoogapkcaaF
import Derived.Sort.LotA
import Derived.Sort.LotB
import Derived.Sort.LotC
import Derived.Sort.LotD3
import Derived.ArgAppend
import Derived.WalkSmall
import Derived.WalkSpells
import Derived.LoopTactic
import Derived.Deep.LoopGhost
import Derived.Deep.CutBlock
import Derived.Deep.DeepCutAuto
import Derived.IntWalk
import Derived.Outline
import Derived.Deep.QuietTactic
import Derived.BigQuiet
import Derived.RegionTactic
import Derived.BigRegion
import Derived.Laws.OwnMore
import Derived.Laws.Rows
namespace Go.Proofs.Ytiocceoogapkcaa.Aux
open Go.ChangeShapes Go.WideShapes Go.ChangeAt Go.RowKit
open Go.ChangeMaps (open_string shut_string)
set_option linter.unusedVariables false
set_option linter.unusedSimpArgs false
open Fl Str Pb Qd PlainAid Aux
open Go.Sort (swp)
section
variable {g : Nat → ByteArray} {f : Nat → Int} {blk : Nat} {w w' W0 : World} {d : Array Nat}
theorem ss_eq (lt : Nat → Nat → Bool) (d : Array Nat) (b i : Nat) : Sort.scanSorted lt d b i = if i < b ∧ lt d[i]! d[i - 1]! = false then Sort.scanSorted lt d b (i + 1) else i := by
  rw [Sort.scanSorted]
  by_cases h : i < b ∧ lt d[i]! d[i - 1]! = false
  · rw [if_pos h, if_pos (by simp [h.1, h.2])]
  · rw [if_neg h, if_neg (by simpa using h)]
theorem ss_rng (lt : Nat → Nat → Bool) (d : Array Nat) (b : Nat) : ∀ (n i : Nat), b - i = n → i ≤ b → i ≤ Sort.scanSorted lt d b i ∧ Sort.scanSorted lt d b i ≤ b := by
  intro n
  induction n with
  | zero => intro i hn hi; rw [ss_eq, if_neg (by omega)]; omega
  | succ n ih =>
    intro i hn hi
    rw [ss_eq]
    by_cases h : i < b ∧ lt d[i]! d[i - 1]! = false
    · rw [if_pos h]; have := ih (i + 1) (by omega) (by omega); omega
    · rw [if_neg h]; omega
theorem shd_eq (lt : Nat → Nat → Bool) (j : Nat) (d : Array Nat) : Sort.shiftDown lt j d = if 1 ≤ j ∧ lt d[j]! d[j - 1]! = true then Sort.shiftDown lt (j - 1) (swp d j (j - 1)) else d := by
  cases j with
  | zero => rw [if_neg (by omega)]; rfl
  | succ j =>
    rw [Sort.shiftDown]
    by_cases h : lt d[j + 1]! d[j]! = true
    · rw [if_neg (by simp [h]), if_pos ⟨by omega, by simpa using h⟩]; rfl
    · rw [if_pos (by simpa using h), if_neg (fun k => h (by simpa using k.2))]
theorem shu_eq (lt : Nat → Nat → Bool) (b j : Nat) (d : Array Nat) : Sort.shiftUp lt b j d = if j < b ∧ lt d[j]! d[j - 1]! = true then Sort.shiftUp lt b (j + 1) (swp d j (j - 1)) else d := by
  rw [Sort.shiftUp]
  by_cases h1 : j < b
  · by_cases h : lt d[j]! d[j - 1]! = true
    · rw [if_pos h1, if_neg (by simp [h]), if_pos ⟨h1, h⟩]
    · rw [if_pos h1, if_pos (by simpa using h), if_neg (fun k => h k.2)]
  · rw [if_neg h1, if_neg (fun k => h1 k.1)]
def Pp (g : Nat → ByteArray) (f : Nat → Int) (blk : Nat) (w : World) (D : Array Nat) (F : Bool) (e : Ending) (w' : World) : Prop := e = .returned (.bool F) ∧ Hid (SX g f blk w D w')
set_option maxRecDepth 100000 in
set_option maxHeartbeats 16000000 in
theorem partial26 {a b : Nat} (h : St g f blk w d) (h1 : a < b) (hb : b ≤ 64) : Calls Try.prog 26 #[.iface 35 (.slice (some ⟨blk, 0, none⟩) 64 64), .int .i64 a, .int .i64 b] w (Pp g f blk w (Sort.partialInsertionSort (ltF f) d a b).1 (Sort.partialInsertionSort (ltF f) d a b).2) := by
  have mS := mSwap blk
  have mL := mLess blk
  have HS0 := Lib.hid (SX.start h)
  generalize hM : (Sort.partialInsertionSort (ltF f) d a b).1 = R
  generalize hD : (Sort.partialInsertionSort (ltF f) d a b).2 = F
  have HRES : Hid (Sort.partialIns (ltF f) a b 5 (a + 1) d = (R, F)) := Lib.hid (by rw [← hM, ← hD]; rfl)
  clear hM hD h
  go_enter Try.func26, Try.ntmps26
  go_wp2_with fail
  go_loopg [7, 8] (5) (fun k v7 v8 wr => ∃ (s i : Nat) (X : Array Nat), v7 = .int .i64 i ∧ v8 = .int .i64 s ∧ s ≤ 5 ∧ 5 - s ≤ k ∧ a < i ∧ i ≤ b ∧ Hid (SX g f blk w X wr) ∧ Hid (Sort.partialIns (ltF f) a b (5 - s) i X = (R, F)))
  case atStart => exact ⟨0, a + 1, d, by go_num, rfl, by omega, by omega, by omega, by omega, HS0, HRES⟩
  case round =>
    obtain ⟨s, i, X, rfl, rfl, hs5, hsk, hai, hib, HK, HR⟩ := hrel
    by_cases hs : s < 5
    · have hsz : (s : Int) < 5 := by omega
      have hpl := HR.out
      rw [show 5 - s = (4 - s) + 1 by omega, Sort.partialIns_succ] at hpl
      have HPL := Lib.hid hpl
      clear hpl HR
      go_upto_block 2 with fail
      go_cut [7] from 17 to 29 (fun v wc => ∃ iu : Nat, v = .int .i64 iu ∧ Hid (Sort.scanSorted (ltF f) X b i = iu) ∧ Hid (SX g f blk w X wc))
      case first =>
        go_wp2_with fail
        go_loopg [7] (b - i) (fun k v wr => ∃ it : Nat, v = .int .i64 it ∧ i ≤ it ∧ it ≤ b ∧ b - it ≤ k ∧ Hid (SX g f blk w X wr) ∧ Hid (Sort.scanSorted (ltF f) X b it = Sort.scanSorted (ltF f) X b i))
        case atStart => exact ⟨i, rfl, Nat.le_refl _, hib, Nat.le_refl _, HK, Lib.hid rfl⟩
        case round =>
          obtain ⟨it, rfl, hb1, hb2, hb3, HT, HE⟩ := hrel
          have he := HE.out
          rw [ss_eq] at he
          by_cases hle : it < b
          · have hlez : (it : Int) < (b : Int) := by omega
            have hl := sx_lessZ HT.out it (it - 1) (it : Int) ((it : Int) - 1) (by omega) (by omega) rfl (by omega)
            cases hb : ltF f X[it]! X[it - 1]! with
            | false =>
              rw [hb] at hl
              rw [if_pos ⟨hle, hb⟩] at he
              have HL := Lib.hid hl
              have HEE := Lib.hid he
              clear hl he hb HE
              go_wp2_with (go_at_call 53; refine HL.out.mono ?_; rintro e w1 ⟨rfl, HT1⟩)
              go_roundg (b - (it + 1))
              case rel => exact ⟨it + 1, by go_num, by omega, by omega, Nat.le_refl _, HT1, HEE⟩
              case measure => omega
            | true =>
              rw [hb] at hl
              rw [if_neg (fun h => by rw [hb] at h; cases h.2)] at he
              have HL := Lib.hid hl
              have HEE := Lib.hid he.symm
              clear hl he hb HE
              go_wp2_with (go_at_call 53; refine HL.out.mono ?_; rintro e w1 ⟨rfl, HT1⟩)
              go_meet
              case rel => exact ⟨it, rfl, HEE, HT1⟩
          · have hlez : ¬ (it : Int) < (b : Int) := by omega
            rw [if_neg (fun h => hle h.1)] at he
            have HEE := Lib.hid he.symm
            clear he HE
            go_wp2_with fail
            go_meet
            case rel => exact ⟨it, rfl, HEE, HT⟩
      case rest =>
        obtain ⟨iu, rfl, HU, HK1⟩ := hcut
        have hru := ss_rng (ltF f) X b _ i rfl hib
        rw [HU.out] at hru
        obtain ⟨hiu, hub⟩ := hru
        have hpl := HPL.out
        rw [HU.out] at hpl
        by_cases hend : iu = b
        · rw [if_pos hend] at hpl
          injection hpl with e1 e2
          have HE : Hid (X = R ∧ true = F) := Lib.hid ⟨e1, e2⟩
          subst hend
          clear e1 e2 HPL HU
          go_wp2_with fail
          refine bodyPost_ret (v := .bool true) (by simp [results, Try.results26, go_sem]) rfl (by rw [← HE.out.1, ← HE.out.2]; exact ⟨rfl, HK1⟩)
        · rw [if_neg hend] at hpl
          have f1 : ((iu : Int) == (b : Int)) = false := by simp; omega
          have f2 : (iu == b) = false := by simp; omega
          have f3 : ¬ (iu : Int) = (b : Int) := by omega
          by_cases h50 : b - a < 50
          · rw [if_pos h50] at hpl
            injection hpl with e1 e2
            have HE : Hid (X = R ∧ false = F) := Lib.hid ⟨e1, e2⟩
            have h50z : (b : Int) - (a : Int) < 50 := by omega
            clear e1 e2 HPL HU
            go_wp2_with fail
            refine bodyPost_ret (v := .bool false) (by simp [results, Try.results26, go_sem]) rfl (by rw [← HE.out.1, ← HE.out.2]; exact ⟨rfl, HK1⟩)
          · rw [if_neg h50] at hpl
            have HPL2 := Lib.hid hpl
            have h50z : ¬ (b : Int) - (a : Int) < 50 := by omega
            have HSW := Lib.hid (sx_swapZ HK1.out iu (iu - 1) (iu : Int) ((iu : Int) - 1) (by omega) (by omega) rfl (by omega))
            clear hpl HPL HU HK
            generalize swp X iu (iu - 1) = Y at HSW HPL2
            by_cases h2 : iu - a ≥ 2
            · have h2z : 2 ≤ (iu : Int) - (a : Int) := by omega
              have h2d : decide (2 ≤ (iu : Int) - (a : Int)) = true := by simpa using h2z
              have HFD : Hid (Sort.fixDown (ltF f) a iu Y = Sort.shiftDown (ltF f) (iu - 1) Y) := Lib.hid (by unfold Sort.fixDown; rw [if_pos h2])
              clear h2
              go_upto_block 4 with (go_at_call 54; refine HSW.out.mono ?_; rintro e w1 ⟨rfl, HK2⟩)
              go_cut [9] from 48 to 62 (fun v wc => Hid (SX g f blk w (Sort.fixDown (ltF f) a iu Y) wc))
              case first =>
                go_wp2_with fail
                go_loopg [9] (iu) (fun k v wr => ∃ (j : Nat) (Z : Array Nat), v = .int .i64 j ∧ j + 1 ≤ iu ∧ j ≤ k ∧ Hid (SX g f blk w Z wr) ∧ Hid (Sort.shiftDown (ltF f) j Z = Sort.fixDown (ltF f) a iu Y))
                case atStart => exact ⟨iu - 1, Y, by congr 1; omega, by omega, by omega, HK2, Lib.hid HFD.out.symm⟩
                case round =>
                  obtain ⟨j, Z, rfl, hj1, hj2, HT, HE⟩ := hrel
                  have he := HE.out
                  rw [shd_eq] at he
                  by_cases hle : 1 ≤ j
                  · have hlez : 1 ≤ (j : Int) := by omega
                    have hl := sx_lessZ HT.out j (j - 1) (j : Int) ((j : Int) - 1) (by omega) (by omega) rfl (by omega)
                    cases hb : ltF f Z[j]! Z[j - 1]! with
                    | true =>
                      rw [hb] at hl
                      rw [if_pos ⟨hle, hb⟩] at he
                      have HL := Lib.hid hl
                      have HEE := Lib.hid he
                      clear hl he hb HE
                      go_wp2_with (go_at_call 53; refine HL.out.mono ?_; rintro e w2 ⟨rfl, HT1⟩; have HSW2 := Lib.hid (sx_swapZ HT1.out j (j - 1) (j : Int) ((j : Int) - 1) (by omega) (by omega) rfl (by omega)))
                      go_wp2_with (go_at_call 54; refine HSW2.out.mono ?_; rintro e w3 ⟨rfl, HT2⟩)
                      go_roundg (j - 1)
                      case rel => exact ⟨j - 1, _, by congr 1; omega, by omega, Nat.le_refl _, HT2, HEE⟩
                      case measure => omega
                    | false =>
                      rw [hb] at hl
                      rw [if_neg (fun h => by rw [hb] at h; cases h.2)] at he
                      have HL := Lib.hid hl
                      have HEE := Lib.hid he
                      clear hl he hb HE
                      go_wp2_with (go_at_call 53; refine HL.out.mono ?_; rintro e w2 ⟨rfl, HT1⟩)
                      go_meet
                      case rel => rw [← HEE.out]; exact HT1
                  · have hlez : ¬ 1 ≤ (j : Int) := by omega
                    rw [if_neg (fun h => hle h.1)] at he
                    have HEE := Lib.hid he
                    clear he HE
                    go_wp2_with fail
                    go_meet
                    case rel => rw [← HEE.out]; exact HT
              case rest =>
                have HK3 : Hid (SX g f blk w (Sort.fixDown (ltF f) a iu Y) wc) := hcut
                clear hcut h2z h2d
                generalize Sort.fixDown (ltF f) a iu Y = Y2 at HPL2 HK3
                by_cases h2 : b - iu ≥ 2
                · have h2z : 2 ≤ (b : Int) - (iu : Int) := by omega
                  have HFD : Hid (Sort.fixUp (ltF f) b iu Y2 = Sort.shiftUp (ltF f) b (iu + 1) Y2) := Lib.hid (by unfold Sort.fixUp; rw [if_pos h2])
                  go_wp2_with fail
                  go_loopg [10] (b - (iu + 1)) (fun k v wr => ∃ (j : Nat) (Z : Array Nat), v = .int .i64 j ∧ iu + 1 ≤ j ∧ j ≤ b ∧ b - j ≤ k ∧ Hid (SX g f blk w Z wr) ∧ Hid (Sort.shiftUp (ltF f) b j Z = Sort.fixUp (ltF f) b iu Y2))
                  case atStart => exact ⟨iu + 1, Y2, by go_num, Nat.le_refl _, by omega, Nat.le_refl _, HK3, Lib.hid HFD.out.symm⟩
                  case round =>
                    obtain ⟨j, Z, rfl, hj1, hj2, hj3, HT, HE⟩ := hrel
                    have he := HE.out
                    rw [shu_eq] at he
                    by_cases hle : j < b
                    · have hlez : (j : Int) < (b : Int) := by omega
                      have hl := sx_lessZ HT.out j (j - 1) (j : Int) ((j : Int) - 1) (by omega) (by omega) rfl (by omega)
                      cases hb : ltF f Z[j]! Z[j - 1]! with
                      | true =>
                        rw [hb] at hl
                        rw [if_pos ⟨hle, hb⟩] at he
                        have HL := Lib.hid hl
                        have HEE := Lib.hid he
                        clear hl he hb HE
                        go_wp2_with (go_at_call 53; refine HL.out.mono ?_; rintro e w2 ⟨rfl, HT1⟩; have HSW2 := Lib.hid (sx_swapZ HT1.out j (j - 1) (j : Int) ((j : Int) - 1) (by omega) (by omega) rfl (by omega)))
                        go_wp2_with (go_at_call 54; refine HSW2.out.mono ?_; rintro e w3 ⟨rfl, HT2⟩)
                        go_roundg (b - (j + 1))
                        case rel => exact ⟨j + 1, _, by go_num, by omega, by omega, Nat.le_refl _, HT2, HEE⟩
                        case measure => omega
                      | false =>
                        rw [hb] at hl
                        rw [if_neg (fun h => by rw [hb] at h; cases h.2)] at he
                        have HL := Lib.hid hl
                        have HEE := Lib.hid he
                        clear hl he hb HE
                        go_wp2_with (go_at_call 53; refine HL.out.mono ?_; rintro e w2 ⟨rfl, HT1⟩)
                        go_roundg (4 - s)
                        case rel => exact ⟨s + 1, iu, Sort.fixUp (ltF f) b iu Y2, rfl, by go_num, by omega, by omega, by omega, hub, (by rw [← HEE.out]; exact HT1), Lib.hid (by rw [show 5 - (s + 1) = 4 - s by omega]; exact HPL2.out)⟩
                        case measure => omega
                    · have hlez : ¬ (j : Int) < (b : Int) := by omega
                      rw [if_neg (fun h => hle h.1)] at he
                      have HEE := Lib.hid he
                      clear he HE
                      go_wp2_with fail
                      go_roundg (4 - s)
                      case rel => exact ⟨s + 1, iu, Sort.fixUp (ltF f) b iu Y2, rfl, by go_num, by omega, by omega, by omega, hub, (by rw [← HEE.out]; exact HT), Lib.hid (by rw [show 5 - (s + 1) = 4 - s by omega]; exact HPL2.out)⟩
                      case measure => omega
                · have h2z : ¬ 2 ≤ (b : Int) - (iu : Int) := by omega
                  have HFD : Hid (Sort.fixUp (ltF f) b iu Y2 = Y2) := Lib.hid (by unfold Sort.fixUp; rw [if_neg h2])
                  go_wp2_with fail
                  go_roundg (4 - s)
                  case rel => exact ⟨s + 1, iu, Sort.fixUp (ltF f) b iu Y2, rfl, by go_num, by omega, by omega, by omega, hub, (by rw [HFD.out]; exact HK3), Lib.hid (by rw [show 5 - (s + 1) = 4 - s by omega]; exact HPL2.out)⟩
                  case measure => omega
            · have h2z : ¬ 2 ≤ (iu : Int) - (a : Int) := by omega
              have h2d : decide (2 ≤ (iu : Int) - (a : Int)) = false := by simpa using h2z
              have HFD : Hid (Sort.fixDown (ltF f) a iu Y = Y) := Lib.hid (by unfold Sort.fixDown; rw [if_neg h2])
              clear h2
              go_upto_region 18 with (go_at_call 54; refine HSW.out.mono ?_; rintro e w1 ⟨rfl, HK2⟩)
              clear h2z h2d
              have HK3 : Hid (SX g f blk w (Sort.fixDown (ltF f) a iu Y) w1) := Lib.hid (by rw [HFD.out]; exact HK2.out)
              generalize Sort.fixDown (ltF f) a iu Y = Y2 at HPL2 HK3
              by_cases h2 : b - iu ≥ 2
              · have h2z : 2 ≤ (b : Int) - (iu : Int) := by omega
                have HFD : Hid (Sort.fixUp (ltF f) b iu Y2 = Sort.shiftUp (ltF f) b (iu + 1) Y2) := Lib.hid (by unfold Sort.fixUp; rw [if_pos h2])
                go_wp2_with fail
                go_loopg [10] (b - (iu + 1)) (fun k v wr => ∃ (j : Nat) (Z : Array Nat), v = .int .i64 j ∧ iu + 1 ≤ j ∧ j ≤ b ∧ b - j ≤ k ∧ Hid (SX g f blk w Z wr) ∧ Hid (Sort.shiftUp (ltF f) b j Z = Sort.fixUp (ltF f) b iu Y2))
                case atStart => exact ⟨iu + 1, Y2, by go_num, Nat.le_refl _, by omega, Nat.le_refl _, HK3, Lib.hid HFD.out.symm⟩
                case round =>
                  obtain ⟨j, Z, rfl, hj1, hj2, hj3, HT, HE⟩ := hrel
                  have he := HE.out
                  rw [shu_eq] at he
                  by_cases hle : j < b
                  · have hlez : (j : Int) < (b : Int) := by omega
                    have hl := sx_lessZ HT.out j (j - 1) (j : Int) ((j : Int) - 1) (by omega) (by omega) rfl (by omega)
                    cases hb : ltF f Z[j]! Z[j - 1]! with
                    | true =>
                      rw [hb] at hl
                      rw [if_pos ⟨hle, hb⟩] at he
                      have HL := Lib.hid hl
                      have HEE := Lib.hid he
                      clear hl he hb HE
                      go_wp2_with (go_at_call 53; refine HL.out.mono ?_; rintro e w2 ⟨rfl, HT1⟩; have HSW2 := Lib.hid (sx_swapZ HT1.out j (j - 1) (j : Int) ((j : Int) - 1) (by omega) (by omega) rfl (by omega)))
                      go_wp2_with (go_at_call 54; refine HSW2.out.mono ?_; rintro e w3 ⟨rfl, HT2⟩)
                      go_roundg (b - (j + 1))
                      case rel => exact ⟨j + 1, _, by go_num, by omega, by omega, Nat.le_refl _, HT2, HEE⟩
                      case measure => omega
                    | false =>
                      rw [hb] at hl
                      rw [if_neg (fun h => by rw [hb] at h; cases h.2)] at he
                      have HL := Lib.hid hl
                      have HEE := Lib.hid he
                      clear hl he hb HE
                      go_wp2_with (go_at_call 53; refine HL.out.mono ?_; rintro e w2 ⟨rfl, HT1⟩)
                      go_roundg (4 - s)
                      case rel => exact ⟨s + 1, iu, Sort.fixUp (ltF f) b iu Y2, rfl, by go_num, by omega, by omega, by omega, hub, (by rw [← HEE.out]; exact HT1), Lib.hid (by rw [show 5 - (s + 1) = 4 - s by omega]; exact HPL2.out)⟩
                      case measure => omega
                  · have hlez : ¬ (j : Int) < (b : Int) := by omega
                    rw [if_neg (fun h => hle h.1)] at he
                    have HEE := Lib.hid he
                    clear he HE
                    go_wp2_with fail
                    go_roundg (4 - s)
                    case rel => exact ⟨s + 1, iu, Sort.fixUp (ltF f) b iu Y2, rfl, by go_num, by omega, by omega, by omega, hub, (by rw [← HEE.out]; exact HT), Lib.hid (by rw [show 5 - (s + 1) = 4 - s by omega]; exact HPL2.out)⟩
                    case measure => omega
              · have h2z : ¬ 2 ≤ (b : Int) - (iu : Int) := by omega
                have HFD : Hid (Sort.fixUp (ltF f) b iu Y2 = Y2) := Lib.hid (by unfold Sort.fixUp; rw [if_neg h2])
                go_wp2_with fail
                go_roundg (4 - s)
                case rel => exact ⟨s + 1, iu, Sort.fixUp (ltF f) b iu Y2, rfl, by go_num, by omega, by omega, by omega, hub, (by rw [HFD.out]; exact HK3), Lib.hid (by rw [show 5 - (s + 1) = 4 - s by omega]; exact HPL2.out)⟩
                case measure => omega
    · have hsz : ¬ (s : Int) < 5 := by omega
      have hpl := HR.out
      rw [show 5 - s = 0 by omega] at hpl
      have hpl2 : (X, false) = (R, F) := hpl
      injection hpl2 with e1 e2
      have HE : Hid (X = R ∧ false = F) := Lib.hid ⟨e1, e2⟩
      clear e1 e2 hpl HR
      go_wp2_with fail
      go_ret
      rw [← HE.out.1, ← HE.out.2]
      exact ⟨rfl, HK⟩
end
end Go.Proofs.Ytiocceoogapkcaa.Aux
