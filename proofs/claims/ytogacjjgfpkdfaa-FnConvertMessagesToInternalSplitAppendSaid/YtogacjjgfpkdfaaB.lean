/- Contracts of functions that the law of this seat reaches, and plain facts; no condition. -/
import Derived.Test.YtogacjjgfpkdfaaProg
import Derived.WalkKit
import Derived.ProofKit
import Derived.OpenShut
import Derived.ShutString
import Derived.Test.YtogacjjgfpkdfaaAid
import Derived.Test.YtogacjjgfpkdfaaFl
import Derived.Test.YtogacjjgfpkdfaaStr
import Derived.Test.YtogacjjgfpkdfaaPb
import Derived.Test.YtogacjjgfpkdfaaQd
import Derived.Test.YtogacjjgfpkdfaaAm
import Derived.Test.YtogacjjgfpkdfaaMp
import Derived.Test.YtogacjjgfpkdfaaA
import Derived.Laws.IdiomRangeMap
import Derived.ArgAppend
import Derived.Maps.Own
import Derived.WalkSmall
import Derived.WalkSpells
import Derived.Laws.Externs
import Derived.WalkLawsBesides
import Derived.LoopTactic
import Derived.Deep.CutBlock
import Derived.Deep.DeepCutAuto
import Derived.IntWalk
import Derived.Outline
import Derived.Deep.QuietTactic
import Derived.BigQuiet
import Derived.RegionTactic
import Derived.Deep.RegionHeld3
import Derived.Deep.MidRow
import Derived.StillTailTactics
import Derived.BigRegion
import Derived.Laws.OwnMore
import Derived.Laws.Rows
namespace Go.Proofs.Ytogacjjgfpkdfaa.Aux
open Go.ChangeShapes Go.WideShapes Go.ChangeAt Go.RowKit
open Go.ChangeMaps (open_string shut_string)
set_option linter.unusedVariables false
set_option linter.unusedSimpArgs false
open Fl Str Pb Qd Am Mp PlainAid Aux
open Go.ChangeMaps
theorem has_newI {w : World} {b : Nat} {ks : List Nat} (h : MapHas b ks w) (hk : ∀ x ∈ ks, x < 256) {k : Int} (h0 : 0 ≤ k) (hk2 : k < 256) (hn : k.toNat ∉ ks) :
    ∃ w', (Instr.mapUpdate 62 (.map (some b)) (.int .u8 k) (.int .i8 3)).run Try.prog w = .ok () w' ∧ Hid (MapHas b (ks ++ [k.toNat]) w' ∧ Below b w w' ∧ w'.heap.size = w.heap.size) := by
  have e : ((k.toNat : Nat) : Int) = k := Int.toNat_of_nonneg h0
  have := has_new h hk (k := k.toNat) (by omega) hn
  rwa [e] at this
/-- While a run of IDs is set. -/
def Rn (b f : Nat) (k : Nat) (w wr : World) : Prop := MapHas b (List.range' f (k - f)) wr ∧ Below b w wr ∧ wr.heap.size = w.heap.size
theorem rn_next {b f k : Nat} {w wr : World} (h : Rn b f k w wr) (hf : f ≤ k) (hk : k < 255) :
    ∃ w', (Instr.mapUpdate 62 (.map (some b)) (.int .u8 (k : Int)) (.int .i8 3)).run Try.prog wr = .ok () w' ∧ Hid (Rn b f (k + 1) w w') := by
  obtain ⟨h1, h2, h3⟩ := h
  obtain ⟨w', e, H⟩ := has_new h1 (fun x hx => by rw [List.mem_range'_1] at hx; omega) (k := k) (by omega) (by rw [List.mem_range'_1]; omega)
  obtain ⟨q1, q2, q3⟩ := H.out
  refine ⟨w', e, Lib.hid ⟨?_, h2.trans q2, q3.trans h3⟩⟩
  rw [show k + 1 - f = (k - f) + 1 by omega, List.range'_concat, Nat.one_mul, show f + (k - f) = k by omega]
  exact q1
set_option maxRecDepth 100000 in
set_option maxHeartbeats 100000000 in
theorem ids16 (s : ByteArray) (b : Nat) (w : World) (h : MapHas b [] w) : Calls Try.prog 16 #[.string s, .int .i8 3, .map (some b)] w (Ms b s w) := by
  have HM := Lib.hid h
  clear h
  go_enter Try.func16, Try.ntmps16
  by_cases p6 : s.toList = [112, 97, 99, 107, 97, 103, 101, 46, 106, 115, 111, 110]
  · have e : ids s = List.range' 55 7 := by unfold ids; rw [p6]; kernel_rfl
    have HE := Lib.hid e
    clear e
    go_wp2_with fail
    go_loopw [6] (fun s6 wr => ∃ k : Nat, 55 ≤ k ∧ k ≤ 62 ∧ s6 = .int .u8 k ∧ Hid (Rn b 55 k w wr)) (fun s6 _ => 62 - (intOf s6).toNat)
    case atStart => exact ⟨55, by omega, by omega, rfl, Lib.hid ⟨HM.out, Below.refl _ _, rfl⟩⟩
    case round =>
      obtain ⟨k, hk1, hk2, rfl, HR⟩ := hrel
      by_cases hk : k ≤ 61
      · have hkz : (k : Int) ≤ 61 := by omega
        go_wp2_with (at_mapUpdate; refine wpList_mapSet rfl _ _ _ 62 rfl rfl rfl rfl (rn_next HR.out hk1 (by omega)) ?_; intro w2 hw2)
        go_roundw
        case rel => exact ⟨k + 1, by omega, by omega, by go_num, hw2⟩
        case measure => simp [intOf]; omega
      · have hkz : ¬ (k : Int) ≤ 61 := by omega
        have hke : k = 62 := by omega
        subst hke
        go_wp2_with fail
        go_end0
        exact ⟨rfl, Lib.hid (by rw [HE.out]; exact HR.out)⟩
  have pb6 : (s.toList == [112, 97, 99, 107, 97, 103, 101, 46, 106, 115, 111, 110]) = false := beq_eq_false_iff_ne.2 p6
  by_cases p7 : s.toList = [116, 115, 99, 111, 110, 102, 105, 103, 46, 106, 115, 111, 110]
  · have e : ids s = List.range' 62 9 := by unfold ids; rw [p7]; kernel_rfl
    have HE := Lib.hid e
    clear e
    go_wp2_with fail
    go_loopw [7] (fun s6 wr => ∃ k : Nat, 62 ≤ k ∧ k ≤ 71 ∧ s6 = .int .u8 k ∧ Hid (Rn b 62 k w wr)) (fun s6 _ => 71 - (intOf s6).toNat)
    case atStart => exact ⟨62, by omega, by omega, rfl, Lib.hid ⟨HM.out, Below.refl _ _, rfl⟩⟩
    case round =>
      obtain ⟨k, hk1, hk2, rfl, HR⟩ := hrel
      by_cases hk : k ≤ 70
      · have hkz : (k : Int) ≤ 70 := by omega
        go_wp2_with (at_mapUpdate; refine wpList_mapSet rfl _ _ _ 62 rfl rfl rfl rfl (rn_next HR.out hk1 (by omega)) ?_; intro w2 hw2)
        go_roundw
        case rel => exact ⟨k + 1, by omega, by omega, by go_num, hw2⟩
        case measure => simp [intOf]; omega
      · have hkz : ¬ (k : Int) ≤ 70 := by omega
        have hke : k = 71 := by omega
        subst hke
        go_wp2_with fail
        go_end0
        exact ⟨rfl, Lib.hid (by rw [HE.out]; exact HR.out)⟩
  have pb7 : (s.toList == [116, 115, 99, 111, 110, 102, 105, 103, 46, 106, 115, 111, 110]) = false := beq_eq_false_iff_ne.2 p7
  go_wp2_with (at_mapUpdate; refine wpList_mapSet rfl _ _ _ 62 rfl rfl rfl rfl (has_newI HM.out (fun x hx => by cases hx) (by decide) (by decide) (by simp)) ?_; intro w2 hw2)
  all_goals try (go_end0; refine ⟨rfl, Lib.hid ?_⟩; have e : ids s = _ := (by simp only [ids, *]; rfl); rw [e]; exact hw2.out)
  all_goals (go_end0; refine ⟨rfl, Lib.hid ?_⟩; have e : ids s = [] := (by simp only [ids, *]; rfl); rw [e]; exact ⟨HM.out, Below.refl _ _, rfl⟩)
end Go.Proofs.Ytogacjjgfpkdfaa.Aux
