/- After merging adjacent local statements, every local statement that was handed in still has its own kind, export flag and exact list of declarations. No condition. -/
import Derived.Test.YtfoejbnbmmdmfaaRows
import Derived.WalkKit
import Derived.ProofKit
import Derived.OpenShut
import Derived.ShutString
import Derived.Test.YtfoejbnbmmdmfaaFacts
import Derived.Test.YtfoejbnbmmdmfaaAid
import Derived.Test.YtfoejbnbmmdmfaaFl
import Derived.Test.YtfoejbnbmmdmfaaC
namespace Go.Proofs.Ytfoejbnbmmdmfaa.fnMergeAdjacentLocalsLeavesOriginalsUntouched
open Go.ChangeShapes Go.WideShapes Go.ChangeAt Go.RowKit
open Go.ChangeMaps (open_string shut_string)
set_option linter.unusedVariables false

theorem own : ownKnob Try.prog.godebug = none := by kernel_rfl
theorem laidOut : laidOutB Try.prog = true := by kernel_rfl

open Fl Aux

set_option maxHeartbeats 2000000 in
theorem walk (a0 : Option Addr) (len0 cap0 : Nat) (z0 : List Int) (a1 : Option Addr) (len1 cap1 : Nat) (z1 : Nat → Bool) (a2 : Option Addr) (len2 cap2 : Nat) (z2 : List Int) (w : World) (w0 : Aid.IsRow .u8 w a0 len0 cap0 z0) (w1 : Aid.IsBools w a1 len1 cap1 z1) (w2 : Aid.IsRow .u8 w a2 len2 cap2 z2) :
    Calls Try.prog 3 #[.slice a0 len0 cap0, .slice a1 len1 cap1, .slice a2 len2 cap2] w fun e w' => e = .returned (.bool true) ∧ Below w.heap.size w w' := by
  obtain ⟨A, hF0, hA, _, _⟩ := Fl.of_ints w0
  obtain ⟨hF1, _, _⟩ := Fl.of_bools w1
  obtain ⟨C, hF2, hC, _, _⟩ := Fl.of_ints w2
  refine main a0 len0 cap0 A a1 len1 cap1 z1 a2 len2 cap2 (fun i => (C i).toNat) w hF0 hF1 (hF2.congr fun i hi => ?_) (fun i hi => Aid.u8_of (hA i hi)) (fun i hi => ?_)
  · have := Aid.u8_of (hC i hi)
    show Value.int .u8 (C i) = Value.int .u8 ((C i).toNat : Int)
    rw [Int.toNat_of_nonneg this.1]
  · have := Aid.u8_of (hC i hi)
    show (C i).toNat ≤ 255
    omega

set_option maxRecDepth 100000 in
theorem lifted (os : Os) (started : os.Started) (H : Type) (enc : TypeId × Value → H) :
    ReturnsInHanded {} Try.checked os 3 .any (Rows.fnMergeAdjacentLocalsLeavesOriginalsUntouchedSpec.pre6 enc Try.prog Try.f3 Rows.fnMergeAdjacentLocalsLeavesOriginalsUntouchedRow.domain false) (Rows.fnMergeAdjacentLocalsLeavesOriginalsUntouchedSpec.post enc Try.prog Try.f3 false true false false) := by
  refine returnsInHanded_of_change (C := Try.checked) own started (by kernel_rfl) Try.func3
    (ChangeSpec.witness6 (enc := enc) (C := Try.checked) false ⟨#[], #[.slice none 0 0, .slice none 0 0, .slice none 0 0], []⟩ 8 (by kernel_rfl) (by kernel_rfl) (by kernel_rfl) (by kernel_rfl)) ?_
  intro W base args ds gs before hval0 hW hcnd _
  have hval : ∀ (j : Nat) t v, Try.f3.params[j]? = some t → args[j]? = some v → Value.okWide Try.prog W .any base t v := hval0
  have hW' := hW
  obtain ⟨p, q, hA0, hV, rfl, hfz, hnd⟩ := hW
  have hA : DataW.TrodAll enc Try.prog W 0 (fun _ => true) true Try.f3.params.toList args.toList ds p := hA0
  rw [Try.params3] at hA hval
  obtain ⟨v0, vs0, d0, ds0, p0, q0, hargs, rfl, rfl, h0, r0⟩ := trodAll_cons hA
  obtain ⟨v1, vs1, d1, ds1, p1, q1, rfl, rfl, rfl, h1, r1⟩ := trodAll_cons r0
  obtain ⟨v2, vs2, d2, ds2, p2, q2, rfl, rfl, rfl, h2, r2⟩ := trodAll_cons r1
  obtain ⟨rfl, rfl, rfl⟩ := trodAll_nil r2
  obtain rfl : args = #[v0, v1, v2] := by cases args; simp_all
  obtain ⟨rfl, rfl⟩ := trodVars_none hV
  obtain ⟨a0, len0, cap0, rfl⟩ := okWide_slice Try.underlying22 (hval 0 22 v0 rfl rfl)
  have k0 := h0
  have lt0 : ∀ x ∈ p0, x.block < W.heap.size := by obtain ⟨m, hm⟩ := k0; exact DataW.trod_lt m _ _ _ hm
  obtain ⟨z0, w0⟩ := Aid.open_row Try.underlying22 Try.underlying5 (by kernel_rfl) h0
  obtain ⟨a1, len1, cap1, rfl⟩ := okWide_slice Try.underlying23 (hval 1 23 v1 rfl rfl)
  have k1 := h1
  have lt1 : ∀ x ∈ p1, x.block < W.heap.size := by obtain ⟨m, hm⟩ := k1; exact DataW.trod_lt m _ _ _ hm
  obtain ⟨z1, w1⟩ := Aid.open_bls Try.underlying23 Try.underlying4 (by kernel_rfl) h1
  obtain ⟨a2, len2, cap2, rfl⟩ := okWide_slice Try.underlying22 (hval 2 22 v2 rfl rfl)
  have k2 := h2
  have lt2 : ∀ x ∈ p2, x.block < W.heap.size := by obtain ⟨m, hm⟩ := k2; exact DataW.trod_lt m _ _ _ hm
  obtain ⟨z2, w2⟩ := Aid.open_row Try.underlying22 Try.underlying5 (by kernel_rfl) h2
  clear hA0 hval0
  refine (walk a0 len0 cap0 z0 a1 len1 cap1 z1 a2 len2 cap2 z2 W w0 w1 w2).mono fun e W' ⟨he, bel⟩ => ?_
  subst he
  exact ⟨_, rfl, _, _, _, [], _, [], hW', trodAll_mk1 (shut_bool Try.underlying4 _), (trodAll_cons_mk (Below.trod laidOut (by kernel_rfl) (of_decide_eq_true (by kernel_rfl)) k0 bel lt0) (trodAll_cons_mk (Below.trod laidOut (by kernel_rfl) (of_decide_eq_true (by kernel_rfl)) k1 bel lt1) (trodAll_cons_mk (Below.trod laidOut (by kernel_rfl) (of_decide_eq_true (by kernel_rfl)) k2 bel lt2) trodAll_mk0))), rfl, bel.frame _, fun h => by cases h⟩

theorem joined : joinedFacts Try.prog 3 Try.f3 Rows.fnMergeAdjacentLocalsLeavesOriginalsUntouchedSpec Rows.fnMergeAdjacentLocalsLeavesOriginalsUntouchedRow = true := by
  unfold joinedFacts
  rw [Facts.enter, Facts.lifts, Facts.make]
  kernel_rfl

theorem over : Rows.fnMergeAdjacentLocalsLeavesOriginalsUntouchedRow.holds Try.pinned (OpenSpec.ofChange Rows.fnMergeAdjacentLocalsLeavesOriginalsUntouchedSpec) :=
  OpenClaim.holds_of_wide 3 Try.f3 rfl rfl rfl rfl rfl rfl rfl ⟨rfl, rfl, rfl, rfl, rfl⟩ rfl rfl rfl rfl rfl (by kernel_rfl) Try.func3 joined
    (of_decide_eq_true (by kernel_rfl)) (by unfold Func.isWrapper; first | (rw [if_pos (by decide +kernel)]; kernel_rfl) | (rw [if_neg (by decide +kernel)]; exact ⟨rfl, rfl⟩))
    (fun os started H enc _ => lifted os started H enc)

theorem proved : Rows.FnMergeAdjacentLocalsLeavesOriginalsUntouchedSaid :=
  over
#print axioms proved
end Go.Proofs.Ytfoejbnbmmdmfaa.fnMergeAdjacentLocalsLeavesOriginalsUntouched
