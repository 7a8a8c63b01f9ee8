/- The CSS files found in JS order are, as a multiset, those of all files reachable from the entry; the entry's own comes last. No condition. -/
import Derived.Test.YtfjjokophgkifaaRows
import Derived.WalkKit
import Derived.ProofKit
import Derived.OpenShut
import Derived.ShutString
import Derived.Test.YtfjjokophgkifaaFacts
import Derived.Test.YtfjjokophgkifaaL
import Derived.Test.YtfjjokophgkifaaM
import Derived.Test.YtfjjokophgkifaaAid
import Derived.Test.YtfjjokophgkifaaK
namespace Go.Proofs.Ytfjjokophgkifaa.fnCSSFilesInJSOrderCoversReachableCSS
open Go.ChangeShapes Go.WideShapes Go.ChangeAt Go.RowKit
open Go.ChangeMaps (open_string shut_string)
set_option linter.unusedVariables false

theorem own : ownKnob Try.prog.godebug = none := by kernel_rfl
theorem laidOut : laidOutB Try.prog = true := FactsL.laid

open Aux

set_option maxHeartbeats 2000000 in
theorem walk (a0 : Option Addr) (len0 cap0 : Nat) (m0 : Nat → Aux.FD) (a1 : Int) (w : World) (w0 : Aux.FilesIn w a0 len0 m0 ∧ Aux.FW len0 m0) (w1 : (Lit.int .u32 a1).wf = true) :
    Calls Try.prog 3 #[.slice a0 len0 cap0, .int .u32 a1] w fun e w' => e = .returned (.bool true) ∧ Below w.heap.size w w' := by
  exact main3 a0 len0 cap0 m0 a1 w w0.1 w0.2 (Aid.u32_of w1)

set_option maxRecDepth 100000 in
theorem lifted (os : Os) (started : os.Started) (H : Type) (enc : TypeId × Value → H) :
    ReturnsInHanded {} Try.checked os 3 .any (Rows.fnCSSFilesInJSOrderCoversReachableCSSSpec.pre6 enc Try.prog Try.f3 Rows.fnCSSFilesInJSOrderCoversReachableCSSRow.domain false) (Rows.fnCSSFilesInJSOrderCoversReachableCSSSpec.post enc Try.prog Try.f3 false true false false) := by
  refine returnsInHanded_of_change (C := Try.checked) own started (by kernel_rfl) Try.func3
    (ChangeSpec.witness6 (enc := enc) (C := Try.checked) false ⟨#[], #[.slice none 0 0, .int .u32 0], []⟩ 8 (by kernel_rfl) (by kernel_rfl) (by kernel_rfl) (by kernel_rfl)) ?_
  intro W base args ds gs before hval0 hW hcnd _
  have hval : ∀ (j : Nat) t v, Try.f3.params[j]? = some t → args[j]? = some v → Value.okWide Try.prog W .any base t v := hval0
  have hW' := hW
  obtain ⟨p, q, hA0, hV, rfl, hfz, hnd⟩ := hW
  have hA : DataW.TrodAll enc Try.prog W 0 (fun _ => true) true Try.f3.params.toList args.toList ds p := hA0
  rw [Try.params3] at hA hval
  obtain ⟨v0, vs0, d0, ds0, p0, q0, hargs, rfl, rfl, h0, r0⟩ := trodAll_cons hA
  obtain ⟨v1, vs1, d1, ds1, p1, q1, rfl, rfl, rfl, h1, r1⟩ := trodAll_cons r0
  obtain ⟨rfl, rfl, rfl⟩ := trodAll_nil r1
  obtain rfl : args = #[v0, v1] := by cases args; simp_all
  obtain ⟨rfl, rfl⟩ := trodVars_none hV
  obtain ⟨a0, len0, cap0, rfl⟩ := okWide_slice Try.underlying22 (hval 0 22 v0 rfl rfl)
  have k0 := h0
  have lt0 : ∀ x ∈ p0, x.block < W.heap.size := by obtain ⟨m, hm⟩ := k0; exact DataW.trod_lt m _ _ _ hm
  obtain ⟨m0, w0, x0, _⟩ := Aux.open_files rfl h0
  obtain ⟨a1, rfl, rfl, rfl, w1⟩ := open_int Try.underlying23 (hval 1 23 v1 rfl rfl) h1
  clear hA0 hval0
  refine (walk a0 len0 cap0 m0 a1 W ⟨w0, x0⟩ w1).mono fun e W' ⟨he, bel⟩ => ?_
  subst he
  exact ⟨_, rfl, _, _, _, [], _, [], hW', trodAll_mk1 (shut_bool Try.underlying4 _), (trodAll_cons_mk (Below.trod laidOut (by kernel_rfl) (of_decide_eq_true (by kernel_rfl)) k0 bel lt0) (trodAll_cons_mk (shut_int Try.underlying23 w1) trodAll_mk0)), rfl, bel.frame _, fun h => by cases h⟩

theorem j1 : (Rows.fnCSSFilesInJSOrderCoversReachableCSSRow.inPlace == Try.prog.inPlace 3) = true := by kernel_rfl
theorem j2 : (Rows.fnCSSFilesInJSOrderCoversReachableCSSRow.unfollowed == Try.prog.unfollowed 3) = true := by kernel_rfl
theorem j3 : (Rows.fnCSSFilesInJSOrderCoversReachableCSSRow.recurses == Try.prog.recurses 3) = true := by kernel_rfl
theorem j4 : (Rows.fnCSSFilesInJSOrderCoversReachableCSSRow.named == Try.prog.varsNamed 3) = true := by kernel_rfl
theorem joined : joinedFacts Try.prog 3 Try.f3 Rows.fnCSSFilesInJSOrderCoversReachableCSSSpec Rows.fnCSSFilesInJSOrderCoversReachableCSSRow = true := by
  unfold joinedFacts
  rw [Facts.enter, Facts.lifts, Facts.make, FactsL.laid, FactsM.rowed, j1, j2, j3, j4]
  kernel_rfl

theorem over : Rows.fnCSSFilesInJSOrderCoversReachableCSSRow.holds Try.pinned (OpenSpec.ofChange Rows.fnCSSFilesInJSOrderCoversReachableCSSSpec) :=
  OpenClaim.holds_of_wide 3 Try.f3 rfl rfl rfl rfl rfl rfl rfl ⟨rfl, rfl, rfl, rfl, rfl⟩ rfl rfl rfl rfl rfl (by kernel_rfl) Try.func3 joined
    (of_decide_eq_true (by kernel_rfl)) (by unfold Func.isWrapper; first | (rw [if_pos (by decide +kernel)]; kernel_rfl) | (rw [if_neg (by decide +kernel)]; exact ⟨rfl, rfl⟩))
    (fun os started H enc _ => lifted os started H enc)

theorem proved : Rows.FnCSSFilesInJSOrderCoversReachableCSSSaid :=
  over
#print axioms proved
end Go.Proofs.Ytfjjokophgkifaa.fnCSSFilesInJSOrderCoversReachableCSS
