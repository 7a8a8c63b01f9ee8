/- For every uint32 x, MakeIndex32(x) is valid exactly when x is not 0xFFFFFFFF. No condition. -/
import Derived.Test.YtimclpagggfmbaaRows
import Derived.WalkKit
import Derived.ProofKit
import Derived.OpenShut
import Derived.ShutString
import Derived.Test.YtimclpagggfmbaaFacts
import Derived.DataShut
import Derived.Laws.BitsAllLaws
namespace Go.Proofs.Ytimclpagggfmbaa.fnIndex32ValidExactlyExceptMax
open Go.ChangeShapes Go.WideShapes Go.ChangeAt Go.RowKit
open Go.ChangeMaps (open_string shut_string)
set_option linter.unusedVariables false      -- a walk need not use every 'w<i>' (that an integer argument fits its kind)

theorem own : ownKnob Try.prog.godebug = none := by kernel_rfl

theorem flip (a : Int) (h : 0 ≤ a ∧ a ≤ 4294967295) : bits .xor .u32 IntKind.u32.max a = 4294967295 - a := by
  obtain ⟨n, rfl⟩ := Int.eq_ofNat_of_zero_le h.1
  have e := u32_xor_nat 4294967295 n (by omega) (by omega)
  rw [IntKind.max_u32]
  rw [show ((4294967295 : Nat) : Int) = 4294967295 from rfl] at e
  rw [e]
  have h2 : 4294967295 ^^^ n = 4294967295 - n := by
    have e1 : (BitVec.allOnes 32 ^^^ BitVec.ofNat 32 n).toNat = (~~~ BitVec.ofNat 32 n).toNat := by rw [BitVec.allOnes_xor]
    rw [BitVec.toNat_xor, BitVec.toNat_not, BitVec.toNat_allOnes, BitVec.toNat_ofNat, Nat.mod_eq_of_lt (by omega)] at e1
    exact e1
  rw [h2]; omega

theorem make (a : Int) (w : World) (h : 0 ≤ a ∧ a ≤ 4294967295) :
    Calls Try.prog 13 #[.int .u32 a] w fun e w' => e = .returned (.agg #[.int .u32 (4294967295 - a)]) ∧ Grown w w' := by
  have hf := flip a h
  have hs : IntKind.u32.signed = false := rfl
  go_enter Try.func13, Try.ntmps13
  go_wp2
  exact bodyPost_ret (v := .agg #[.int .u32 (4294967295 - a)]) (by simp [results, Try.results13, go_sem]) rfl ⟨rfl, by repeat (first | exact Grown.refl _ | apply Grown.drew | apply Grown.alloc)⟩

theorem valid (a : Int) (w : World) :
    Calls Try.prog 14 #[.agg #[.int .u32 a]] w fun e w' => e = .returned (.bool (a != 0)) ∧ Grown w w' := by
  go_enter Try.func14, Try.ntmps14
  go_wp2
  go_ret
  exact ⟨rfl, by repeat (first | exact Grown.refl _ | apply Grown.drew | apply Grown.alloc)⟩

theorem grown_trans {a b c : World} (h : Grown a b) (k : Grown b c) : Grown a c :=
  ⟨World.keptBut_trans h.1 k.1, fun x => (k.2.1 x).trans (h.2.1 x), Nat.le_trans h.2.2 k.2.2⟩

/-! ### STEP 1: THE WALK: the Go text returns true. 'Grown w w'': the world has at most new blocks (Derived/RowKit3.lean). Part the cases AHEAD of 'go_enter' where a test parts the walk; take each callee by a contract of your own. -/
theorem walk (a0 : Int) (w0 : (Lit.int .u32 a0).wf = true) (w : World) :
    Calls Try.prog 3 #[.int .u32 a0] w fun e w' => e = .returned (.bool true) ∧ Grown w w' := by
  have b0 : 0 ≤ a0 ∧ a0 ≤ 4294967295 := by simpa [Lit.wf_int_iff, IntKind.min_u32, IntKind.max_u32] using w0
  have hv : (((4294967295 - a0 != 0) : Bool) == (a0 != 4294967295)) = true := by
    rw [beq_iff_eq, Bool.eq_iff_iff]; simp; omega
  go_enter Try.func3, Try.ntmps3
  go_wp2_with (first | (go_at_call 13; refine (make _ _ b0).mono ?_; rintro e w' ⟨rfl, hg⟩) | (go_at_call 14; refine (valid _ _).mono ?_; rintro e w' ⟨rfl, hg'⟩))
  go_ret
  exact ⟨rfl, grown_trans hg hg'⟩

/-! ### THE ROW's STEP: WRITTEN OUT: LEAVE IT -/
set_option maxRecDepth 100000 in
theorem lifted (os : Os) (started : os.Started) (H : Type) (enc : TypeId × Value → H) :
    ReturnsInHanded {} Try.checked os 3 .any (Rows.fnIndex32ValidExactlyExceptMaxSpec.pre6 enc Try.prog Try.f3 Rows.fnIndex32ValidExactlyExceptMaxRow.domain false) (Rows.fnIndex32ValidExactlyExceptMaxSpec.post enc Try.prog Try.f3 false true false false) := by
  refine returnsInHanded_of_change (C := Try.checked) own started (by kernel_rfl) Try.func3
    (ChangeSpec.witness6 (enc := enc) (C := Try.checked) false ⟨#[], #[.int .u32 0], []⟩ 8 (by kernel_rfl) (by kernel_rfl) (by kernel_rfl) (by kernel_rfl)) ?_
  intro W base args ds gs before hval0 hW hcnd _
  have hval : ∀ (j : Nat) t v, Try.f3.params[j]? = some t → args[j]? = some v → Value.okWide Try.prog W .any base t v := hval0
  have hW' := hW
  obtain ⟨p, q, hA0, hV, rfl, hfz, hnd⟩ := hW
  have hA : DataW.TrodAll enc Try.prog W 0 (fun _ => true) true Try.f3.params.toList args.toList ds p := hA0
  rw [Try.params3] at hA hval
  obtain ⟨v0, vs0, d0, ds0, p0, q0, hargs, rfl, rfl, h0, r0⟩ := trodAll_cons hA
  obtain ⟨rfl, rfl, rfl⟩ := trodAll_nil r0
  obtain rfl : args = #[v0] := by cases args; simp_all
  obtain ⟨rfl, rfl⟩ := trodVars_none hV
  obtain ⟨a0, rfl, rfl, rfl, w0⟩ := open_int Try.underlying22 (hval 0 22 v0 rfl rfl) h0
  clear hA0 hval0
  simp only [List.append_nil] at hW'
  refine (walk a0 w0 W).mono fun e W' ⟨he, hg⟩ => ?_
  subst he
  exact ⟨_, rfl, post_of_same (pa := []) (pv := []) hW' (fun _ _ _ => (trodAll_cons_mk (shut_bool Try.underlying4 _) trodAll_mk0)) (fun sp _ => (trodAll_cons_mk (shut_int Try.underlying22 w0) trodAll_mk0)) (fun _ _ => rfl) rfl
    (hg.frame _) hg.2.1 (ok_one (by kernel_rfl) rfl (okWide_bool_mk Try.underlying4 _))⟩

theorem joined : joinedFacts Try.prog 3 Try.f3 Rows.fnIndex32ValidExactlyExceptMaxSpec Rows.fnIndex32ValidExactlyExceptMaxRow = true := by
  unfold joinedFacts
  rw [Facts.enter, Facts.lifts, Facts.make]
  kernel_rfl

theorem over : Rows.fnIndex32ValidExactlyExceptMaxRow.holds Try.pinned (OpenSpec.ofChange Rows.fnIndex32ValidExactlyExceptMaxSpec) :=
  OpenClaim.holds_of_wide 3 Try.f3 rfl rfl rfl rfl rfl rfl rfl ⟨rfl, rfl, rfl, rfl, rfl⟩ rfl rfl rfl rfl rfl (by kernel_rfl) Try.func3 joined
    (of_decide_eq_true (by kernel_rfl)) (by unfold Func.isWrapper; first | (rw [if_pos (by decide +kernel)]; kernel_rfl) | (rw [if_neg (by decide +kernel)]; exact ⟨rfl, rfl⟩))
    (fun os started H enc _ => lifted os started H enc)

/-- ████ THE STATEMENT ████ -/
theorem proved : Rows.FnIndex32ValidExactlyExceptMaxSaid :=
  over
#print axioms proved
end Go.Proofs.Ytimclpagggfmbaa.fnIndex32ValidExactlyExceptMax
