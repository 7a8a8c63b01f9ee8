/- For all 16-bit f, g, h: Has is symmetric, distributes over union, f has itself exactly when f is nonzero, and no f has the empty set. No condition. -/
import Derived.Test.YtimclpagggfmbaaRows
import Derived.WalkKit
import Derived.ProofKit
import Derived.OpenShut
import Derived.ShutString
import Derived.Test.YtimclpagggfmbaaFacts
import Derived.DataShut
import Derived.Laws.BitsAllLaws
import Derived.Outline
namespace Go.Proofs.Ytimclpagggfmbaa.fnFlagsHasSymmetricAndDistributes
open Go.ChangeShapes Go.WideShapes Go.ChangeAt Go.RowKit
open Go.ChangeMaps (open_string shut_string)
set_option linter.unusedVariables false      -- a walk need not use every 'w<i>' (that an integer argument fits its kind)

theorem own : ownKnob Try.prog.godebug = none := by kernel_rfl

theorem comm (a b : Int) (ha : 0 ≤ a ∧ a ≤ 65535) (hb : 0 ≤ b ∧ b ≤ 65535) : bits .and .u16 b a = bits .and .u16 a b := by
  rw [u16_and _ _ (by omega) (by omega) (by omega) (by omega), u16_and _ _ (by omega) (by omega) (by omega) (by omega), Nat.and_comm]
theorem self (a : Int) (ha : 0 ≤ a ∧ a ≤ 65535) : bits .and .u16 a a = a := by
  rw [u16_and _ _ (by omega) (by omega) (by omega) (by omega), Nat.and_self]; omega
theorem zero (a : Int) (ha : 0 ≤ a ∧ a ≤ 65535) : bits .and .u16 a 0 = 0 := by
  rw [u16_and _ _ (by omega) (by omega) (by omega) (by omega)]; simp
theorem dist (a b c : Int) (ha : 0 ≤ a ∧ a ≤ 65535) (hb : 0 ≤ b ∧ b ≤ 65535) (hc : 0 ≤ c ∧ c ≤ 65535) :
    (bits .and .u16 a (bits .or .u16 b c) != 0) = ((bits .and .u16 a b != 0) || (bits .and .u16 a c != 0)) := by
  have hlt : b.toNat ||| c.toNat < 65536 := Nat.or_lt_two_pow (n := 16) (by omega) (by omega)
  rw [u16_or _ _ (by omega) (by omega) (by omega) (by omega), u16_and a b (by omega) (by omega) (by omega) (by omega), u16_and a c (by omega) (by omega) (by omega) (by omega),
    u16_and _ _ (by omega) (by omega) (by omega) (by omega), Int.toNat_natCast, Nat.and_or_distrib_left]
  have hz : ∀ x y : Nat, (((x ||| y : Nat) : Int) != 0) = (((x : Int) != 0) || ((y : Int) != 0)) := fun x y => by
    rw [Bool.eq_iff_iff]
    have h := Nat.or_eq_zero_iff (n := x) (m := y)
    simp only [bne_iff_ne, Bool.or_eq_true, ne_eq]
    omega
  exact hz _ _

/-! ### STEP 1: THE WALK: the Go text returns true. 'Grown w w'': the world has at most new blocks (Derived/RowKit3.lean). Part the cases AHEAD of 'go_enter' where a test parts the walk; take each callee by a contract of your own. -/
theorem walk (a0 : Int) (a1 : Int) (a2 : Int) (w0 : (Lit.int .u16 a0).wf = true) (w1 : (Lit.int .u16 a1).wf = true) (w2 : (Lit.int .u16 a2).wf = true) (w : World) :
    Calls Try.prog 12 #[.int .u16 a0, .int .u16 a1, .int .u16 a2] w fun e w' => e = .returned (.bool true) ∧ Grown w w' := by
  have b0 : 0 ≤ a0 ∧ a0 ≤ 65535 := by simpa [Lit.wf_int_iff, IntKind.min_u16, IntKind.max_u16] using w0
  have b1 : 0 ≤ a1 ∧ a1 ≤ 65535 := by simpa [Lit.wf_int_iff, IntKind.min_u16, IntKind.max_u16] using w1
  have b2 : 0 ≤ a2 ∧ a2 ≤ 65535 := by simpa [Lit.wf_int_iff, IntKind.min_u16, IntKind.max_u16] using w2
  have e1 := comm a0 a1 b0 b1
  have e2 := dist a0 a1 a2 b0 b1 b2
  have e3 := self a0 b0
  have e4 := zero a0 b0
  clear w0 w1 w2 b0 b1 b2
  by_cases h1 : bits .and .u16 a0 a1 = 0
  · by_cases h2 : bits .and .u16 a0 a2 = 0
    · have f2 : (bits .and .u16 a0 (bits .or .u16 a1 a2) != 0) = false := by rw [e2, h1, h2]; rfl
      clear e2
      go_enter Try.func12, Try.ntmps12
      go_wp2
      go_ret
      exact ⟨rfl, by repeat (first | exact Grown.refl _ | apply Grown.drew | apply Grown.alloc)⟩
    · have f2 : (bits .and .u16 a0 (bits .or .u16 a1 a2) != 0) = true := by rw [e2, h1]; simpa using h2
      have f3 : (bits .and .u16 a0 a2 != 0) = true := by simpa using h2
      clear e2
      go_enter Try.func12, Try.ntmps12
      go_wp2
      go_ret
      exact ⟨rfl, by repeat (first | exact Grown.refl _ | apply Grown.drew | apply Grown.alloc)⟩
  · have f2 : (bits .and .u16 a0 (bits .or .u16 a1 a2) != 0) = true := by rw [e2]; simp [h1]
    have f3 : (bits .and .u16 a0 a1 != 0) = true := by simpa using h1
    clear e2
    go_enter Try.func12, Try.ntmps12
    go_wp2
    go_ret
    exact ⟨rfl, by repeat (first | exact Grown.refl _ | apply Grown.drew | apply Grown.alloc)⟩

/-! ### THE ROW's STEP: WRITTEN OUT: LEAVE IT -/
set_option maxRecDepth 100000 in
theorem lifted (os : Os) (started : os.Started) (H : Type) (enc : TypeId × Value → H) :
    ReturnsInHanded {} Try.checked os 12 .any (Rows.fnFlagsHasSymmetricAndDistributesSpec.pre6 enc Try.prog Try.f12 Rows.fnFlagsHasSymmetricAndDistributesRow.domain false) (Rows.fnFlagsHasSymmetricAndDistributesSpec.post enc Try.prog Try.f12 false true false false) := by
  refine returnsInHanded_of_change (C := Try.checked) own started (by kernel_rfl) Try.func12
    (ChangeSpec.witness6 (enc := enc) (C := Try.checked) false ⟨#[], #[.int .u16 0, .int .u16 0, .int .u16 0], []⟩ 8 (by kernel_rfl) (by kernel_rfl) (by kernel_rfl) (by kernel_rfl)) ?_
  intro W base args ds gs before hval0 hW hcnd _
  have hval : ∀ (j : Nat) t v, Try.f12.params[j]? = some t → args[j]? = some v → Value.okWide Try.prog W .any base t v := hval0
  have hW' := hW
  obtain ⟨p, q, hA0, hV, rfl, hfz, hnd⟩ := hW
  have hA : DataW.TrodAll enc Try.prog W 0 (fun _ => true) true Try.f12.params.toList args.toList ds p := hA0
  rw [Try.params12] at hA hval
  obtain ⟨v0, vs0, d0, ds0, p0, q0, hargs, rfl, rfl, h0, r0⟩ := trodAll_cons hA
  obtain ⟨v1, vs1, d1, ds1, p1, q1, rfl, rfl, rfl, h1, r1⟩ := trodAll_cons r0
  obtain ⟨v2, vs2, d2, ds2, p2, q2, rfl, rfl, rfl, h2, r2⟩ := trodAll_cons r1
  obtain ⟨rfl, rfl, rfl⟩ := trodAll_nil r2
  obtain rfl : args = #[v0, v1, v2] := by cases args; simp_all
  obtain ⟨rfl, rfl⟩ := trodVars_none hV
  obtain ⟨a0, rfl, rfl, rfl, w0⟩ := open_int Try.underlying36 (hval 0 36 v0 rfl rfl) h0
  obtain ⟨a1, rfl, rfl, rfl, w1⟩ := open_int Try.underlying36 (hval 1 36 v1 rfl rfl) h1
  obtain ⟨a2, rfl, rfl, rfl, w2⟩ := open_int Try.underlying36 (hval 2 36 v2 rfl rfl) h2
  clear hA0 hval0
  simp only [List.append_nil] at hW'
  refine (walk a0 a1 a2 w0 w1 w2 W).mono fun e W' ⟨he, hg⟩ => ?_
  subst he
  exact ⟨_, rfl, post_of_same (pa := []) (pv := []) hW' (fun _ _ _ => (trodAll_cons_mk (shut_bool Try.underlying4 _) trodAll_mk0)) (fun sp _ => (trodAll_cons_mk (shut_int Try.underlying36 w0) (trodAll_cons_mk (shut_int Try.underlying36 w1) (trodAll_cons_mk (shut_int Try.underlying36 w2) trodAll_mk0)))) (fun _ _ => rfl) rfl
    (hg.frame _) hg.2.1 (ok_one (by kernel_rfl) rfl (okWide_bool_mk Try.underlying4 _))⟩

theorem joined : joinedFacts Try.prog 12 Try.f12 Rows.fnFlagsHasSymmetricAndDistributesSpec Rows.fnFlagsHasSymmetricAndDistributesRow = true := by
  unfold joinedFacts
  rw [Facts.enter, Facts.lifts, Facts.make]
  kernel_rfl

theorem over : Rows.fnFlagsHasSymmetricAndDistributesRow.holds Try.pinned (OpenSpec.ofChange Rows.fnFlagsHasSymmetricAndDistributesSpec) :=
  OpenClaim.holds_of_wide 12 Try.f12 rfl rfl rfl rfl rfl rfl rfl ⟨rfl, rfl, rfl, rfl, rfl⟩ rfl rfl rfl rfl rfl (by kernel_rfl) Try.func12 joined
    (of_decide_eq_true (by kernel_rfl)) (by unfold Func.isWrapper; first | (rw [if_pos (by decide +kernel)]; kernel_rfl) | (rw [if_neg (by decide +kernel)]; exact ⟨rfl, rfl⟩))
    (fun os started H enc _ => lifted os started H enc)

/-- ████ THE STATEMENT ████ -/
theorem proved : Rows.FnFlagsHasSymmetricAndDistributesSaid :=
  over
#print axioms proved
end Go.Proofs.Ytimclpagggfmbaa.fnFlagsHasSymmetricAndDistributes
