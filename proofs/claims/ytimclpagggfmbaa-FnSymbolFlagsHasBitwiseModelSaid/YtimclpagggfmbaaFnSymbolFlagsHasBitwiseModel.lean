/- For all 16-bit flags and queries, Has is true exactly when some bit position is set in both. No condition. -/
import Derived.Test.YtimclpagggfmbaaRows
import Derived.WalkKit
import Derived.ProofKit
import Derived.OpenShut
import Derived.ShutString
import Derived.Test.YtimclpagggfmbaaFacts
import Derived.DataShut
import Derived.Laws.BitsAllLaws
import Derived.LoopTactic
import Derived.Lib.Hide
namespace Go.Proofs.Ytimclpagggfmbaa.fnSymbolFlagsHasBitwiseModel
open Go.ChangeShapes Go.WideShapes Go.ChangeAt Go.RowKit
open Go.ChangeMaps (open_string shut_string)
set_option linter.unusedVariables false      -- a walk need not use every 'w<i>' (that an integer argument fits its kind)

theorem own : ownKnob Try.prog.godebug = none := by kernel_rfl

def anyBit (a b : Int) (k : Nat) : Bool := (List.range k).any fun j => (bits .and .u16 (a / 2 ^ j) 1 == 1) && (bits .and .u16 (b / 2 ^ j) 1 == 1)
theorem anyBit_zero (a b : Int) : anyBit a b 0 = false := rfl
theorem anyBit_succ (a b : Int) (k : Nat) : anyBit a b (k + 1) = (anyBit a b k || ((bits .and .u16 (a / 2 ^ k) 1 == 1) && (bits .and .u16 (b / 2 ^ k) 1 == 1))) := by
  unfold anyBit
  rw [List.range_succ, List.any_append]
  simp
theorem bit1 (n k : Nat) (h : n < 65536) : (bits .and .u16 ((n : Int) / 2 ^ k) 1 == 1) = n.testBit k := by
  have hd : n / 2 ^ k ≤ n := Nat.div_le_self _ _
  have e := u16_and_nat (n / 2 ^ k) 1 (by omega) (by omega)
  have c : ((n / 2 ^ k : Nat) : Int) = (n : Int) / 2 ^ k := by simp
  rw [c] at e
  rw [show (1 : Int) = ((1 : Nat) : Int) from rfl, e, Nat.and_one_is_mod, Nat.testBit_eq_decide_div_mod_eq, Bool.eq_iff_iff]
  simp only [beq_iff_eq, decide_eq_true_eq]
  omega
theorem anyBit_all (a b : Int) (ha : 0 ≤ a ∧ a ≤ 65535) (hb : 0 ≤ b ∧ b ≤ 65535) : ((bits .and .u16 a b != 0) == anyBit a b 16) = true := by
  obtain ⟨n, rfl⟩ := Int.eq_ofNat_of_zero_le ha.1
  obtain ⟨m, rfl⟩ := Int.eq_ofNat_of_zero_le hb.1
  rw [u16_and_nat n m (by omega) (by omega), beq_iff_eq, Bool.eq_iff_iff]
  unfold anyBit
  simp only [bne_iff_ne, ne_eq, List.any_eq_true, List.mem_range, Bool.and_eq_true, bit1 n _ (by omega), bit1 m _ (by omega)]
  have hcast : ¬ ((n &&& m : Nat) : Int) = 0 ↔ (n &&& m) ≠ 0 := by omega
  rw [hcast]
  constructor
  · intro h
    obtain ⟨j, hj⟩ := Nat.exists_testBit_of_ne_zero h
    rw [Nat.testBit_and, Bool.and_eq_true] at hj
    refine ⟨j, ?_, hj⟩
    apply Classical.byContradiction
    intro hge
    have : n.testBit j = false := Nat.testBit_lt_two_pow (Nat.lt_of_lt_of_le (show n < 2 ^ 16 by omega) (Nat.pow_le_pow_right (by omega) (by omega)))
    rw [this] at hj
    exact absurd hj.1 (by simp)
  · rintro ⟨j, _, h1, h2⟩ h0
    have : (n &&& m).testBit j = true := by rw [Nat.testBit_and, h1, h2]; rfl
    rw [h0] at this
    simp at this

/-! ### STEP 1: THE WALK: the Go text returns true. 'Grown w w'': the world has at most new blocks (Derived/RowKit3.lean). Part the cases AHEAD of 'go_enter' where a test parts the walk; take each callee by a contract of your own. -/
theorem walk (a0 : Int) (a1 : Int) (w0 : (Lit.int .u16 a0).wf = true) (w1 : (Lit.int .u16 a1).wf = true) (w : World) :
    Calls Try.prog 8 #[.int .u16 a0, .int .u16 a1] w fun e w' => e = .returned (.bool true) ∧ Grown w w' := by
  have b0 : 0 ≤ a0 ∧ a0 ≤ 65535 := by simpa [Lit.wf_int_iff, IntKind.min_u16, IntKind.max_u16] using w0
  have b1 : 0 ≤ a1 ∧ a1 ≤ 65535 := by simpa [Lit.wf_int_iff, IntKind.min_u16, IntKind.max_u16] using w1
  have hall := anyBit_all a0 a1 b0 b1
  clear w0 w1
  go_enter Try.func8, Try.ntmps8
  go_wp2
  go_loop [5, 6] (fun v i => ∃ k : Nat, k ≤ 16 ∧ i = .int .u64 k ∧ v = .bool (anyBit a0 a1 k)) (fun _ i => 16 - (intOf i).toNat)
  case atStart => exact ⟨0, by omega, rfl, by rw [anyBit_zero]⟩
  case round =>
    obtain ⟨k, hk, rfl, rfl⟩ := hrel
    by_cases hlt : k < 16
    · have HS := Lib.hid (anyBit_succ a0 a1 k)
      by_cases t1 : bits .and .u16 (a0 / 2 ^ k) 1 = 1
      · by_cases t2 : bits .and .u16 (a1 / 2 ^ k) 1 = 1
        · have t3 : (bits .and .u16 (a1 / 2 ^ k) 1 == 1) = true := by simpa using t2
          have HN := Lib.hid (show anyBit a0 a1 (k + 1) = true by rw [HS.out, t1, t2]; simp)
          go_wp2
          go_round
          case rel => exact ⟨k + 1, by omega, by go_num, by rw [HN.out]⟩
          case measure => simp [intOf]; omega
        · have t3 : (bits .and .u16 (a1 / 2 ^ k) 1 == 1) = false := by simpa using t2
          have HN := Lib.hid (show anyBit a0 a1 (k + 1) = anyBit a0 a1 k by rw [HS.out, t1, t3]; simp)
          go_wp2
          go_round
          case rel => exact ⟨k + 1, by omega, by go_num, by rw [HN.out]⟩
          case measure => simp [intOf]; omega
      · have t3 : (bits .and .u16 (a0 / 2 ^ k) 1 == 1) = false := by simpa using t1
        have HN := Lib.hid (show anyBit a0 a1 (k + 1) = anyBit a0 a1 k by rw [HS.out, t3]; simp)
        go_wp2
        go_round
        case rel => exact ⟨k + 1, by omega, by go_num, by rw [HN.out]⟩
        case measure => simp [intOf]; omega
    · obtain rfl : k = 16 := by omega
      go_wp2
      go_ret
      exact ⟨rfl, by repeat (first | exact Grown.refl _ | apply Grown.drew | apply Grown.alloc)⟩

/-! ### THE ROW's STEP: WRITTEN OUT: LEAVE IT -/
set_option maxRecDepth 100000 in
theorem lifted (os : Os) (started : os.Started) (H : Type) (enc : TypeId × Value → H) :
    ReturnsInHanded {} Try.checked os 8 .any (Rows.fnSymbolFlagsHasBitwiseModelSpec.pre6 enc Try.prog Try.f8 Rows.fnSymbolFlagsHasBitwiseModelRow.domain false) (Rows.fnSymbolFlagsHasBitwiseModelSpec.post enc Try.prog Try.f8 false true false false) := by
  refine returnsInHanded_of_change (C := Try.checked) own started (by kernel_rfl) Try.func8
    (ChangeSpec.witness6 (enc := enc) (C := Try.checked) false ⟨#[], #[.int .u16 0, .int .u16 0], []⟩ 8 (by kernel_rfl) (by kernel_rfl) (by kernel_rfl) (by kernel_rfl)) ?_
  intro W base args ds gs before hval0 hW hcnd _
  have hval : ∀ (j : Nat) t v, Try.f8.params[j]? = some t → args[j]? = some v → Value.okWide Try.prog W .any base t v := hval0
  have hW' := hW
  obtain ⟨p, q, hA0, hV, rfl, hfz, hnd⟩ := hW
  have hA : DataW.TrodAll enc Try.prog W 0 (fun _ => true) true Try.f8.params.toList args.toList ds p := hA0
  rw [Try.params8] at hA hval
  obtain ⟨v0, vs0, d0, ds0, p0, q0, hargs, rfl, rfl, h0, r0⟩ := trodAll_cons hA
  obtain ⟨v1, vs1, d1, ds1, p1, q1, rfl, rfl, rfl, h1, r1⟩ := trodAll_cons r0
  obtain ⟨rfl, rfl, rfl⟩ := trodAll_nil r1
  obtain rfl : args = #[v0, v1] := by cases args; simp_all
  obtain ⟨rfl, rfl⟩ := trodVars_none hV
  obtain ⟨a0, rfl, rfl, rfl, w0⟩ := open_int Try.underlying36 (hval 0 36 v0 rfl rfl) h0
  obtain ⟨a1, rfl, rfl, rfl, w1⟩ := open_int Try.underlying36 (hval 1 36 v1 rfl rfl) h1
  clear hA0 hval0
  simp only [List.append_nil] at hW'
  refine (walk a0 a1 w0 w1 W).mono fun e W' ⟨he, hg⟩ => ?_
  subst he
  exact ⟨_, rfl, post_of_same (pa := []) (pv := []) hW' (fun _ _ _ => (trodAll_cons_mk (shut_bool Try.underlying4 _) trodAll_mk0)) (fun sp _ => (trodAll_cons_mk (shut_int Try.underlying36 w0) (trodAll_cons_mk (shut_int Try.underlying36 w1) trodAll_mk0))) (fun _ _ => rfl) rfl
    (hg.frame _) hg.2.1 (ok_one (by kernel_rfl) rfl (okWide_bool_mk Try.underlying4 _))⟩

theorem joined : joinedFacts Try.prog 8 Try.f8 Rows.fnSymbolFlagsHasBitwiseModelSpec Rows.fnSymbolFlagsHasBitwiseModelRow = true := by
  unfold joinedFacts
  rw [Facts.enter, Facts.lifts, Facts.make]
  kernel_rfl

theorem over : Rows.fnSymbolFlagsHasBitwiseModelRow.holds Try.pinned (OpenSpec.ofChange Rows.fnSymbolFlagsHasBitwiseModelSpec) :=
  OpenClaim.holds_of_wide 8 Try.f8 rfl rfl rfl rfl rfl rfl rfl ⟨rfl, rfl, rfl, rfl, rfl⟩ rfl rfl rfl rfl rfl (by kernel_rfl) Try.func8 joined
    (of_decide_eq_true (by kernel_rfl)) (by unfold Func.isWrapper; first | (rw [if_pos (by decide +kernel)]; kernel_rfl) | (rw [if_neg (by decide +kernel)]; exact ⟨rfl, rfl⟩))
    (fun os started H enc _ => lifted os started H enc)

/-- ████ THE STATEMENT ████ -/
theorem proved : Rows.FnSymbolFlagsHasBitwiseModelSaid :=
  over
#print axioms proved
end Go.Proofs.Ytimclpagggfmbaa.fnSymbolFlagsHasBitwiseModel
