/- Two wraps of one inner log: after every step each wrap reports errors exactly when an Error message was sent through that wrap itself. No condition. -/
import Derived.Test.YtphgbbddecfdnaaRows
import Derived.WalkKit
import Derived.ProofKit
import Derived.OpenShut
import Derived.ShutString
import Derived.Test.YtphgbbddecfdnaaFacts
import Derived.Test.YtphgbbddecfdnaaAid
import Derived.Test.YtphgbbddecfdnaaFl
import Derived.WalkSpells
import Derived.LoopTactic
import Derived.Outline
import Derived.Deep.QuietTactic
import Derived.BigQuiet
import Derived.Defers
import Derived.Laws.Pointers
import Derived.Laws.LoneSync
import Derived.Laws.EntriesVeiled
import Derived.Deep.DeepCutAuto
import Derived.IntWalk
import Derived.Test.YtphgbbddecfdnaaWl
namespace Go.Proofs.Ytphgbbddecfdnaa.fnWrappedLogsOverOneInnerAreIndependent
open Go.ChangeShapes Go.WideShapes Go.ChangeAt Go.RowKit
open Go.ChangeMaps (open_string shut_string)
set_option linter.unusedVariables false

theorem own : ownKnob Try.prog.godebug = none := by kernel_rfl
theorem laidOut : laidOutB Try.prog = true := by kernel_rfl

open Fl wl
def Bl (w : World) (e : Ending) (w' : World) : Prop := w' = w ∧ ∃ v, e = .returned (.bool v)
theorem zb (a0 a1 : Option Addr) (l0 c0 l1 c1 : Nat) (w : World) : Calls Try.prog 11 #[.slice a0 l0 c0, .slice a1 l1 c1] w (Bl w) := by
  by_cases h0 : (1048576 : Int) < (l0 : Int)
  · go_enter Try.func11, Try.ntmps11
    go_wp2_with fail
    go_ret
    exact ⟨rfl, _, rfl⟩
  have e1 : IntKind.i64.wrap (l0 : Int) = (l0 : Int) := IntWalk.i64_in _ (by omega)
  by_cases h1 : (1048576 : Int) < (l1 : Int)
  · go_enter Try.func11, Try.ntmps11
    go_wp2_with fail
    go_ret
    exact ⟨rfl, _, rfl⟩
  have e2 : IntKind.i64.wrap ((l0 : Int) + (l1 : Int)) = (l0 : Int) + (l1 : Int) := IntWalk.i64_in _ (by omega)
  by_cases h2 : (1048576 : Int) < (l0 : Int) + (l1 : Int)
  · go_enter Try.func11, Try.ntmps11
    go_wp2_with fail
    go_ret
    exact ⟨rfl, _, rfl⟩
  · go_enter Try.func11, Try.ntmps11
    go_wp2_with fail
    go_ret
    exact ⟨rfl, _, rfl⟩
theorem kind12 (w : World) : Calls Try.prog 12 #[] w fun e w' => e = .returned (.int .u8 0) ∧ w' = w := by
  go_enter Try.func12, Try.ntmps12
  go_wp2_with fail
  go_ret
  exact ⟨rfl, rfl⟩
structure Dis (B l m h f l' m' h' f' : Nat) : Prop where
  d : B ≤ m ∧ m < h ∧ h < f ∧ f < l ∧ l < m' ∧ m' < h' ∧ h' < f' ∧ f' < l'
structure St (w wr : World) (l m h f l' m' h' f' : Nat) (x y : Bool) : Prop where
  A : Wr wr l m h f x
  B : Wr wr l' m' h' f' y
  low : Below w.heap.size w wr
theorem St.hitA {w wr w' : World} {l m h f l' m' h' f' : Nat} {x y z : Bool} (s : St w wr l m h f l' m' h' f' x y) (D : Dis w.heap.size l m h f l' m' h' f') (E : Eff wr w' m h z) : St w w' l m h f l' m' h' f' z y := by
  have d := D.d
  exact ⟨s.A.self E (by omega) (by omega) (by omega), s.B.other E (by omega) (by omega) (by omega) (by omega), s.low.trans (E.below _ (by omega) (by omega) s.low.size)⟩
theorem St.hitB {w wr w' : World} {l m h f l' m' h' f' : Nat} {x y z : Bool} (s : St w wr l m h f l' m' h' f' x y) (D : Dis w.heap.size l m h f l' m' h' f') (E : Eff wr w' m' h' z) : St w w' l m h f l' m' h' f' x z := by
  have d := D.d
  exact ⟨s.A.other E (by omega) (by omega) (by omega) (by omega), s.B.self E (by omega) (by omega) (by omega), s.low.trans (E.below _ (by omega) (by omega) s.low.size)⟩
theorem yes_hit {x : Bool} {k : Int} (h : (k == 0) = true) : yes x k = true := by simp [yes] at *; exact .inl h
theorem yes_not {x : Bool} {k : Int} (h : (k == 0) = false) : yes x k = x := by simp [yes, show k ≠ 0 by simpa using h]
theorem beq_self_b (x : Bool) : (x == x) = true := by cases x <;> rfl
set_option maxRecDepth 100000 in
set_option maxHeartbeats 4000000 in
theorem main (a0 a1 : Option Addr) (l0 c0 l1 c1 : Nat) (T : Nat → Bool) (K : Nat → Int) (w : World) (hT : Fsl w a0 l0 (fun i => .bool (T i))) (hK : Fsl w a1 l1 (fun i => .int .u8 (K i))) :
    Calls Try.prog 4 #[.slice a0 l0 c0, .slice a1 l1 c1] w fun e w' => e = .returned (.bool true) ∧ Below w.heap.size w w' := by
  go_enter Try.func4, Try.ntmps4
  go_wp2_with fail
  refine (zb a0 a1 l0 c0 l1 c1 _).mono ?_
  rintro e w1 ⟨rfl, v, rfl⟩
  cases v
  · go_wp2_with fail
    go_ret
    exact ⟨rfl, Below.refl _ _⟩
  by_cases g0 : (65536 : Int) < (l0 : Int)
  · go_wp2_with fail
    go_ret
    exact ⟨rfl, Below.refl _ _⟩
  by_cases g1 : (65536 : Int) < (l1 : Int)
  · go_wp2_with fail
    go_ret
    exact ⟨rfl, Below.refl _ _⟩
  obtain ⟨n, hn0, hn1, hn⟩ : ∃ n : Nat, n ≤ l0 ∧ n ≤ l1 ∧ (if (l1 : Int) < (l0 : Int) then l1 else l0) = n := ⟨_, by split <;> omega, by split <;> omega, rfl⟩
  go_upto_if 29 with fail
  go_cut [5] (fun v wx => v = .int .i64 n ∧ wx = w1)
  case first =>
    by_cases hl : (l1 : Int) < (l0 : Int)
    · have HN := Lib.hid (show n = l1 by rw [← hn, if_pos hl])
      go_wp2_with fail
      go_meet
      exact ⟨by rw [HN.out], rfl⟩
    · have HN := Lib.hid (show n = l0 by rw [← hn, if_neg hl])
      go_wp2_with fail
      go_meet
      exact ⟨by rw [HN.out], rfl⟩
  case rest =>
    obtain ⟨rfl, rfl⟩ := hcut
    clear hn
    go_wp2_with fail
    refine (kind12 _).mono ?_
    rintro e w ⟨rfl, rfl⟩
    go_wp2_with fail
    refine (pair _).mono ?_
    rintro e w2 ⟨l, m, h, f, l', m', h', f', rfl, W1, W2, hb, hd⟩
    have D := Lib.hid (Dis.mk hd)
    have s0 := Lib.hid (St.mk W1 W2 hb)
    have hne : m ≠ h := by omega
    have hne' : m' ≠ h' := by omega
    have hnf : m ≠ f := by omega
    have hnf' : m' ≠ f' := by omega
    have hhf : h ≠ f := by omega
    have hhf' : h' ≠ f' := by omega
    clear W1 W2 hb hd
    go_wp2_with fail
    refine (has14 l m h f false _ s0.out.A hne).mono ?_
    rintro e w3 ⟨rfl, E3⟩
    have s1 := Lib.hid (s0.out.hitA D.out E3)
    clear E3
    go_wp2_with fail
    refine (has14 l' m' h' f' false _ s1.out.B hne').mono ?_
    rintro e w4 ⟨rfl, E4⟩
    have s2 := Lib.hid (s1.out.hitB D.out E4)
    clear E4 s0 s1
    go_wp2_with fail
    go_loopw [9, 10, 11] (fun u v i wr => ∃ (k : Nat) (x y : Bool), k ≤ n ∧ u = .bool x ∧ v = .bool y ∧ i = .int .i64 k ∧ St w wr l m h f l' m' h' f' x y) (fun _ _ i _ => n - (intOf i).toNat)
    case atStart => exact ⟨0, false, false, by omega, rfl, rfl, rfl, s2.out⟩
    case round =>
      obtain ⟨k, x, y, hk, rfl, rfl, rfl, s⟩ := hrel
      have S := Lib.hid s
      clear s s2
      by_cases hlt : k < n
      · obtain ⟨b0, o0, rfl, _, t0⟩ := (hT.below S.out.low).at k (by omega)
        obtain ⟨b1, o1, rfl, _, k0⟩ := (hK.below S.out.low).at k (by omega)
        have hk2 : (k : Int) < (n : Int) := by omega
        have hk3 : (k : Int) < (l0 : Int) := by omega
        have hk4 : (k : Int) < (l1 : Int) := by omega
        cases ht : T k <;> cases hz : (K k == 0)
        · rw [ht] at t0
          have HZ := Lib.hid hz
          clear ht
          go_wp2_with fail
          refine (add15 l' m' h' f' y (K k) _ S.out.B hne' hnf' hhf').mono ?_
          rintro e w5 ⟨rfl, E5⟩
          rw [yes_not HZ.out] at E5
          have s5 := Lib.hid (S.out.hitB D.out E5)
          clear E5 k0 t0
          have k5 := (hK.below s5.out.low).cell k (by omega)
          go_wp2_with fail
          refine (has14 l m h f x _ s5.out.A hne).mono ?_
          rintro e w6 ⟨rfl, E6⟩
          have s6 := Lib.hid (s5.out.hitA D.out E6)
          clear E6 k5
          go_wp2_with fail
          refine (has14 l' m' h' f' y _ s6.out.B hne').mono ?_
          rintro e w7 ⟨rfl, E7⟩
          have s7 := Lib.hid (s6.out.hitB D.out E7)
          clear E7
          go_wp2_with fail
          go_roundw
          case rel => exact ⟨k + 1, x, y, by omega, rfl, rfl, by go_num, s7.out⟩
          case measure => simp [intOf]; omega
        · rw [ht] at t0
          have HZ := Lib.hid hz
          clear ht
          go_wp2_with fail
          refine (add15 l' m' h' f' y (K k) _ S.out.B hne' hnf' hhf').mono ?_
          rintro e w5 ⟨rfl, E5⟩
          rw [yes_hit HZ.out] at E5
          have s5 := Lib.hid (S.out.hitB D.out E5)
          clear E5 k0 t0
          have k5 := (hK.below s5.out.low).cell k (by omega)
          go_wp2_with fail
          refine (has14 l m h f x _ s5.out.A hne).mono ?_
          rintro e w6 ⟨rfl, E6⟩
          have s6 := Lib.hid (s5.out.hitA D.out E6)
          clear E6 k5
          go_wp2_with fail
          refine (has14 l' m' h' f' true _ s6.out.B hne').mono ?_
          rintro e w7 ⟨rfl, E7⟩
          have s7 := Lib.hid (s6.out.hitB D.out E7)
          clear E7
          go_wp2_with fail
          go_roundw
          case rel => exact ⟨k + 1, x, true, by omega, rfl, rfl, by go_num, s7.out⟩
          case measure => simp [intOf]; omega
        · rw [ht] at t0
          have HZ := Lib.hid hz
          clear ht
          go_wp2_with fail
          refine (add15 l m h f x (K k) _ S.out.A hne hnf hhf).mono ?_
          rintro e w5 ⟨rfl, E5⟩
          rw [yes_not HZ.out] at E5
          have s5 := Lib.hid (S.out.hitA D.out E5)
          clear E5 k0 t0
          have k5 := (hK.below s5.out.low).cell k (by omega)
          go_wp2_with fail
          refine (has14 l m h f x _ s5.out.A hne).mono ?_
          rintro e w6 ⟨rfl, E6⟩
          have s6 := Lib.hid (s5.out.hitA D.out E6)
          clear E6 k5
          go_wp2_with fail
          refine (has14 l' m' h' f' y _ s6.out.B hne').mono ?_
          rintro e w7 ⟨rfl, E7⟩
          have s7 := Lib.hid (s6.out.hitB D.out E7)
          clear E7
          go_wp2_with fail
          go_roundw
          case rel => exact ⟨k + 1, x, y, by omega, rfl, rfl, by go_num, s7.out⟩
          case measure => simp [intOf]; omega
        · rw [ht] at t0
          have HZ := Lib.hid hz
          clear ht
          go_wp2_with fail
          refine (add15 l m h f x (K k) _ S.out.A hne hnf hhf).mono ?_
          rintro e w5 ⟨rfl, E5⟩
          rw [yes_hit HZ.out] at E5
          have s5 := Lib.hid (S.out.hitA D.out E5)
          clear E5 k0 t0
          have k5 := (hK.below s5.out.low).cell k (by omega)
          go_wp2_with fail
          refine (has14 l m h f true _ s5.out.A hne).mono ?_
          rintro e w6 ⟨rfl, E6⟩
          have s6 := Lib.hid (s5.out.hitA D.out E6)
          clear E6 k5
          go_wp2_with fail
          refine (has14 l' m' h' f' y _ s6.out.B hne').mono ?_
          rintro e w7 ⟨rfl, E7⟩
          have s7 := Lib.hid (s6.out.hitB D.out E7)
          clear E7
          go_wp2_with fail
          go_roundw
          case rel => exact ⟨k + 1, true, y, by omega, rfl, rfl, by go_num, s7.out⟩
          case measure => simp [intOf]; omega
      · obtain rfl : k = n := by omega
        go_wp2_with fail
        go_ret
        exact ⟨rfl, S.out.low⟩

set_option maxHeartbeats 2000000 in
theorem walk (a0 : Option Addr) (len0 cap0 : Nat) (z0 : Nat → Bool) (a1 : Option Addr) (len1 cap1 : Nat) (z1 : List Int) (w : World) (w0 : Aid.IsBools w a0 len0 cap0 z0) (w1 : Aid.IsRow .u8 w a1 len1 cap1 z1) :
    Calls Try.prog 4 #[.slice a0 len0 cap0, .slice a1 len1 cap1] w fun e w' => e = .returned (.bool true) ∧ Below w.heap.size w w' := by
  obtain ⟨hT, _, _⟩ := Fl.of_bools w0
  obtain ⟨K, hK, _, _, _⟩ := Fl.of_ints w1
  exact main a0 a1 len0 cap0 len1 cap1 _ K w hT hK

set_option maxRecDepth 100000 in
theorem lifted (os : Os) (started : os.Started) (H : Type) (enc : TypeId × Value → H) :
    ReturnsInHanded {} Try.checked os 4 .any (Rows.fnWrappedLogsOverOneInnerAreIndependentSpec.pre6 enc Try.prog Try.f4 Rows.fnWrappedLogsOverOneInnerAreIndependentRow.domain false) (Rows.fnWrappedLogsOverOneInnerAreIndependentSpec.post enc Try.prog Try.f4 false true false false) := by
  refine returnsInHanded_of_change (C := Try.checked) own started (by kernel_rfl) Try.func4
    (ChangeSpec.witness6 (enc := enc) (C := Try.checked) false ⟨#[], #[.slice none 0 0, .slice none 0 0], []⟩ 8 (by kernel_rfl) (by kernel_rfl) (by kernel_rfl) (by kernel_rfl)) ?_
  intro W base args ds gs before hval0 hW hcnd _
  have hval : ∀ (j : Nat) t v, Try.f4.params[j]? = some t → args[j]? = some v → Value.okWide Try.prog W .any base t v := hval0
  have hW' := hW
  obtain ⟨p, q, hA0, hV, rfl, hfz, hnd⟩ := hW
  have hA : DataW.TrodAll enc Try.prog W 0 (fun _ => true) true Try.f4.params.toList args.toList ds p := hA0
  rw [Try.params4] at hA hval
  obtain ⟨v0, vs0, d0, ds0, p0, q0, hargs, rfl, rfl, h0, r0⟩ := trodAll_cons hA
  obtain ⟨v1, vs1, d1, ds1, p1, q1, rfl, rfl, rfl, h1, r1⟩ := trodAll_cons r0
  obtain ⟨rfl, rfl, rfl⟩ := trodAll_nil r1
  obtain rfl : args = #[v0, v1] := by cases args; simp_all
  obtain ⟨rfl, rfl⟩ := trodVars_none hV
  obtain ⟨a0, len0, cap0, rfl⟩ := okWide_slice Try.underlying27 (hval 0 27 v0 rfl rfl)
  have k0 := h0
  have lt0 : ∀ x ∈ p0, x.block < W.heap.size := by obtain ⟨m, hm⟩ := k0; exact DataW.trod_lt m _ _ _ hm
  obtain ⟨z0, w0⟩ := Aid.open_bls Try.underlying27 Try.underlying4 (by kernel_rfl) h0
  obtain ⟨a1, len1, cap1, rfl⟩ := okWide_slice Try.underlying28 (hval 1 28 v1 rfl rfl)
  have k1 := h1
  have lt1 : ∀ x ∈ p1, x.block < W.heap.size := by obtain ⟨m, hm⟩ := k1; exact DataW.trod_lt m _ _ _ hm
  obtain ⟨z1, w1⟩ := Aid.open_row Try.underlying28 Try.underlying5 (by kernel_rfl) h1
  clear hA0 hval0
  refine (walk a0 len0 cap0 z0 a1 len1 cap1 z1 W w0 w1).mono fun e W' ⟨he, bel⟩ => ?_
  subst he
  exact ⟨_, rfl, _, _, _, [], _, [], hW', trodAll_mk1 (shut_bool Try.underlying4 _), (trodAll_cons_mk (Below.trod laidOut (by kernel_rfl) (of_decide_eq_true (by kernel_rfl)) k0 bel lt0) (trodAll_cons_mk (Below.trod laidOut (by kernel_rfl) (of_decide_eq_true (by kernel_rfl)) k1 bel lt1) trodAll_mk0)), rfl, bel.frame _, fun h => by cases h⟩

theorem joined : joinedFacts Try.prog 4 Try.f4 Rows.fnWrappedLogsOverOneInnerAreIndependentSpec Rows.fnWrappedLogsOverOneInnerAreIndependentRow = true := by
  unfold joinedFacts
  rw [Facts.enter, Facts.lifts, Facts.make]
  kernel_rfl

theorem over : Rows.fnWrappedLogsOverOneInnerAreIndependentRow.holds Try.pinned (OpenSpec.ofChange Rows.fnWrappedLogsOverOneInnerAreIndependentSpec) :=
  OpenClaim.holds_of_wide 4 Try.f4 rfl rfl rfl rfl rfl rfl rfl ⟨rfl, rfl, rfl, rfl, rfl⟩ rfl rfl rfl rfl rfl (by kernel_rfl) Try.func4 joined
    (of_decide_eq_true (by kernel_rfl)) (by unfold Func.isWrapper; first | (rw [if_pos (by decide +kernel)]; kernel_rfl) | (rw [if_neg (by decide +kernel)]; exact ⟨rfl, rfl⟩))
    (fun os started H enc _ => lifted os started H enc)

theorem proved : Rows.FnWrappedLogsOverOneInnerAreIndependentSaid :=
  over
#print axioms proved
end Go.Proofs.Ytphgbbddecfdnaa.fnWrappedLogsOverOneInnerAreIndependent
