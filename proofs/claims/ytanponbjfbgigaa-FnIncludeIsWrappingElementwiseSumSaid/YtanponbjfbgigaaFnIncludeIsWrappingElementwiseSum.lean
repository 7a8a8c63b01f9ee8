/- After freq.Include(&other) every cell of freq is the wrapped sum of the two old cells and other is unchanged; including a histogram into itself doubles every cell. No condition. -/
import Derived.Test.YtanponbjfbgigaaRows
import Derived.WalkKit
import Derived.ProofKit
import Derived.OpenShut
import Derived.ShutString
import Derived.Test.YtanponbjfbgigaaFacts
import Derived.Test.YtanponbjfbgigaaAid
import Derived.Test.YtanponbjfbgigaaArr
import Derived.LoopTactic
import Derived.RegionTactic
import Derived.ChangeAlike
import Derived.Deep.QuietTactic
import Derived.BigQuiet
namespace Go.Proofs.Ytanponbjfbgigaa.fnIncludeIsWrappingElementwiseSum
open Go.ChangeShapes Go.WideShapes Go.ChangeAt Go.RowKit
open Go.ChangeMaps (open_string shut_string)
set_option linter.unusedVariables false

theorem own : ownKnob Try.prog.godebug = none := by kernel_rfl
theorem laidOut : laidOutB Try.prog = true := by kernel_rfl

open Arr
def mix (F G : List Int) (k : Nat) : List Int := (List.range F.length).map fun i => if i < k then wrap32 (nth F i + nth G i) else nth F i
theorem mix_len (F G : List Int) (k : Nat) : (mix F G k).length = F.length := by simp [mix]
theorem mix_get (F G : List Int) (k i : Nat) (h : i < F.length) : nth (mix F G k) i = if i < k then wrap32 (nth F i + nth G i) else nth F i := by
  rw [nth_eq _ _ (by rw [mix_len]; exact h)]
  simp [mix]
theorem mix_zero (F G : List Int) : mix F G 0 = F := by
  apply ext_nth (mix_len _ _ _)
  intro i hi
  rw [mix_get _ _ _ _ (by simpa [mix_len] using hi), if_neg (by omega)]
theorem mix_succ (F G : List Int) (k : Nat) (h : k < F.length) : (mix F G k).set k (wrap32 (nth F k + nth G k)) = mix F G (k + 1) := by
  apply ext_nth
  · simp [mix_len]
  · intro i hi
    have hi' : i < F.length := by simpa [mix_len] using hi
    rw [nth_set _ _ _ _ (by rw [mix_len]; exact hi'), mix_get _ _ _ _ hi', mix_get _ _ _ _ hi']
    by_cases e : k = i
    · subst e; rw [if_pos rfl, if_pos (by omega)]
    · rw [if_neg e]
      by_cases h3 : i < k
      · rw [if_pos h3, if_pos (by omega)]
      · rw [if_neg h3, if_neg (by omega)]

def IncPost (w : World) (b : Nat) (F G : List Int) (w' : World) : Prop :=
  Row .i32 w' b 29 (mix F G 64) ∧ (∀ c, c ≠ b → w'.heap[c]? = w.heap[c]?) ∧ w'.heap.size = w.heap.size ∧ Below b w w'

def Inc (w : World) (b : Nat) (F G : List Int) (k : Nat) (w' : World) : Prop :=
  Row .i32 w' b 29 (mix F G k) ∧ (∀ c, c ≠ b → w'.heap[c]? = w.heap[c]?) ∧ w'.heap.size = w.heap.size ∧ Below b w w'
theorem Inc.step {w : World} {b : Nat} {F G : List Int} {k : Nat} {w' : World} (h : Inc w b F G k w') (hk : k < F.length) : Inc w b F G (k + 1) (w'.setCell ⟨b, k, none⟩ (.int .i32 (wrap32 (nth F k + nth G k)))).drew := by
  obtain ⟨h1, h2, h3, h4⟩ := h
  refine ⟨?_, fun c hc => (Below.heap_setCell _ _ _ _ (by simpa using hc)).trans (h2 c hc), ?_, (h4.setCell (Nat.le_refl _) _).drew⟩
  · rw [← mix_succ F G k hk]; exact (h1.set k _).drew
  · rw [← h3]; simp [World.setCell, World.drew]

theorem include_two (b c : Nat) (F G : List Int) (w : World) (hne : b ≠ c) (hF : F.length = 64) (hG : G.length = 64) (rF : Row .i32 w b 29 F) (rG : Row .i32 w c 29 G) :
    Calls Try.prog 8 #[.pointer (some ⟨b, 0, none⟩), .pointer (some ⟨c, 0, none⟩)] w fun e w' => e = .returned (.tuple #[]) ∧ Inc w b F G 64 w' := by
  have hne' : ¬ c = b := fun h => hne h.symm
  have HF := Lib.hid hF
  have HG := Lib.hid hG
  clear hF hG
  go_enter Try.func8, Try.ntmps8
  go_wp2
  go_loopw [4] (fun i wr => ∃ k : Nat, k ≤ 64 ∧ i = .int .i64 k ∧ Inc w b F G k wr) (fun i _ => 64 - (intOf i).toNat)
  case atStart => exact ⟨0, by omega, rfl, by rw [mix_zero]; exact rF, fun _ _ => rfl, rfl, Below.refl _ _⟩
  case round =>
    obtain ⟨k, hk, rfl, hI⟩ := hrel
    by_cases hlt : k < 64
    · have c1 := hI.1.cell k (by rw [mix_len, HF.out]; omega)
      have c2 := Row.cell (k := .i32) (t := 29) ((hI.2.1 c hne').trans rG) k (by rw [HG.out]; omega)
      have z1 := hI.1.frozen k
      rw [mix_get _ _ _ _ (by rw [HF.out]; omega), if_neg (by omega)] at c1
      go_wp2
      go_region
      all_goals
        go_wp2
        go_roundw
        case rel => exact ⟨k + 1, by omega, by go_num, hI.step (by rw [HF.out]; omega)⟩
        case measure => simp [intOf]; omega
    · obtain rfl : k = 64 := by omega
      go_wp2
      go_end0
      exact ⟨rfl, hI⟩

theorem include_self (b : Nat) (F : List Int) (w : World) (hF : F.length = 64) (rF : Row .i32 w b 29 F) :
    Calls Try.prog 8 #[.pointer (some ⟨b, 0, none⟩), .pointer (some ⟨b, 0, none⟩)] w fun e w' => e = .returned (.tuple #[]) ∧ Inc w b F F 64 w' := by
  have HF := Lib.hid hF
  clear hF
  go_enter Try.func8, Try.ntmps8
  go_wp2
  go_loopw [4] (fun i wr => ∃ k : Nat, k ≤ 64 ∧ i = .int .i64 k ∧ Inc w b F F k wr) (fun i _ => 64 - (intOf i).toNat)
  case atStart => exact ⟨0, by omega, rfl, by rw [mix_zero]; exact rF, fun _ _ => rfl, rfl, Below.refl _ _⟩
  case round =>
    obtain ⟨k, hk, rfl, hI⟩ := hrel
    by_cases hlt : k < 64
    · have c1 := hI.1.cell k (by rw [mix_len, HF.out]; omega)
      have z1 := hI.1.frozen k
      rw [mix_get _ _ _ _ (by rw [HF.out]; omega), if_neg (by omega)] at c1
      go_wp2
      go_region
      all_goals
        go_wp2
        go_roundw
        case rel => exact ⟨k + 1, by omega, by go_num, hI.step (by rw [HF.out]; omega)⟩
        case measure => simp [intOf]; omega
    · obtain rfl : k = 64 := by omega
      go_wp2
      go_end0
      exact ⟨rfl, hI⟩
theorem zero29 : ∀ w : World, (zeroValue 29).run Try.prog w = .ok (.agg (Array.replicate 64 (.int .i32 0))) w := fun _ => by kernel_rfl
structure St (w : World) (A B C D : Nat) (f g h : List Int) (wr : World) : Prop where
  a : Row .i32 wr A 28 f
  b : Row .i32 wr B 28 g
  c : Row .i32 wr C 29 h
  d : Row .i32 wr D 29 g
  bel : Below w.heap.size w wr
theorem St.drew {w : World} {A B C D : Nat} {f g h : List Int} {wr : World} (s : St w A B C D f g h wr) : St w A B C D f g h wr.drew := ⟨s.a.drew, s.b.drew, s.c.drew, s.d.drew, s.bel.drew⟩
theorem St.drewN {w : World} {A B C D : Nat} {f g h : List Int} {wr : World} (s : St w A B C D f g h wr) (n : Nat) : St w A B C D f g h (wr.drewN n) := by
  obtain ⟨a, b, c, d, e⟩ := s
  exact ⟨a, b, c, d, ⟨e.os, e.tape, e.output, e.size, e.block⟩⟩
structure St2 (w : World) (A C : Nat) (f h : List Int) (wr : World) : Prop where
  a : Row .i32 wr A 28 f
  c : Row .i32 wr C 29 h
  bel : Below w.heap.size w wr
theorem double (x : Int) : wrap32 (x + x) = wrap32 (x * 2) := by congr 1; omega

theorem walk (z0 : List Int) (z1 : List Int) (w : World) (l0 : z0.length = 64) (w0 : ∀ z ∈ z0, (Lit.int .i32 z).wf = true) (l1 : z1.length = 64) (w1 : ∀ z ∈ z1, (Lit.int .i32 z).wf = true) :
    Calls Try.prog 4 #[.agg (z0.map (Value.int .i32)).toArray, .agg (z1.map (Value.int .i32)).toArray] w fun e w' => e = .returned (.bool true) ∧ Below w.heap.size w w' := by
  have w1_1 := w1
  clear w1
  obtain ⟨c0, hc0⟩ : ∃ c0, c0 = (z0.map (Value.int .i32)).toArray := ⟨_, rfl⟩
  obtain ⟨c1, hc1⟩ : ∃ c1, c1 = (z1.map (Value.int .i32)).toArray := ⟨_, rfl⟩
  rw [← hc0, ← hc1]
  have s0 : c0.size = 64 := by rw [hc0]; simpa using l0
  have s1 : c1.size = 64 := by rw [hc1]; simpa using l1
  have o0 : c0.all (·.oneCell') = true := by rw [hc0]; exact one_ints _ _
  have o1 : c1.all (·.oneCell') = true := by rw [hc1]; exact one_ints _ _
  have i28 : (Try.prog.info? 28).map (·.size) = some 64 := by kernel_rfl
  have i29 : (Try.prog.info? 29).map (·.size) = some 64 := by kernel_rfl
  have S0 := Lib.hid s0
  have S1 := Lib.hid s1
  have I28 := Lib.hid i28
  have I29 := Lib.hid i29
  have O0 := Lib.hid o0
  have O1 := Lib.hid o1
  have HC0 := Lib.hid hc0
  have HC1 := Lib.hid hc1
  clear s0 s1 i28 i29 o0 o1 hc0 hc1
  go_enter Try.func4, Try.ntmps4
  go_wp2_with (first
    | (with_reducible refine wpList_copyvar rfl rfl rfl 28 29 (.tmp 2) (.tmp 5) (.tmp 12) rfl rfl rfl w.heap.size rfl 28 c0 (0, 0) _ (heap_alloc2_old _ _ _) Try.underlying28 rfl (I28.out.trans (by rw [S0.out])) (I29.out.trans (by rw [S0.out])) _ zero29 (by rw [S0.out]; exact Array.size_replicate) O0.out rfl rfl ?_)
    | (with_reducible refine wpList_copyvar rfl rfl rfl 28 29 (.tmp 3) (.tmp 6) (.tmp 13) rfl rfl rfl (w.heap.size + 1) rfl 28 c1 (0, 0) _ ((Below.heap_alloc _ _ _ (by simp)).trans (heap_alloc2_new _ _ _)) Try.underlying28 rfl (I28.out.trans (by rw [S1.out])) (I29.out.trans (by rw [S1.out])) _ zero29 (by rw [S1.out]; exact Array.size_replicate) O1.out rfl rfl ?_))
  have R0 : Row .i32 (w.alloc (.cells c0 28)) w.heap.size 28 z0 := by rw [HC0.out]; exact Row.new _ _ _ _
  have R1 : Row .i32 ((w.alloc (.cells c0 28)).alloc (.cells c1 28)) (w.heap.size + 1) 28 z1 := by rw [HC1.out]; have := Row.new .i32 (w.alloc (.cells c0 28)) 28 z1; simpa using this
  have R2 : Row .i32 (((w.alloc (.cells c0 28)).alloc (.cells c1 28)).alloc (.cells c0 29)) (w.heap.size + 1 + 1) 29 z0 := by rw [HC0.out]; have := Row.new .i32 ((w.alloc (.cells (z0.map (Value.int .i32)).toArray 28)).alloc (.cells c1 28)) 29 z0; simpa using this
  have R3 : Row .i32 ((((w.alloc (.cells c0 28)).alloc (.cells c1 28)).alloc (.cells c0 29)).alloc (.cells c1 29)) (w.heap.size + 1 + 1 + 1) 29 z1 := by rw [HC1.out]; have := Row.new .i32 (((w.alloc (.cells c0 28)).alloc (.cells (z1.map (Value.int .i32)).toArray 28)).alloc (.cells c0 29)) 29 z1; simpa using this
  refine (include_two _ _ z0 z1 _ (by omega) l0 l1 (R2.alloc _) R3).mono ?_
  rintro e w1 ⟨rfl, hI⟩
  have s : St w w.heap.size (w.heap.size + 1) (w.heap.size + 1 + 1) (w.heap.size + 1 + 1 + 1) z0 z1 (mix z0 z1 64) w1 := by
    refine ⟨?_, ?_, hI.1, ?_, ?_⟩
    · exact (hI.2.1 _ (by omega)).trans (((R0.alloc _).alloc _).alloc _)
    · exact (hI.2.1 _ (by omega)).trans ((R1.alloc _).alloc _)
    · exact (hI.2.1 _ (by omega)).trans R3
    · refine Below.trans ?_ (hI.2.2.2.mono (by omega))
      repeat (first | exact Below.refl _ _ | (refine Below.alloc ?_ (by simp; try omega) _))
  clear hI R0 R1 R2 R3
  have L0 := Lib.hid l0
  have L1 := Lib.hid l1
  have W0 := Lib.hid w0
  have W1 := Lib.hid w1_1
  clear l0 l1 w0 w1_1
  go_wp2_with fail
  go_loopw [7] (fun i wr => ∃ k : Nat, k ≤ 64 ∧ i = .int .i64 k ∧ St w w.heap.size (w.heap.size + 1) (w.heap.size + 1 + 1) (w.heap.size + 1 + 1 + 1) z0 z1 (mix z0 z1 64) wr) (fun i _ => 64 - (intOf i).toNat)
  case atStart => exact ⟨0, by omega, rfl, s⟩
  case round =>
    clear s
    obtain ⟨k, hk, rfl, s⟩ := hrel
    by_cases hlt : k < 64
    · have ca := s.a.cell k (by rw [L0.out]; omega)
      have cb := s.b.cell k (by rw [L1.out]; omega)
      have cc := s.c.cell k (by rw [mix_len, L0.out]; omega)
      have cd := s.d.cell k (by rw [L1.out]; omega)
      rw [mix_get _ _ _ _ (by rw [L0.out]; omega), if_pos (by omega)] at cc
      have ba := Aid.i32_of (W0.out _ (nth_mem z0 k (by rw [L0.out]; omega)))
      have bb := Aid.i32_of (W1.out _ (nth_mem z1 k (by rw [L1.out]; omega)))
      go_wp2_with fail
      go_quiet (fail)
      go_wp2_with fail
      go_quiet (fail)
      go_wp2_with fail
      go_roundw
      case rel => exact ⟨k + 1, by omega, by go_num, s.drewN _⟩
      case measure => simp [intOf]; omega
    · obtain rfl : k = 64 := by omega
      have HA := Lib.hid (show wr.heap[w.heap.size]? = some (.cells c0 28 (0, 0)) by rw [HC0.out]; exact s.a)
      have hsz : w.heap.size < wr.heap.size := s.a.lt
      go_wp2_with (with_reducible refine wpList_copyvar rfl rfl rfl 28 29 (.tmp 2) (.tmp 9) (.tmp 41) rfl rfl rfl w.heap.size rfl 28 c0 (0, 0) _ HA.out Try.underlying28 rfl (I28.out.trans (by rw [S0.out])) (I29.out.trans (by rw [S0.out])) _ zero29 (by rw [S0.out]; exact Array.size_replicate) O0.out rfl rfl ?_)
      have R4 : Row .i32 (wr.alloc (.cells c0 29)) wr.heap.size 29 z0 := by rw [HC0.out]; exact Row.new _ _ _ _
      refine (include_self _ z0 _ L0.out R4).mono ?_
      rintro e w2 ⟨rfl, hI⟩
      have s2 : St2 w w.heap.size wr.heap.size z0 (mix z0 z0 64) w2 :=
        ⟨(hI.2.1 _ (by omega)).trans (s.a.alloc _), hI.1, (s.bel.alloc (by omega) _).trans (hI.2.2.2.mono (by omega))⟩
      have HS2 := Lib.hid s2
      clear hI R4 s s2
      obtain ⟨B, hB⟩ : ∃ B, B = wr.heap.size := ⟨_, rfl⟩
      rw [← hB] at HS2 ⊢
      clear hB hsz HA
      have s2 := HS2.out
      go_wp2_with fail
      go_loop [10] (fun i => ∃ k : Nat, k ≤ 64 ∧ i = .int .i64 k) (fun i => 64 - (intOf i).toNat)
      case atStart => exact ⟨0, by omega, rfl⟩
      case round =>
        obtain ⟨k, hk, rfl⟩ := hrel
        by_cases hlt : k < 64
        · have ca := s2.a.cell k (by rw [L0.out]; omega)
          have cc := s2.c.cell k (by rw [mix_len, L0.out]; omega)
          rw [mix_get _ _ _ _ (by rw [L0.out]; omega), if_pos (by omega), double] at cc
          have ba := Aid.i32_of (W0.out _ (nth_mem z0 k (by rw [L0.out]; omega)))
          go_wp2_with fail
          go_round
          case rel => exact ⟨k + 1, by omega, by go_num⟩
          case measure => simp [intOf]; omega
        · go_wp2_with fail
          go_ret
          exact ⟨rfl, s2.bel⟩

set_option maxRecDepth 100000 in
theorem lifted (os : Os) (started : os.Started) (H : Type) (enc : TypeId × Value → H) :
    ReturnsInHanded {} Try.checked os 4 .any (Rows.fnIncludeIsWrappingElementwiseSumSpec.pre6 enc Try.prog Try.f4 Rows.fnIncludeIsWrappingElementwiseSumRow.domain false) (Rows.fnIncludeIsWrappingElementwiseSumSpec.post enc Try.prog Try.f4 false true false false) := by
  refine returnsInHanded_of_change (C := Try.checked) own started (by kernel_rfl) Try.func4
    (ChangeSpec.witness6 (enc := enc) (C := Try.checked) false ⟨#[], #[.agg #[.int .i32 0, .int .i32 0, .int .i32 0, .int .i32 0, .int .i32 0, .int .i32 0, .int .i32 0, .int .i32 0, .int .i32 0, .int .i32 0, .int .i32 0, .int .i32 0, .int .i32 0, .int .i32 0, .int .i32 0, .int .i32 0, .int .i32 0, .int .i32 0, .int .i32 0, .int .i32 0, .int .i32 0, .int .i32 0, .int .i32 0, .int .i32 0, .int .i32 0, .int .i32 0, .int .i32 0, .int .i32 0, .int .i32 0, .int .i32 0, .int .i32 0, .int .i32 0, .int .i32 0, .int .i32 0, .int .i32 0, .int .i32 0, .int .i32 0, .int .i32 0, .int .i32 0, .int .i32 0, .int .i32 0, .int .i32 0, .int .i32 0, .int .i32 0, .int .i32 0, .int .i32 0, .int .i32 0, .int .i32 0, .int .i32 0, .int .i32 0, .int .i32 0, .int .i32 0, .int .i32 0, .int .i32 0, .int .i32 0, .int .i32 0, .int .i32 0, .int .i32 0, .int .i32 0, .int .i32 0, .int .i32 0, .int .i32 0, .int .i32 0, .int .i32 0], .agg #[.int .i32 0, .int .i32 0, .int .i32 0, .int .i32 0, .int .i32 0, .int .i32 0, .int .i32 0, .int .i32 0, .int .i32 0, .int .i32 0, .int .i32 0, .int .i32 0, .int .i32 0, .int .i32 0, .int .i32 0, .int .i32 0, .int .i32 0, .int .i32 0, .int .i32 0, .int .i32 0, .int .i32 0, .int .i32 0, .int .i32 0, .int .i32 0, .int .i32 0, .int .i32 0, .int .i32 0, .int .i32 0, .int .i32 0, .int .i32 0, .int .i32 0, .int .i32 0, .int .i32 0, .int .i32 0, .int .i32 0, .int .i32 0, .int .i32 0, .int .i32 0, .int .i32 0, .int .i32 0, .int .i32 0, .int .i32 0, .int .i32 0, .int .i32 0, .int .i32 0, .int .i32 0, .int .i32 0, .int .i32 0, .int .i32 0, .int .i32 0, .int .i32 0, .int .i32 0, .int .i32 0, .int .i32 0, .int .i32 0, .int .i32 0, .int .i32 0, .int .i32 0, .int .i32 0, .int .i32 0, .int .i32 0, .int .i32 0, .int .i32 0, .int .i32 0]], []⟩ 8 (by kernel_rfl) (by kernel_rfl) (by kernel_rfl) (by kernel_rfl)) ?_
  intro W base args ds gs before hval0 hW hcnd _
  have hval : ∀ (j : Nat) t v, Try.f4.params[j]? = some t → args[j]? = some v → Value.okWide Try.prog W .any base t v := hval0
  have hW' := hW
  obtain ⟨p, q, hA0, hV, rfl, hfz, hnd⟩ := hW
  have hA : DataW.TrodAll enc Try.prog W 0 (fun _ => true) true Try.f4.params.toList args.toList ds p := hA0
  rw [Try.params4] at hA hval
  obtain ⟨v0, vs0, d0, ds0, p0, q0, hargs, rfl, rfl, h0, r0⟩ := trodAll_cons hA
  obtain ⟨v1, vs1, d1, ds1, p1, q1, rfl, rfl, rfl, h1, r1⟩ := trodAll_cons r0
  obtain ⟨rfl, rfl, rfl⟩ := trodAll_nil r1
  obtain rfl : args = #[v0, v1] := by cases args; simp_all
  obtain ⟨rfl, rfl⟩ := trodVars_none hV
  have k0 := h0
  have lt0 : ∀ x ∈ p0, x.block < W.heap.size := by obtain ⟨m, hm⟩ := k0; exact DataW.trod_lt m _ _ _ hm
  obtain ⟨z0, rfl, l0, w0⟩ := Aid.open_ints_array Try.underlying28 Try.underlying21 (by kernel_rfl) (by kernel_rfl) (hval 0 28 v0 rfl rfl) h0
  have k1 := h1
  have lt1 : ∀ x ∈ p1, x.block < W.heap.size := by obtain ⟨m, hm⟩ := k1; exact DataW.trod_lt m _ _ _ hm
  obtain ⟨z1, rfl, l1, w1⟩ := Aid.open_ints_array Try.underlying28 Try.underlying21 (by kernel_rfl) (by kernel_rfl) (hval 1 28 v1 rfl rfl) h1
  clear hA0 hval0
  refine (walk z0 z1 W l0 w0 l1 w1).mono fun e W' ⟨he, bel⟩ => ?_
  subst he
  exact ⟨_, rfl, _, _, _, [], _, [], hW', trodAll_mk1 (shut_bool Try.underlying4 _), (trodAll_cons_mk (Below.trod laidOut (by kernel_rfl) (of_decide_eq_true (by kernel_rfl)) k0 bel lt0) (trodAll_cons_mk (Below.trod laidOut (by kernel_rfl) (of_decide_eq_true (by kernel_rfl)) k1 bel lt1) trodAll_mk0)), rfl, bel.frame _, fun h => by cases h⟩

theorem joined : joinedFacts Try.prog 4 Try.f4 Rows.fnIncludeIsWrappingElementwiseSumSpec Rows.fnIncludeIsWrappingElementwiseSumRow = true := by
  unfold joinedFacts
  rw [Facts.enter, Facts.lifts, Facts.make]
  kernel_rfl

theorem over : Rows.fnIncludeIsWrappingElementwiseSumRow.holds Try.pinned (OpenSpec.ofChange Rows.fnIncludeIsWrappingElementwiseSumSpec) :=
  OpenClaim.holds_of_wide 4 Try.f4 rfl rfl rfl rfl rfl rfl rfl ⟨rfl, rfl, rfl, rfl, rfl⟩ rfl rfl rfl rfl rfl (by kernel_rfl) Try.func4 joined
    (of_decide_eq_true (by kernel_rfl)) (by unfold Func.isWrapper; first | (rw [if_pos (by decide +kernel)]; kernel_rfl) | (rw [if_neg (by decide +kernel)]; exact ⟨rfl, rfl⟩))
    (fun os started H enc _ => lifted os started H enc)

theorem proved : Rows.FnIncludeIsWrappingElementwiseSumSaid :=
  over
#print axioms proved
end Go.Proofs.Ytanponbjfbgigaa.fnIncludeIsWrappingElementwiseSum
