/- Converting a public Location to the internal form and back gives a new Location equal to the original, except that an empty namespace becomes file, and the original is left untouched; nil stays nil both ways. No condition. -/
import Derived.Test.YtpgchpfdeefloabRows
import Derived.WalkKit
import Derived.ProofKit
import Derived.OpenShut
import Derived.ShutString
import Derived.Test.YtpgchpfdeefloabFacts
import Derived.Test.YtpgchpfdeefloabAid
import Derived.WalkSpells
import Derived.LaidEqlPtr
import Derived.RegionTactic
import Derived.ChangeAlike
import Derived.BigRegion
import Derived.StillTailTactics
import Derived.Deep.QuietTactic
import Derived.BigQuiet
namespace Go.Proofs.Ytpgchpfdeefloab.fnLocationRoundTripThroughInternal
open Go.ChangeShapes Go.WideShapes Go.ChangeAt Go.RowKit
open Go.ChangeMaps (open_string shut_string)
set_option linter.unusedVariables false

theorem own : ownKnob Try.prog.godebug = none := by kernel_rfl
theorem laidOut : laidOutB Try.prog = true := by kernel_rfl

def nsOf (s : ByteArray) : ByteArray := if s.size = 0 then ⟨#[102, 105, 108, 101]⟩ else s
set_option maxRecDepth 100000 in
set_option maxHeartbeats 1000000 in
theorem toInt (b : Nat) (f n lt sg : ByteArray) (l c k : Int) (w : World)
    (c0 : w.cell? ⟨b, 0, none⟩ = some (.string f)) (c1 : w.cell? ⟨b, 1, none⟩ = some (.string n)) (c2 : w.cell? ⟨b, 2, none⟩ = some (.int .i64 l)) (c3 : w.cell? ⟨b, 3, none⟩ = some (.int .i64 c)) (c4 : w.cell? ⟨b, 4, none⟩ = some (.int .i64 k)) (c5 : w.cell? ⟨b, 5, none⟩ = some (.string lt)) (c6 : w.cell? ⟨b, 6, none⟩ = some (.string sg)) :
    Calls Try.prog 27 #[.pointer (some ⟨b, 0, none⟩)] w fun e w' => e = .returned (.pointer (some ⟨w.heap.size, 0, none⟩)) ∧ w' = (w.alloc (.cells #[.string f, .string f, .string (nsOf n), .string lt, .string sg, .int .i64 l, .int .i64 c, .int .i64 k] 190)).drew := by
  by_cases hn : n.size = 0
  · obtain rfl := Aid.empty_of n hn
    have H := Lib.hid (show nsOf ByteArray.empty = ⟨#[102, 105, 108, 101]⟩ by unfold nsOf; rw [if_pos hn])
    go_enter Try.func27, Try.ntmps27
    go_wp2
    go_still_tail 31, (by kernel_rfl)
    go_wp2
    go_ret
    exact ⟨rfl, by rw [H.out]⟩
  · have H := Lib.hid (show nsOf n = n by unfold nsOf; rw [if_neg hn])
    have hne := Aid.nonempty_of n hn
    go_enter Try.func27, Try.ntmps27
    go_wp2
    go_still_tail 31, (by kernel_rfl)
    go_wp2
    go_ret
    exact ⟨rfl, by rw [H.out]⟩
theorem sel (b : Nat) (p : Int) (f : ByteArray) (w : World) (c0 : w.cell? ⟨b, 0, none⟩ = some (.string f)) (c1 : w.cell? ⟨b, 1, none⟩ = some (.string f)) :
    Calls Try.prog 33 #[.pointer (some ⟨b, 0, none⟩), .int .u8 p] w fun e w' => e = .returned (.string f) ∧ w' = w := by
  go_enter Try.func33, Try.ntmps33
  go_wp2
  all_goals
    go_ret
    exact ⟨rfl, rfl⟩
set_option maxRecDepth 100000 in
set_option maxHeartbeats 1000000 in
theorem toPub (b : Nat) (p : Int) (f n lt sg : ByteArray) (l c k : Int) (w : World)
    (c0 : w.cell? ⟨b, 0, none⟩ = some (.string f)) (c1 : w.cell? ⟨b, 1, none⟩ = some (.string f)) (c2 : w.cell? ⟨b, 2, none⟩ = some (.string n)) (c3 : w.cell? ⟨b, 3, none⟩ = some (.string lt)) (c4 : w.cell? ⟨b, 4, none⟩ = some (.string sg)) (c5 : w.cell? ⟨b, 5, none⟩ = some (.int .i64 l)) (c6 : w.cell? ⟨b, 6, none⟩ = some (.int .i64 c)) (c7 : w.cell? ⟨b, 7, none⟩ = some (.int .i64 k)) :
    Calls Try.prog 26 #[.pointer (some ⟨b, 0, none⟩), .int .u8 p] w fun e w' => e = .returned (.pointer (some ⟨w.heap.size, 0, none⟩)) ∧ w' = (w.alloc (.cells #[.string f, .string n, .int .i64 l, .int .i64 c, .int .i64 k, .string lt, .string sg] 75)).drew := by
  go_enter Try.func26, Try.ntmps26
  go_wp2_with fail
  go_still_tail 30, (by kernel_rfl)
  still_call (sel b p f w.drew c0 c1)
  repeat still_step
  try refine wpStill_nil ?_
  go_wp2
  go_ret
  exact ⟨rfl, rfl⟩

theorem toIntNil (w : World) : Calls Try.prog 27 #[.pointer none] w fun e w' => e = .returned (.pointer none) ∧ w = w' := by
  go_enter Try.func27, Try.ntmps27
  go_wp2
  go_ret
  exact ⟨rfl, rfl⟩
theorem toPubNil (p : Int) (w : World) : Calls Try.prog 26 #[.pointer none, .int .u8 p] w fun e w' => e = .returned (.pointer none) ∧ w = w' := by
  go_enter Try.func26, Try.ntmps26
  go_wp2
  go_ret
  exact ⟨rfl, rfl⟩
theorem style (x y : Int) (w : World) : Calls Try.prog 28 #[.int .u8 x, .int .u8 y] w fun e w' => (∃ p, e = .returned (.int .u8 p)) ∧ w = w' := by
  go_enter Try.func28, Try.ntmps28
  go_wp2
  all_goals
    go_ret
    exact ⟨⟨_, rfl⟩, rfl⟩
theorem tripNil (x y : Int) (w : World) : Calls Try.prog 14 #[.pointer none, .int .u8 x, .int .u8 y] w fun e w' => e = .returned (.pointer none) ∧ w = w' := by
  go_enter Try.func14, Try.ntmps14
  go_wp2_with (first
    | (go_at_call 27; ((with_reducible refine (toIntNil _).mono ?_); rintro e w' ⟨rfl, rfl⟩))
    | (go_at_call 28; ((with_reducible refine (style _ _ _).mono ?_); rintro e w' ⟨⟨p, rfl⟩, rfl⟩))
    | (go_at_call 26; ((with_reducible refine (toPubNil _ _).mono ?_); rintro e w' ⟨rfl, rfl⟩)))
  go_ret
  exact ⟨rfl, rfl⟩
theorem nilLoc (x y : Int) (w : World) : Calls Try.prog 15 #[.int .u8 x, .int .u8 y] w fun e w' => e = .returned (.pointer none) ∧ w = w' := by
  go_enter Try.func15, Try.ntmps15
  go_wp2_with (first
    | (go_at_call 28; ((with_reducible refine (style _ _ _).mono ?_); rintro e w' ⟨⟨p, rfl⟩, rfl⟩))
    | (go_at_call 26; ((with_reducible refine (toPubNil _ _).mono ?_); rintro e w' ⟨rfl, rfl⟩)))
  go_ret
  exact ⟨rfl, rfl⟩
theorem trip (b : Nat) (x y : Int) (f n lt sg : ByteArray) (l c k : Int) (w : World)
    (c0 : w.cell? ⟨b, 0, none⟩ = some (.string f)) (c1 : w.cell? ⟨b, 1, none⟩ = some (.string n)) (c2 : w.cell? ⟨b, 2, none⟩ = some (.int .i64 l)) (c3 : w.cell? ⟨b, 3, none⟩ = some (.int .i64 c)) (c4 : w.cell? ⟨b, 4, none⟩ = some (.int .i64 k)) (c5 : w.cell? ⟨b, 5, none⟩ = some (.string lt)) (c6 : w.cell? ⟨b, 6, none⟩ = some (.string sg)) :
    Calls Try.prog 14 #[.pointer (some ⟨b, 0, none⟩), .int .u8 x, .int .u8 y] w fun e w' => e = .returned (.pointer (some ⟨w.heap.size + 1, 0, none⟩)) ∧
      w' = ((w.alloc (.cells #[.string f, .string f, .string (nsOf n), .string lt, .string sg, .int .i64 l, .int .i64 c, .int .i64 k] 190)).alloc (.cells #[.string f, .string (nsOf n), .int .i64 l, .int .i64 c, .int .i64 k, .string lt, .string sg] 75)).drew.drew := by
  go_enter Try.func14, Try.ntmps14
  go_wp2_with (first
    | (go_at_call 27; ((with_reducible refine (toInt _ _ _ _ _ _ _ _ _ c0 c1 c2 c3 c4 c5 c6).mono ?_); rintro e w' ⟨rfl, rfl⟩))
    | (go_at_call 28; ((with_reducible refine (style _ _ _).mono ?_); rintro e w' ⟨⟨p, rfl⟩, rfl⟩)))
  refine (toPub _ _ f (nsOf n) lt sg l c k _ (by go_simp) (by go_simp) (by go_simp) (by go_simp) (by go_simp) (by go_simp) (by go_simp) (by go_simp)).mono ?_
  rintro e w' ⟨rfl, rfl⟩
  go_wp2_with fail
  go_ret
  exact ⟨rfl, rfl⟩
theorem trip' (N : ByteArray) (b : Nat) (x y : Int) (f n lt sg : ByteArray) (l c k : Int) (w : World) (hN : nsOf n = N)
    (c0 : w.cell? ⟨b, 0, none⟩ = some (.string f)) (c1 : w.cell? ⟨b, 1, none⟩ = some (.string n)) (c2 : w.cell? ⟨b, 2, none⟩ = some (.int .i64 l)) (c3 : w.cell? ⟨b, 3, none⟩ = some (.int .i64 c)) (c4 : w.cell? ⟨b, 4, none⟩ = some (.int .i64 k)) (c5 : w.cell? ⟨b, 5, none⟩ = some (.string lt)) (c6 : w.cell? ⟨b, 6, none⟩ = some (.string sg)) :
    Calls Try.prog 14 #[.pointer (some ⟨b, 0, none⟩), .int .u8 x, .int .u8 y] w fun e w' => e = .returned (.pointer (some ⟨w.heap.size + 1, 0, none⟩)) ∧
      w' = ((w.alloc (.cells #[.string f, .string f, .string N, .string lt, .string sg, .int .i64 l, .int .i64 c, .int .i64 k] 190)).alloc (.cells #[.string f, .string N, .int .i64 l, .int .i64 c, .int .i64 k, .string lt, .string sg] 75)).drew.drew := by
  subst hN
  exact trip b x y f n lt sg l c k w c0 c1 c2 c3 c4 c5 c6
theorem info75 : (Try.prog.info? 75).map (·.size) = some 7 := by kernel_rfl
theorem ptrs (w : World) (cA cB cC : Array Value) :
    (binOp .eql 70 (.pointer (some ⟨w.heap.size + 1 + 1, 0, none⟩)) (.pointer (some ⟨w.heap.size, 0, none⟩))).run Try.prog (((w.alloc (.cells cA 75)).alloc (.cells cB 190)).alloc (.cells cC 75)).drew.drew = .ok (.bool false) (((w.alloc (.cells cA 75)).alloc (.cells cB 190)).alloc (.cells cC 75)).drew.drew := by
  obtain ⟨j, hj, hs⟩ : ∃ j, Try.prog.info? 75 = some j ∧ j.size = 7 := by
    have h := info75
    cases e : Try.prog.info? 75 with
    | none => rw [e] at h; cases h
    | some j => rw [e] at h; exact ⟨j, rfl, by simpa using h⟩
  refine run_eql_ptr_other (P := Try.prog) _ (tp := 70) (te := 75) (ca := cC) (cb := cA) (ta := 75) (tb := 75) Try.underlying70 hj (by omega) ?_ ?_ ?_
  · intro e
    have := congrArg Addr.block e
    simp at this
    omega
  · have := heap_alloc_new ((w.alloc (.cells cA 75)).alloc (.cells cB 190)) (.cells cC 75)
    show (((w.alloc (.cells cA 75)).alloc (.cells cB 190)).alloc (.cells cC 75)).heap[w.heap.size + 1 + 1]? = _
    simpa using this
  · show (((w.alloc (.cells cA 75)).alloc (.cells cB 190)).alloc (.cells cC 75)).heap[w.heap.size]? = _
    rw [Below.heap_alloc _ _ _ (by simp; omega), Below.heap_alloc _ _ _ (by simp)]
    exact heap_alloc_new _ _
theorem zz (i : Bool) (s1 s2 s6 s7 : ByteArray) (l c k x y : Int) (w : World) (h1 : s1.size ≤ maxLen) (h2 : s2.size ≤ maxLen) (h6 : s6.size ≤ maxLen) (h7 : s7.size ≤ maxLen) :
    Calls Try.prog 13 #[.bool i, .string s1, .string s2, .int .i64 l, .int .i64 c, .int .i64 k, .string s6, .string s7, .int .u8 x, .int .u8 y] w fun e w' => (∃ v, e = .returned (.bool v)) ∧ w = w' := by
  unfold maxLen at h1 h2 h6 h7
  go_enter Try.func13, Try.ntmps13
  go_wp2
  all_goals
    go_ret
    exact ⟨⟨_, rfl⟩, rfl⟩

set_option maxRecDepth 100000 in
set_option maxHeartbeats 4000000 in
theorem walk (a0 : Bool) (a1 : ByteArray) (a2 : ByteArray) (a3 : Int) (a4 : Int) (a5 : Int) (a6 : ByteArray) (a7 : ByteArray) (a8 : Int) (a9 : Int) (w : World) (w1 : a1.size ≤ maxLen) (w2 : a2.size ≤ maxLen) (w3 : (Lit.int .i64 a3).wf = true) (w4 : (Lit.int .i64 a4).wf = true) (w5 : (Lit.int .i64 a5).wf = true) (w6 : a6.size ≤ maxLen) (w7 : a7.size ≤ maxLen) (w8 : (Lit.int .u8 a8).wf = true) (w9 : (Lit.int .u8 a9).wf = true) :
    Calls Try.prog 5 #[.bool a0, .string a1, .string a2, .int .i64 a3, .int .i64 a4, .int .i64 a5, .string a6, .string a7, .int .u8 a8, .int .u8 a9] w fun e w' => e = .returned (.bool true) ∧ Below w.heap.size w w' := by
  clear w3 w4 w5 w8 w9
  have v1 := w1
  have v2 := w2
  have v6 := w6
  have v7 := w7
  unfold maxLen at v1 v2 v6 v7
  cases a0
  · by_cases hn : a2.size = 0
    · obtain rfl := Aid.empty_of a2 hn
      have H := Lib.hid (show nsOf ByteArray.empty = ⟨#[102, 105, 108, 101]⟩ by unfold nsOf; rw [if_pos hn])
      clear hn
      go_enter Try.func5, Try.ntmps5
      go_wp2_with (go_at_call 13; ((with_reducible refine (zz _ _ _ _ _ _ _ _ _ _ _ w1 w2 w6 w7).mono ?_); rintro e w' ⟨⟨v, rfl⟩, rfl⟩))
      · go_ret
        exact ⟨rfl, Below.refl _ _⟩
      · go_ret
        exact ⟨rfl, Below.refl _ _⟩
      · refine (trip' ⟨#[102, 105, 108, 101]⟩ _ _ _ a1 ByteArray.empty a6 a7 a3 a4 a5 _ H.out (by go_simp) (by go_simp) (by go_simp) (by go_simp) (by go_simp) (by go_simp) (by go_simp)).mono ?_
        rintro e w' ⟨rfl, rfl⟩
        have hpt := ptrs w
        go_wp2_with fail
        go_ret
        refine ⟨rfl, ?_⟩
        repeat (first | exact Below.refl _ _ | apply Below.drew | (refine Below.alloc ?_ (by simp; try omega) _))

    · have H := Lib.hid (show nsOf a2 = a2 by unfold nsOf; rw [if_neg hn])
      have hne := Aid.nonempty_of a2 hn
      have hne2 := Aid.toList_ne a2 hn
      go_enter Try.func5, Try.ntmps5
      go_wp2_with (go_at_call 13; ((with_reducible refine (zz _ _ _ _ _ _ _ _ _ _ _ w1 w2 w6 w7).mono ?_); rintro e w' ⟨⟨v, rfl⟩, rfl⟩))
      · go_ret
        exact ⟨rfl, Below.refl _ _⟩
      · go_ret
        exact ⟨rfl, Below.refl _ _⟩
      · refine (trip' a2 _ _ _ a1 a2 a6 a7 a3 a4 a5 _ H.out (by go_simp) (by go_simp) (by go_simp) (by go_simp) (by go_simp) (by go_simp) (by go_simp)).mono ?_
        rintro e w' ⟨rfl, rfl⟩
        have hpt := ptrs w
        go_wp2_with fail
        go_ret
        refine ⟨rfl, ?_⟩
        repeat (first | exact Below.refl _ _ | apply Below.drew | (refine Below.alloc ?_ (by simp; try omega) _))

  · go_enter Try.func5, Try.ntmps5
    go_wp2_with (first
      | (go_at_call 13; ((with_reducible refine (zz _ _ _ _ _ _ _ _ _ _ _ w1 w2 w6 w7).mono ?_); rintro e w' ⟨⟨v, rfl⟩, rfl⟩))
      | (go_at_call 14; ((with_reducible refine (tripNil _ _ _).mono ?_); rintro e w' ⟨rfl, rfl⟩))
      | (go_at_call 15; ((with_reducible refine (nilLoc _ _ _).mono ?_); rintro e w' ⟨rfl, rfl⟩)))
    all_goals
      go_ret
      exact ⟨rfl, Below.refl _ _⟩

set_option maxRecDepth 100000 in
theorem lifted (os : Os) (started : os.Started) (H : Type) (enc : TypeId × Value → H) :
    ReturnsInHanded {} Try.checked os 5 .any (Rows.fnLocationRoundTripThroughInternalSpec.pre6 enc Try.prog Try.f5 Rows.fnLocationRoundTripThroughInternalRow.domain false) (Rows.fnLocationRoundTripThroughInternalSpec.post enc Try.prog Try.f5 false true false false) := by
  refine returnsInHanded_of_change (C := Try.checked) own started (by kernel_rfl) Try.func5
    (ChangeSpec.witness6 (enc := enc) (C := Try.checked) false ⟨#[], #[.bool false, .string ByteArray.empty, .string ByteArray.empty, .int .i64 0, .int .i64 0, .int .i64 0, .string ByteArray.empty, .string ByteArray.empty, .int .u8 0, .int .u8 0], []⟩ 8 (by kernel_rfl) (by kernel_rfl) (by kernel_rfl) (by kernel_rfl)) ?_
  intro W base args ds gs before hval0 hW hcnd _
  have hval : ∀ (j : Nat) t v, Try.f5.params[j]? = some t → args[j]? = some v → Value.okWide Try.prog W .any base t v := hval0
  have hW' := hW
  obtain ⟨p, q, hA0, hV, rfl, hfz, hnd⟩ := hW
  have hA : DataW.TrodAll enc Try.prog W 0 (fun _ => true) true Try.f5.params.toList args.toList ds p := hA0
  rw [Try.params5] at hA hval
  obtain ⟨v0, vs0, d0, ds0, p0, q0, hargs, rfl, rfl, h0, r0⟩ := trodAll_cons hA
  obtain ⟨v1, vs1, d1, ds1, p1, q1, rfl, rfl, rfl, h1, r1⟩ := trodAll_cons r0
  obtain ⟨v2, vs2, d2, ds2, p2, q2, rfl, rfl, rfl, h2, r2⟩ := trodAll_cons r1
  obtain ⟨v3, vs3, d3, ds3, p3, q3, rfl, rfl, rfl, h3, r3⟩ := trodAll_cons r2
  obtain ⟨v4, vs4, d4, ds4, p4, q4, rfl, rfl, rfl, h4, r4⟩ := trodAll_cons r3
  obtain ⟨v5, vs5, d5, ds5, p5, q5, rfl, rfl, rfl, h5, r5⟩ := trodAll_cons r4
  obtain ⟨v6, vs6, d6, ds6, p6, q6, rfl, rfl, rfl, h6, r6⟩ := trodAll_cons r5
  obtain ⟨v7, vs7, d7, ds7, p7, q7, rfl, rfl, rfl, h7, r7⟩ := trodAll_cons r6
  obtain ⟨v8, vs8, d8, ds8, p8, q8, rfl, rfl, rfl, h8, r8⟩ := trodAll_cons r7
  obtain ⟨v9, vs9, d9, ds9, p9, q9, rfl, rfl, rfl, h9, r9⟩ := trodAll_cons r8
  obtain ⟨rfl, rfl, rfl⟩ := trodAll_nil r9
  obtain rfl : args = #[v0, v1, v2, v3, v4, v5, v6, v7, v8, v9] := by cases args; simp_all
  obtain ⟨rfl, rfl⟩ := trodVars_none hV
  obtain ⟨a0, rfl, rfl, rfl⟩ := open_bool Try.underlying4 (hval 0 4 v0 rfl rfl) h0
  obtain ⟨a1, rfl, rfl, rfl, w1⟩ := open_string Try.underlying9 (hval 1 9 v1 rfl rfl) h1
  obtain ⟨a2, rfl, rfl, rfl, w2⟩ := open_string Try.underlying9 (hval 2 9 v2 rfl rfl) h2
  obtain ⟨a3, rfl, rfl, rfl, w3⟩ := open_int Try.underlying3 (hval 3 3 v3 rfl rfl) h3
  obtain ⟨a4, rfl, rfl, rfl, w4⟩ := open_int Try.underlying3 (hval 4 3 v4 rfl rfl) h4
  obtain ⟨a5, rfl, rfl, rfl, w5⟩ := open_int Try.underlying3 (hval 5 3 v5 rfl rfl) h5
  obtain ⟨a6, rfl, rfl, rfl, w6⟩ := open_string Try.underlying9 (hval 6 9 v6 rfl rfl) h6
  obtain ⟨a7, rfl, rfl, rfl, w7⟩ := open_string Try.underlying9 (hval 7 9 v7 rfl rfl) h7
  obtain ⟨a8, rfl, rfl, rfl, w8⟩ := open_int Try.underlying5 (hval 8 5 v8 rfl rfl) h8
  obtain ⟨a9, rfl, rfl, rfl, w9⟩ := open_int Try.underlying5 (hval 9 5 v9 rfl rfl) h9
  clear hA0 hval0
  refine (walk a0 a1 a2 a3 a4 a5 a6 a7 a8 a9 W w1 w2 w3 w4 w5 w6 w7 w8 w9).mono fun e W' ⟨he, bel⟩ => ?_
  subst he
  exact ⟨_, rfl, _, _, _, [], _, [], hW', trodAll_mk1 (shut_bool Try.underlying4 _), (trodAll_cons_mk (shut_bool Try.underlying4 _) (trodAll_cons_mk (shut_string Try.underlying9 w1) (trodAll_cons_mk (shut_string Try.underlying9 w2) (trodAll_cons_mk (shut_int Try.underlying3 w3) (trodAll_cons_mk (shut_int Try.underlying3 w4) (trodAll_cons_mk (shut_int Try.underlying3 w5) (trodAll_cons_mk (shut_string Try.underlying9 w6) (trodAll_cons_mk (shut_string Try.underlying9 w7) (trodAll_cons_mk (shut_int Try.underlying5 w8) (trodAll_cons_mk (shut_int Try.underlying5 w9) trodAll_mk0)))))))))), rfl, bel.frame _, fun h => by cases h⟩

theorem joined : joinedFacts Try.prog 5 Try.f5 Rows.fnLocationRoundTripThroughInternalSpec Rows.fnLocationRoundTripThroughInternalRow = true := by
  unfold joinedFacts
  rw [Facts.enter, Facts.lifts, Facts.make]
  kernel_rfl

theorem over : Rows.fnLocationRoundTripThroughInternalRow.holds Try.pinned (OpenSpec.ofChange Rows.fnLocationRoundTripThroughInternalSpec) :=
  OpenClaim.holds_of_wide 5 Try.f5 rfl rfl rfl rfl rfl rfl rfl ⟨rfl, rfl, rfl, rfl, rfl⟩ rfl rfl rfl rfl rfl (by kernel_rfl) Try.func5 joined
    (of_decide_eq_true (by kernel_rfl)) (by unfold Func.isWrapper; first | (rw [if_pos (by decide +kernel)]; kernel_rfl) | (rw [if_neg (by decide +kernel)]; exact ⟨rfl, rfl⟩))
    (fun os started H enc _ => lifted os started H enc)

theorem proved : Rows.FnLocationRoundTripThroughInternalSaid :=
  over
#print axioms proved
end Go.Proofs.Ytpgchpfdeefloab.fnLocationRoundTripThroughInternal
