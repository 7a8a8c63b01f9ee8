/- For any counts and indices, Less(i, j) holds exactly when the key of element i exceeds that of element j. No condition. -/
import Derived.Test.YtimclpagggfmbaaRows
import Derived.WalkKit
import Derived.ProofKit
import Derived.OpenShut
import Derived.ShutString
import Derived.Test.YtimclpagggfmbaaFacts
import Derived.DataShut
import Derived.Lib.Hide
namespace Go.Proofs.Ytimclpagggfmbaa.fnLessIsDescendingCountThenAscendingIndex
open Go.ChangeShapes Go.WideShapes Go.ChangeAt Go.RowKit
open Go.ChangeMaps (open_string shut_string)
set_option linter.unusedVariables false      -- a walk need not use every 'w<i>' (that an integer argument fits its kind)

theorem own : ownKnob Try.prog.godebug = none := by kernel_rfl

theorem mk2 (w : World) : (Instr.makeSlice 49 (.int .i64 2) (.int .i64 2)).run Try.prog w = .ok (.slice (some ⟨w.heap.size, 0, none⟩) 2 2) (w.alloc (.cells #[.string ⟨#[]⟩, .int .i32 0, .int .u8 0, .string ⟨#[]⟩, .int .i32 0, .int .u8 0] 62)) := by kernel_rfl
theorem set0 (w : World) (s s' : ByteArray) (c x c' x' : Int) (v0 v1 v2 : Value) :
    Calls Try.prog 28 #[.slice (some ⟨w.heap.size, 0, none⟩) 2 2, .int .i64 0, .string s, .int .i32 c, .int .u8 x] (w.alloc (.cells #[v0, v1, v2, .string s', .int .i32 c', .int .u8 x'] 62))
      fun e w' => e = .returned (.tuple #[]) ∧ w' = w.alloc (.cells #[.string s, .int .i32 c, .int .u8 x, .string s', .int .i32 c', .int .u8 x'] 62) := by
  go_enter Try.func28, Try.ntmps28
  go_wp2
  go_end0
  exact ⟨rfl, rfl⟩
theorem set1 (w : World) (s s' : ByteArray) (c x c' x' : Int) (v0 v1 v2 : Value) :
    Calls Try.prog 28 #[.slice (some ⟨w.heap.size, 0, none⟩) 2 2, .int .i64 1, .string s, .int .i32 c, .int .u8 x] (w.alloc (.cells #[.string s', .int .i32 c', .int .u8 x', v0, v1, v2] 62))
      fun e w' => e = .returned (.tuple #[]) ∧ w' = w.alloc (.cells #[.string s', .int .i32 c', .int .u8 x', .string s, .int .i32 c, .int .u8 x] 62) := by
  go_enter Try.func28, Try.ntmps28
  go_wp2
  go_end0
  exact ⟨rfl, rfl⟩
def lessB (c x c' x' : Int) : Bool := decide (c' < c) || (c == c' && decide (x < x'))
def key (c x : Int) : Int := (c + 2147483648) * 256 + (255 - x)
theorem key29 (c x : Int) (w : World) (hc : -2147483648 ≤ c ∧ c ≤ 2147483647) (hx : 0 ≤ x ∧ x ≤ 255) :
    Calls Try.prog 29 #[.int .i32 c, .int .u8 x] w fun e w' => e = .returned (.int .i64 (key c x)) ∧ w = w' := by
  go_enter Try.func29, Try.ntmps29
  go_wp2
  go_ret
  exact ⟨rfl, rfl⟩
theorem lessB_key (c x c' x' : Int) (h1 : 0 ≤ x ∧ x ≤ 255) (h2 : 0 ≤ x' ∧ x' ≤ 255) : lessB c x c' x' = decide (key c' x' < key c x) := by
  unfold lessB key
  rw [Bool.eq_iff_iff]
  simp only [Bool.or_eq_true, Bool.and_eq_true, decide_eq_true_eq, beq_iff_eq]
  omega
theorem less01 (w : World) (b : Nat) (s s' : ByteArray) (c x c' x' : Int) (hb : b < w.heap.size)
    (q0 : w.cell? ⟨b, 0, none⟩ = some (.string s)) (q1 : w.cell? ⟨b, 1, none⟩ = some (.int .i32 c)) (q2 : w.cell? ⟨b, 2, none⟩ = some (.int .u8 x))
    (q3 : w.cell? ⟨b, 3, none⟩ = some (.string s')) (q4 : w.cell? ⟨b, 4, none⟩ = some (.int .i32 c')) (q5 : w.cell? ⟨b, 5, none⟩ = some (.int .u8 x')) :
    Calls Try.prog 30 #[.slice (some ⟨b, 0, none⟩) 2 2, .int .i64 0, .int .i64 1] w
      fun e w' => e = .returned (.bool (lessB c x c' x')) ∧ Below w.heap.size w w' := by
  by_cases h1 : c' < c
  · have HB := Lib.hid (show lessB c x c' x' = true by unfold lessB; simp [h1])
    go_enter Try.func30, Try.ntmps30
    go_wp2
    go_ret
    exact ⟨by rw [HB.out]; rfl, by repeat (first | exact Below.refl _ _ | apply Below.drew | (refine Below.alloc ?_ (by simp; try omega) _))⟩
  · by_cases h2 : c = c'
    · by_cases h3 : x < x'
      · have HB := Lib.hid (show lessB c x c' x' = true by unfold lessB; simp [h2, h3])
        have e2 : (c == c') = true := by simpa using h2
        have d1 : decide (c' < c) = false := by simpa using h1
        clear h2
        go_enter Try.func30, Try.ntmps30
        go_wp2
        go_ret
        exact ⟨by rw [HB.out]; rfl, by repeat (first | exact Below.refl _ _ | apply Below.drew | (refine Below.alloc ?_ (by simp; try omega) _))⟩
      · have HB := Lib.hid (show lessB c x c' x' = false by unfold lessB; simp [h1, h3])
        have e2 : (c == c') = true := by simpa using h2
        have d1 : decide (c' < c) = false := by simpa using h1
        clear h2
        go_enter Try.func30, Try.ntmps30
        go_wp2
        go_ret
        exact ⟨by rw [HB.out]; rfl, by repeat (first | exact Below.refl _ _ | apply Below.drew | (refine Below.alloc ?_ (by simp; try omega) _))⟩
    · have HB := Lib.hid (show lessB c x c' x' = false by unfold lessB; simp [h2]; omega)
      have e2 : (c == c') = false := by simpa using h2
      have d1 : decide (c' < c) = false := by simpa using h1
      go_enter Try.func30, Try.ntmps30
      go_wp2
      go_ret
      exact ⟨by rw [HB.out]; rfl, by repeat (first | exact Below.refl _ _ | apply Below.drew | (refine Below.alloc ?_ (by simp; try omega) _))⟩

theorem less10 (w : World) (b : Nat) (s s' : ByteArray) (c x c' x' : Int) (hb : b < w.heap.size)
    (q0 : w.cell? ⟨b, 3, none⟩ = some (.string s)) (q1 : w.cell? ⟨b, 4, none⟩ = some (.int .i32 c)) (q2 : w.cell? ⟨b, 5, none⟩ = some (.int .u8 x))
    (q3 : w.cell? ⟨b, 0, none⟩ = some (.string s')) (q4 : w.cell? ⟨b, 1, none⟩ = some (.int .i32 c')) (q5 : w.cell? ⟨b, 2, none⟩ = some (.int .u8 x')) :
    Calls Try.prog 30 #[.slice (some ⟨b, 0, none⟩) 2 2, .int .i64 1, .int .i64 0] w
      fun e w' => e = .returned (.bool (lessB c x c' x')) ∧ Below w.heap.size w w' := by
  by_cases h1 : c' < c
  · have HB := Lib.hid (show lessB c x c' x' = true by unfold lessB; simp [h1])
    go_enter Try.func30, Try.ntmps30
    go_wp2
    go_ret
    exact ⟨by rw [HB.out]; rfl, by repeat (first | exact Below.refl _ _ | apply Below.drew | (refine Below.alloc ?_ (by simp; try omega) _))⟩
  · by_cases h2 : c = c'
    · by_cases h3 : x < x'
      · have HB := Lib.hid (show lessB c x c' x' = true by unfold lessB; simp [h2, h3])
        have e2 : (c == c') = true := by simpa using h2
        have d1 : decide (c' < c) = false := by simpa using h1
        clear h2
        go_enter Try.func30, Try.ntmps30
        go_wp2
        go_ret
        exact ⟨by rw [HB.out]; rfl, by repeat (first | exact Below.refl _ _ | apply Below.drew | (refine Below.alloc ?_ (by simp; try omega) _))⟩
      · have HB := Lib.hid (show lessB c x c' x' = false by unfold lessB; simp [h1, h3])
        have e2 : (c == c') = true := by simpa using h2
        have d1 : decide (c' < c) = false := by simpa using h1
        clear h2
        go_enter Try.func30, Try.ntmps30
        go_wp2
        go_ret
        exact ⟨by rw [HB.out]; rfl, by repeat (first | exact Below.refl _ _ | apply Below.drew | (refine Below.alloc ?_ (by simp; try omega) _))⟩
    · have HB := Lib.hid (show lessB c x c' x' = false by unfold lessB; simp [h2]; omega)
      have e2 : (c == c') = false := by simpa using h2
      have d1 : decide (c' < c) = false := by simpa using h1
      go_enter Try.func30, Try.ntmps30
      go_wp2
      go_ret
      exact ⟨by rw [HB.out]; rfl, by repeat (first | exact Below.refl _ _ | apply Below.drew | (refine Below.alloc ?_ (by simp; try omega) _))⟩

theorem walk (a0 : Int) (a1 : Int) (a2 : Int) (a3 : Int) (w0 : (Lit.int .i32 a0).wf = true) (w1 : (Lit.int .u8 a1).wf = true) (w2 : (Lit.int .i32 a2).wf = true) (w3 : (Lit.int .u8 a3).wf = true) (w : World) :
    Calls Try.prog 11 #[.int .i32 a0, .int .u8 a1, .int .i32 a2, .int .u8 a3] w fun e w' => e = .returned (.bool true) ∧ Below w.heap.size w w' := by
  have b0 : -2147483648 ≤ a0 ∧ a0 ≤ 2147483647 := by simpa [Lit.wf_int_iff, IntKind.min_i32, IntKind.max_i32] using w0
  have b1 : 0 ≤ a1 ∧ a1 ≤ 255 := by simpa [Lit.wf_int_iff, IntKind.min_u8, IntKind.max_u8] using w1
  have b2 : -2147483648 ≤ a2 ∧ a2 ≤ 2147483647 := by simpa [Lit.wf_int_iff, IntKind.min_i32, IntKind.max_i32] using w2
  have b3 : 0 ≤ a3 ∧ a3 ≤ 255 := by simpa [Lit.wf_int_iff, IntKind.min_u8, IntKind.max_u8] using w3
  have k1 := lessB_key a0 a1 a2 a3 b1 b3
  have k2 := lessB_key a2 a3 a0 a1 b3 b1
  have hmk := mk2
  clear w0 w1 w2 w3
  go_enter Try.func11, Try.ntmps11
  go_wp2_with (first | (go_at_call 28; ((with_reducible refine (set0 _ _ _ _ _ _ _ _ _ _).mono ?_); rintro e w' ⟨rfl, rfl⟩)) | (go_at_call 28; ((with_reducible refine (set1 _ _ _ _ _ _ _ _ _ _).mono ?_); rintro e w' ⟨rfl, rfl⟩)) | (go_at_call 29; ((with_reducible refine (key29 _ _ _ (by assumption) (by assumption)).mono ?_); rintro e w' ⟨rfl, rfl⟩)) | (go_at_call 27; go_in))
  refine (less01 _ _ ⟨#[113]⟩ ⟨#[98]⟩ a0 a1 a2 a3 (by simp) (by go_simp) (by go_simp) (by go_simp) (by go_simp) (by go_simp) (by go_simp)).mono ?_
  rintro e w1 ⟨rfl, hg1⟩
  go_wp2_with fail
  refine (less10 _ _ ⟨#[98]⟩ ⟨#[113]⟩ a2 a3 a0 a1 (by have := hg1.size; simp at this; omega) (by rw [hg1.cell (by simp)]; go_simp) (by rw [hg1.cell (by simp)]; go_simp) (by rw [hg1.cell (by simp)]; go_simp) (by rw [hg1.cell (by simp)]; go_simp) (by rw [hg1.cell (by simp)]; go_simp) (by rw [hg1.cell (by simp)]; go_simp)).mono ?_
  rintro e w2 ⟨rfl, hg2⟩
  go_wp2
  go_ret
  exact ⟨rfl, (((Below.refl _ _).alloc (Nat.le_refl _) _).trans (hg1.mono (by simp))).trans (hg2.mono (by have := hg1.size; simp at this; omega))⟩

/-! ### THE ROW's STEP: WRITTEN OUT: LEAVE IT -/
set_option maxRecDepth 100000 in
theorem lifted (os : Os) (started : os.Started) (H : Type) (enc : TypeId × Value → H) :
    ReturnsInHanded {} Try.checked os 11 .any (Rows.fnLessIsDescendingCountThenAscendingIndexSpec.pre6 enc Try.prog Try.f11 Rows.fnLessIsDescendingCountThenAscendingIndexRow.domain false) (Rows.fnLessIsDescendingCountThenAscendingIndexSpec.post enc Try.prog Try.f11 false true false false) := by
  refine returnsInHanded_of_change (C := Try.checked) own started (by kernel_rfl) Try.func11
    (ChangeSpec.witness6 (enc := enc) (C := Try.checked) false ⟨#[], #[.int .i32 0, .int .u8 0, .int .i32 0, .int .u8 0], []⟩ 8 (by kernel_rfl) (by kernel_rfl) (by kernel_rfl) (by kernel_rfl)) ?_
  intro W base args ds gs before hval0 hW hcnd _
  have hval : ∀ (j : Nat) t v, Try.f11.params[j]? = some t → args[j]? = some v → Value.okWide Try.prog W .any base t v := hval0
  have hW' := hW
  obtain ⟨p, q, hA0, hV, rfl, hfz, hnd⟩ := hW
  have hA : DataW.TrodAll enc Try.prog W 0 (fun _ => true) true Try.f11.params.toList args.toList ds p := hA0
  rw [Try.params11] at hA hval
  obtain ⟨v0, vs0, d0, ds0, p0, q0, hargs, rfl, rfl, h0, r0⟩ := trodAll_cons hA
  obtain ⟨v1, vs1, d1, ds1, p1, q1, rfl, rfl, rfl, h1, r1⟩ := trodAll_cons r0
  obtain ⟨v2, vs2, d2, ds2, p2, q2, rfl, rfl, rfl, h2, r2⟩ := trodAll_cons r1
  obtain ⟨v3, vs3, d3, ds3, p3, q3, rfl, rfl, rfl, h3, r3⟩ := trodAll_cons r2
  obtain ⟨rfl, rfl, rfl⟩ := trodAll_nil r3
  obtain rfl : args = #[v0, v1, v2, v3] := by cases args; simp_all
  obtain ⟨rfl, rfl⟩ := trodVars_none hV
  obtain ⟨a0, rfl, rfl, rfl, w0⟩ := open_int Try.underlying21 (hval 0 21 v0 rfl rfl) h0
  obtain ⟨a1, rfl, rfl, rfl, w1⟩ := open_int Try.underlying5 (hval 1 5 v1 rfl rfl) h1
  obtain ⟨a2, rfl, rfl, rfl, w2⟩ := open_int Try.underlying21 (hval 2 21 v2 rfl rfl) h2
  obtain ⟨a3, rfl, rfl, rfl, w3⟩ := open_int Try.underlying5 (hval 3 5 v3 rfl rfl) h3
  clear hA0 hval0
  simp only [List.append_nil] at hW'
  refine (walk a0 a1 a2 a3 w0 w1 w2 w3 W).mono fun e W' ⟨he, hg⟩ => ?_
  subst he
  exact ⟨_, rfl, _, _, _, [], [], [], hW', (trodAll_cons_mk (shut_bool Try.underlying4 _) trodAll_mk0), (trodAll_cons_mk (shut_int Try.underlying21 w0) (trodAll_cons_mk (shut_int Try.underlying5 w1) (trodAll_cons_mk (shut_int Try.underlying21 w2) (trodAll_cons_mk (shut_int Try.underlying5 w3) trodAll_mk0)))), rfl, hg.frame _, fun h => by cases h⟩

theorem joined : joinedFacts Try.prog 11 Try.f11 Rows.fnLessIsDescendingCountThenAscendingIndexSpec Rows.fnLessIsDescendingCountThenAscendingIndexRow = true := by
  unfold joinedFacts
  rw [Facts.enter, Facts.lifts, Facts.make]
  kernel_rfl

theorem over : Rows.fnLessIsDescendingCountThenAscendingIndexRow.holds Try.pinned (OpenSpec.ofChange Rows.fnLessIsDescendingCountThenAscendingIndexSpec) :=
  OpenClaim.holds_of_wide 11 Try.f11 rfl rfl rfl rfl rfl rfl rfl ⟨rfl, rfl, rfl, rfl, rfl⟩ rfl rfl rfl rfl rfl (by kernel_rfl) Try.func11 joined
    (of_decide_eq_true (by kernel_rfl)) (by unfold Func.isWrapper; first | (rw [if_pos (by decide +kernel)]; kernel_rfl) | (rw [if_neg (by decide +kernel)]; exact ⟨rfl, rfl⟩))
    (fun os started H enc _ => lifted os started H enc)

/-- ████ THE STATEMENT ████ -/
theorem proved : Rows.FnLessIsDescendingCountThenAscendingIndexSaid :=
  over
#print axioms proved
end Go.Proofs.Ytimclpagggfmbaa.fnLessIsDescendingCountThenAscendingIndex
