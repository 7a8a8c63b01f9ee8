/- IsPackagePath(p + "/" + s) equals IsPackagePath(p) for every non-empty p, and is false for empty p. No condition. -/
import Derived.Test.YtanponbjfbgigabRows
import Derived.WalkKit
import Derived.ProofKit
import Derived.OpenShut
import Derived.ShutString
import Derived.Test.YtanponbjfbgigabFacts
import Derived.Test.YtanponbjfbgigabAid
import Derived.Test.YtanponbjfbgigabShelf
import Derived.WalkSpells
namespace Go.Proofs.Ytanponbjfbgigab.fnIsPackagePathFixedByDirectoryPart
open Go.ChangeShapes Go.WideShapes Go.ChangeAt Go.RowKit
open Go.ChangeMaps (open_string shut_string)
set_option linter.unusedVariables false

theorem own : ownKnob Try.prog.godebug = none := by kernel_rfl
theorem laidOut : laidOutB Try.prog = true := by kernel_rfl

def isPkg (l : List UInt8) : Bool := !(Lib.hasPrefix l [47]) && (!(Lib.hasPrefix l [46, 47]) && (!(Lib.hasPrefix l [46, 46, 47]) && (!(l == [46]) && !(l == [46, 46]))))
theorem pk1 {l : List UInt8} (h : Lib.hasPrefix l [47] = true) : isPkg l = false := by unfold isPkg; rw [h]; rfl
theorem pk2 {l : List UInt8} (h : Lib.hasPrefix l [46, 47] = true) : isPkg l = false := by unfold isPkg; rw [h]; simp
theorem pk3 {l : List UInt8} (h : Lib.hasPrefix l [46, 46, 47] = true) : isPkg l = false := by unfold isPkg; rw [h]; simp
theorem pk4 {l : List UInt8} (h : l = [46]) : isPkg l = false := by unfold isPkg; rw [h]; simp
theorem pk5 {l : List UInt8} (h1 : ¬ Lib.hasPrefix l [47] = true) (h2 : ¬ Lib.hasPrefix l [46, 47] = true) (h3 : ¬ Lib.hasPrefix l [46, 46, 47] = true) : isPkg l = ((!l == [46]) && !l == [46, 46]) := by
  unfold isPkg; rw [Bool.not_eq_true] at h1 h2 h3; rw [h1, h2, h3]; rfl
theorem ispkg (s : ByteArray) (w : World) : Calls Try.prog 10 #[.string s] w fun e w' => e = .returned (.bool (isPkg s.data.toList)) ∧ w = w' := by
  go_enter Try.func10, Try.ntmps10
  go_wp2_with (go_at_call 20; ((with_reducible refine (Try.strings_HasPrefix _ _ _).mono ?_); rintro e w' ⟨rfl, rfl⟩))
  · go_ret
    exact ⟨Aid.ret_bool (pk1 ‹_›).symm, rfl⟩
  · go_ret
    exact ⟨Aid.ret_bool (pk2 ‹_›).symm, rfl⟩
  · go_ret
    exact ⟨Aid.ret_bool (pk3 ‹_›).symm, rfl⟩
  · have h4 : s.toList = [46] := ‹_›
    rw [ByteArray.toList_eq] at h4
    go_ret
    exact ⟨Aid.ret_bool (pk4 h4).symm, rfl⟩
  · have h5 := pk5 (l := s.data.toList) ‹_› ‹_› ‹_›
    rw [← ByteArray.toList_eq] at h5
    go_ret
    refine ⟨?_, rfl⟩
    rw [← ByteArray.toList_eq, h5]
    rfl
theorem isPkg_dir (p s : List UInt8) : isPkg (p ++ 47 :: s) = (isPkg p && !p.isEmpty) := by
  match p with
  | [] => rw [pk1 (by simp [Lib.hasPrefix, List.isPrefixOf])]; simp
  | [a] =>
    have e1 : (a == 46) = (46 == a) := BEq.comm
    simp [isPkg, Lib.hasPrefix, List.isPrefixOf, e1]
  | [a, b] =>
    have e1 : (a == 46) = (46 == a) := BEq.comm
    have e2 : (b == 46) = (46 == b) := BEq.comm
    simp [isPkg, Lib.hasPrefix, List.isPrefixOf, e1, e2]
  | a :: b :: c :: l => simp [isPkg, Lib.hasPrefix, List.isPrefixOf]
def fitsB (n : Nat) : Bool := decide (n ≤ 1048576)
theorem zz (s t : ByteArray) (w : World) (h1 : s.size ≤ maxLen) (h2 : t.size ≤ maxLen) :
    Calls Try.prog 9 #[.string s, .string t] w fun e w' => e = .returned (.bool (fitsB (s.size + t.size))) ∧ w = w' := by
  unfold maxLen at h1 h2
  by_cases h : s.size + t.size ≤ 1048576
  · have H := Lib.hid (show fitsB (s.size + t.size) = true by unfold fitsB; simpa using h)
    go_enter Try.func9, Try.ntmps9
    go_wp2
    go_ret
    exact ⟨by rw [H.out]; rfl, rfl⟩
  · have H := Lib.hid (show fitsB (s.size + t.size) = false by unfold fitsB; simpa using h)
    go_enter Try.func9, Try.ntmps9
    go_wp2
    all_goals
      go_ret
      exact ⟨by rw [H.out]; rfl, rfl⟩

theorem walk (a0 : ByteArray) (a1 : ByteArray) (w : World) (w0 : a0.size ≤ maxLen) (w1 : a1.size ≤ maxLen) :
    Calls Try.prog 4 #[.string a0, .string a1] w fun e w' => e = .returned (.bool true) ∧ Below w.heap.size w w' := by
  by_cases hf : fitsB (a0.size + a1.size) = false
  · go_enter Try.func4, Try.ntmps4
    go_wp2_with (go_at_call 9; ((with_reducible refine (zz _ _ _ w0 w1).mono ?_); rintro e w' ⟨rfl, rfl⟩))
    go_ret
    exact ⟨rfl, Below.refl _ _⟩
  rw [Bool.not_eq_false] at hf
  by_cases h1 : 65536 < a0.size
  · go_enter Try.func4, Try.ntmps4
    go_wp2_with (go_at_call 9; ((with_reducible refine (zz _ _ _ w0 w1).mono ?_); rintro e w' ⟨rfl, rfl⟩))
    go_ret
    exact ⟨rfl, Below.refl _ _⟩
  have d1 : decide (65536 < a0.size) = false := by simpa using h1
  by_cases h2 : 65536 < a1.size
  · go_enter Try.func4, Try.ntmps4
    go_wp2_with (go_at_call 9; ((with_reducible refine (zz _ _ _ w0 w1).mono ?_); rintro e w' ⟨rfl, rfl⟩))
    go_ret
    exact ⟨rfl, Below.refl _ _⟩
  have HD := Lib.hid (isPkg_dir a0.data.toList a1.data.toList)
  go_enter Try.func4, Try.ntmps4
  go_wp2_with (first
    | (go_at_call 9; ((with_reducible refine (zz _ _ _ w0 w1).mono ?_); rintro e w' ⟨rfl, rfl⟩))
    | (go_at_call 10; ((with_reducible refine (ispkg _ _).mono ?_); rintro e w' ⟨rfl, rfl⟩)))
  · have h := ‹isPkg a0.data.toList = true›
    go_ret
    refine ⟨?_, Below.refl _ _⟩
    show Ending.returned (.bool (isPkg (a0.data.toList ++ 47 :: a1.data.toList) == !a0.toList.isEmpty)) = _
    rw [HD.out, h, ByteArray.toList_eq]
    simp
  · have h := ‹¬ isPkg a0.data.toList = true›
    rw [Bool.not_eq_true] at h
    go_ret
    refine ⟨?_, Below.refl _ _⟩
    show Ending.returned (.bool (!isPkg (a0.data.toList ++ 47 :: a1.data.toList))) = _
    rw [HD.out, h]
    rfl

set_option maxRecDepth 100000 in
theorem lifted (os : Os) (started : os.Started) (H : Type) (enc : TypeId × Value → H) :
    ReturnsInHanded {} Try.checked os 4 .any (Rows.fnIsPackagePathFixedByDirectoryPartSpec.pre6 enc Try.prog Try.f4 Rows.fnIsPackagePathFixedByDirectoryPartRow.domain false) (Rows.fnIsPackagePathFixedByDirectoryPartSpec.post enc Try.prog Try.f4 false true false false) := by
  refine returnsInHanded_of_change (C := Try.checked) own started (by kernel_rfl) Try.func4
    (ChangeSpec.witness6 (enc := enc) (C := Try.checked) false ⟨#[], #[.string ByteArray.empty, .string ByteArray.empty], []⟩ 8 (by kernel_rfl) (by kernel_rfl) (by kernel_rfl) (by kernel_rfl)) ?_
  intro W base args ds gs before hval0 hW hcnd _
  have hval : ∀ (j : Nat) t v, Try.f4.params[j]? = some t → args[j]? = some v → Value.okWide Try.prog W .any base t v := hval0
  have hW' := hW
  obtain ⟨p, q, hA0, hV, rfl, hfz, hnd⟩ := hW
  have hA : DataW.TrodAll enc Try.prog W 0 (fun _ => true) true Try.f4.params.toList args.toList ds p := hA0
  rw [Try.params4] at hA hval
  obtain ⟨v0, vs0, d0, ds0, p0, q0, hargs, rfl, rfl, h0, r0⟩ := trodAll_cons hA
  obtain ⟨v1, vs1, d1, ds1, p1, q1, rfl, rfl, rfl, h1, r1⟩ := trodAll_cons r0
  obtain ⟨rfl, rfl, rfl⟩ := trodAll_nil r1
  obtain rfl : args = #[v0, v1] := by cases args; simp_all
  obtain ⟨rfl, rfl⟩ := trodVars_none hV
  obtain ⟨a0, rfl, rfl, rfl, w0⟩ := open_string Try.underlying9 (hval 0 9 v0 rfl rfl) h0
  obtain ⟨a1, rfl, rfl, rfl, w1⟩ := open_string Try.underlying9 (hval 1 9 v1 rfl rfl) h1
  clear hA0 hval0
  refine (walk a0 a1 W w0 w1).mono fun e W' ⟨he, bel⟩ => ?_
  subst he
  exact ⟨_, rfl, _, _, _, [], _, [], hW', trodAll_mk1 (shut_bool Try.underlying4 _), (trodAll_cons_mk (shut_string Try.underlying9 w0) (trodAll_cons_mk (shut_string Try.underlying9 w1) trodAll_mk0)), rfl, bel.frame _, fun h => by cases h⟩

theorem joined : joinedFacts Try.prog 4 Try.f4 Rows.fnIsPackagePathFixedByDirectoryPartSpec Rows.fnIsPackagePathFixedByDirectoryPartRow = true := by
  unfold joinedFacts
  rw [Facts.enter, Facts.lifts, Facts.make]
  kernel_rfl

theorem over : Rows.fnIsPackagePathFixedByDirectoryPartRow.holds Try.pinned (OpenSpec.ofChange Rows.fnIsPackagePathFixedByDirectoryPartSpec) :=
  OpenClaim.holds_of_wide 4 Try.f4 rfl rfl rfl rfl rfl rfl rfl ⟨rfl, rfl, rfl, rfl, rfl⟩ rfl rfl rfl rfl rfl (by kernel_rfl) Try.func4 joined
    (of_decide_eq_true (by kernel_rfl)) (by unfold Func.isWrapper; first | (rw [if_pos (by decide +kernel)]; kernel_rfl) | (rw [if_neg (by decide +kernel)]; exact ⟨rfl, rfl⟩))
    (fun os started H enc _ => lifted os started H enc)

theorem proved : Rows.FnIsPackagePathFixedByDirectoryPartSaid :=
  over
#print axioms proved
end Go.Proofs.Ytanponbjfbgigab.fnIsPackagePathFixedByDirectoryPart
