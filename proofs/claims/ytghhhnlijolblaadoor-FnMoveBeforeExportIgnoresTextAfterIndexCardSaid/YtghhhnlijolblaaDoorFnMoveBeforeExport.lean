/- THE PROOF OF Rows.FnMoveBeforeExportIgnoresTextAfterIndexCardSaid: the answer at index len(a) is the same for a and for a followed by b. No condition. -/
import Derived.Test.YtghhhnlijolblaaDoorRows
import Derived.Test.YtghhhnlijolblaaDoorCards
import Derived.Test.YtghhhnlijolblaaDoorTie
import Derived.Test.YtghhhnlijolblaaDoorShelf
import Derived.Shelf.Strings.SlTrimAscii
import Derived.WalkKit
import Derived.ProofKit
import Derived.LaidMore
import Derived.Lay
import Derived.OpenShut
import Derived.ShutString
import Derived.Stop.Joined
import Derived.SevenTiedAt
import Derived.WalkSpells
import Derived.IntWalk
import Derived.RegionTactic
import Derived.Outline
import Derived.Lib.Hide
namespace Go.Proofs.YtghhhnlijolblaaDoor.mbe
open Go.ChangeShapes Go.WideShapes Go.ChangeAt Go.RowKit
open Go.ChangeMaps (open_string shut_string)
set_option linter.unusedVariables false

theorem own : ownKnob Tryd.prog.godebug = none := by kernel_rfl
theorem laidOut : laidOutB Tryd.prog = true := by kernel_rfl
def cut : ByteArray := ⟨#[32, 9, 13, 10]⟩
def tr (a : ByteArray) : ByteArray := ⟨(Lib.trimRightS a.data.toList cut.data.toList).toArray⟩
theorem len_dw (p : UInt8 → Bool) (l : List UInt8) : (l.dropWhile p).length ≤ l.length := by
  induction l with
  | nil => simp
  | cons a l ih =>
    rw [List.dropWhile_cons]
    split
    · simp only [List.length_cons]; omega
    · exact Nat.le_refl _
theorem ext_self (a : ByteArray) : a.extract 0 a.size = a := by
  apply ByteArray.ext
  rw [ByteArray.data_extract]
  exact Array.extract_size
theorem tr_size (a : ByteArray) : (tr a).size ≤ a.size := by
  show (Lib.trimRightS a.data.toList cut.data.toList).toArray.size ≤ a.data.toList.length
  rw [List.size_toArray]
  unfold Lib.trimRightS
  rw [List.length_reverse]
  refine Nat.le_trans (len_dw _ _) ?_
  simp
theorem trim (a : ByteArray) (w : World) (hs : a.size ≤ 1048576) : Calls Tryd.prog 7 #[.string a, .string ⟨#[32, 9, 13, 10]⟩] w fun e w' => e = .returned (.string (tr a)) ∧ Below w.heap.size w w' :=
  Any.strings_TrimRight_laid Tryd.lays162 (by kernel_rfl) a cut w (by omega) (by decide) (ascii_of_all (by decide))
theorem hsv (q : ByteArray) (v : Bool) (w : World) (hs : q.size ≤ 1048576) (h : Lib.hasSuffix q.data.toList [101, 120, 112, 111, 114, 116] = v) : Calls Tryd.prog 8 #[.string q, .string ⟨#[101, 120, 112, 111, 114, 116]⟩] w fun e w' => e = .returned (.bool v) ∧ w' = w :=
  (Tryd.strings_HasSuffix q ⟨#[101, 120, 112, 111, 114, 116]⟩ w (by omega)).mono fun e w' ⟨he, hw⟩ => ⟨by rw [he, ← h], hw⟩
/-- The answer, out of the text ahead of the index alone. -/
def res (a : ByteArray) : Int := if Lib.hasSuffix (tr a).data.toList [101, 120, 112, 111, 114, 116] = true then ((tr a).size : Int) - 6 else (a.size : Int)
theorem mb6 (t a : ByteArray) (w : World) (ht : t.size ≤ 1048576) (hl : a.size ≤ t.size) (hx : t.extract 0 a.size = a) : Calls Tryd.prog 6 #[.string t, .int .i64 a.size] w fun e w' => e = .returned (.int .i64 (res a)) ∧ Below w.heap.size w w' := by
  obtain ⟨n, hn⟩ : ∃ n, a.size = n := ⟨_, rfl⟩
  have hts := tr_size a
  obtain ⟨T, hT⟩ : ∃ T, tr a = T := ⟨_, rfl⟩
  rw [hT] at hts
  have CT := Lib.hid (trim a · (by omega))
  rw [hT] at CT
  have hn1 : n ≤ t.size := by omega
  have hz : T.size ≤ n := by omega
  have hn2 : n ≤ 1048576 := by omega
  rw [hn] at hx ⊢
  cases hv : Lib.hasSuffix T.data.toList [101, 120, 112, 111, 114, 116]
  · have HV := Lib.hid hv
    have HR := Lib.hid (show res a = (n : Int) by unfold res; rw [hT, if_neg (by rw [hv]; decide), hn])
    clear hn hT hv hts hl
    go_enter Tryd.func6, Tryd.ntmps6
    go_wp2_with fail
    refine (CT.out _).mono ?_
    rintro e w1 ⟨rfl, hb⟩
    have HB := Lib.hid hb
    clear hb
    go_wp2_with fail
    refine (hsv T false _ (by omega) HV.out).mono ?_
    rintro e w1 ⟨rfl, rfl⟩
    go_wp2_with fail
    go_ret
    exact ⟨by rw [HR.out]; rfl, HB.out⟩
  · have HV := Lib.hid hv
    have HR := Lib.hid (show res a = (T.size : Int) - 6 by unfold res; rw [hT, if_pos hv])
    clear hn hT hv hts hl
    go_enter Tryd.func6, Tryd.ntmps6
    go_wp2_with fail
    refine (CT.out _).mono ?_
    rintro e w1 ⟨rfl, hb⟩
    have HB := Lib.hid hb
    clear hb
    go_wp2_with fail
    refine (hsv T true _ (by omega) HV.out).mono ?_
    rintro e w1 ⟨rfl, rfl⟩
    go_wp2_with fail
    go_ret
    exact ⟨by rw [HR.out]; rfl, HB.out⟩
theorem mb5 (t a : ByteArray) (w : World) (ht : t.size ≤ 1048576) (hl : a.size ≤ t.size) (hx : t.extract 0 a.size = a) : Calls Tryd.prog 5 #[.string t, .int .i64 a.size] w fun e w' => e = .returned (.int .i64 (res a)) ∧ Below w.heap.size w w' := by
  have H := Lib.hid (mb6 t a · ht hl hx)
  clear ht hl hx
  generalize res a = r at H ⊢
  go_enter Tryd.func5, Tryd.ntmps5
  go_wp2_with fail
  refine (H.out _).mono ?_
  rintro e w1 ⟨rfl, hb⟩
  have HB := Lib.hid hb
  clear hb
  go_wp2_with fail
  go_ret
  exact ⟨rfl, HB.out⟩
def Bl (w : World) (e : Ending) (w' : World) : Prop := w' = w ∧ ∃ v, e = .returned (.bool v)
theorem zb (s0 : ByteArray) (s1 : ByteArray) (w : World) : Calls Tryd.prog 4 #[.string s0, .string s1] w (Bl w) := by
  by_cases h0 : (1048576 : Int) < (s0.size : Int)
  · go_enter Tryd.func4, Tryd.ntmps4
    go_wp2_with fail
    go_ret
    exact ⟨rfl, _, rfl⟩
  have e0 : IntKind.i64.wrap ((s0.size : Int)) = (s0.size : Int) := IntWalk.i64_in _ (by omega)
  by_cases h1 : (1048576 : Int) < (s1.size : Int)
  · go_enter Tryd.func4, Tryd.ntmps4
    go_wp2_with fail
    go_ret
    exact ⟨rfl, _, rfl⟩
  have e1 : IntKind.i64.wrap ((s0.size : Int) + (s1.size : Int)) = (s0.size : Int) + (s1.size : Int) := IntWalk.i64_in _ (by omega)
  by_cases g1 : (1048576 : Int) < (s0.size : Int) + (s1.size : Int)
  · go_enter Tryd.func4, Tryd.ntmps4
    go_wp2_with fail
    go_ret
    exact ⟨rfl, _, rfl⟩
  go_enter Tryd.func4, Tryd.ntmps4
  go_wp2_with fail
  go_ret
  exact ⟨rfl, _, rfl⟩
set_option maxHeartbeats 1000000 in
theorem walk (a b : ByteArray) (w : World) : Calls Tryd.prog 3 #[.string a, .string b] w fun e w' => e = .returned (.bool true) ∧ Below w.heap.size w w' := by
  go_enter Tryd.func3, Tryd.ntmps3
  go_wp2_with fail
  refine (zb a b _).mono ?_
  rintro e w ⟨rfl, v, rfl⟩
  cases v
  · go_wp2_with fail
    go_ret
    exact ⟨rfl, Below.refl _ _⟩
  by_cases g0 : (524288 : Int) < (a.size : Int)
  · go_wp2_with fail
    go_ret
    exact ⟨rfl, Below.refl _ _⟩
  by_cases g1 : (524288 : Int) < (b.size : Int)
  · go_wp2_with fail
    go_ret
    exact ⟨rfl, Below.refl _ _⟩
  have C1 := Lib.hid (mb5 (a ++ b) a · (by simp; omega) (by simp) (ByteArray.extract_append_eq_left rfl))
  have C2 := Lib.hid (mb5 a a · (by omega) (Nat.le_refl _) (ext_self a))
  generalize res a = r at C1 C2
  go_wp2_with fail
  refine (C1.out _).mono ?_
  rintro e w1 ⟨rfl, hb1⟩
  have B1 := Lib.hid hb1
  clear hb1
  go_wp2_with fail
  refine (C2.out _).mono ?_
  rintro e w2 ⟨rfl, hb2⟩
  have B2 := Lib.hid hb2
  clear hb2
  go_wp2_with fail
  go_ret
  exact ⟨by simp, B1.out.trans (B2.out.mono B1.out.size)⟩
def laid : List (String × DataW Unit) := [("unicode/utf8.acceptRanges", Rows.laid_unicode_utf8_acceptRanges), ("unicode/utf8.first", Rows.laid_unicode_utf8_first)]

set_option maxRecDepth 100000 in
theorem lifted (os : Os) (started : os.Started) (H : Type) (enc : TypeId × Value → H) :
    ReturnsInHanded {} Tryd.checked os 3 .any (fun w args => (Rows.fnMoveBeforeExportIgnoresTextAfterIndexSpec.pre enc Tryd.prog Tryd.f3 [] false w args ∧ laidMetH Tryd.prog laid w) ∧ sizedMet enc Tryd.prog Tryd.f3 (OpenSpec.ofChange Rows.fnMoveBeforeExportIgnoresTextAfterIndexSpec) false w args)
      (Rows.fnMoveBeforeExportIgnoresTextAfterIndexSpec.post enc Tryd.prog Tryd.f3 false true false false) := by
  refine returnsInHanded_of_change_and (C := Tryd.checked) (X := fun w _ => laidMetH Tryd.prog laid w) (fun _ _ _ hh h => h.of_heap hh) own started (by kernel_rfl) Tryd.func3
    (ChangeSpec.witness_shaped (enc := enc) (C := Tryd.checked) (os := os) (X := fun w _ => laidMetH Tryd.prog laid w) false (World.laidAll Tryd.prog os laid) #[.string ByteArray.empty, .string ByteArray.empty] 8 (World.laidAll_os _ _ _)
      (World.shaped_of_ZipB (by kernel_rfl) (by kernel_rfl)) (by kernel_rfl) (by kernel_rfl) (by kernel_rfl)
      (by rw [MakeChecks.laidMetH_plain _ _ _ (by kernel_rfl)]; exact laidMet_laidAll _ (by kernel_rfl) (by kernel_rfl))) ?_
  intro W base args ds gs before hval0 hW _ _ hL _
  have hval : ∀ (j : Nat) t v, Tryd.f3.params[j]? = some t → args[j]? = some v → Value.okWide Tryd.prog W .any base t v := hval0
  have hW' := hW
  obtain ⟨p, q, hA0, hV, rfl, hfz, hnd⟩ := hW
  have hA : DataW.TrodAll enc Tryd.prog W 0 (fun _ => true) true Tryd.f3.params.toList args.toList ds p := hA0
  rw [Tryd.params3] at hA hval
  obtain ⟨v0, vs0, d0, ds0, p0, q0, hargs, rfl, rfl, h0, r0⟩ := trodAll_cons hA
  obtain ⟨v1, vs1, d1, ds1, p1, q1, rfl, rfl, rfl, h1, r1⟩ := trodAll_cons r0
  obtain ⟨rfl, rfl, rfl⟩ := trodAll_nil r1
  obtain rfl : args = #[v0, v1] := by cases args; simp_all
  obtain ⟨rfl, rfl⟩ := trodVars_none hV
  obtain ⟨a0, rfl, rfl, rfl, w0⟩ := open_string Tryd.underlying9 (hval 0 9 v0 rfl rfl) h0
  obtain ⟨a1, rfl, rfl, rfl, w1⟩ := open_string Tryd.underlying9 (hval 1 9 v1 rfl rfl) h1
  clear hA0 hval0
  refine (walk a0 a1 W).mono fun e W' ⟨he, bel⟩ => ?_
  subst he
  exact ⟨_, rfl, _, _, _, [], _, [], hW', trodAll_mk1 (shut_bool Tryd.underlying4 _), (trodAll_cons_mk (shut_string Tryd.underlying9 w0) (trodAll_cons_mk (shut_string Tryd.underlying9 w1) trodAll_mk0)), rfl, bel.frame _, fun h => by cases h⟩
theorem over : Rows.FnMoveBeforeExportIgnoresTextAfterIndexSaid :=
  OpenClaim.holds_of_wide 3 Tryd.f3 rfl rfl rfl rfl rfl rfl rfl ⟨rfl, rfl, rfl, rfl, rfl⟩ rfl rfl rfl rfl rfl (by kernel_rfl) Tryd.func3 (by kernel_rfl)
    (of_decide_eq_true (by kernel_rfl)) (by unfold Func.isWrapper; first | (rw [if_pos (by decide +kernel)]; kernel_rfl) | (rw [if_neg (by decide +kernel)]; exact ⟨rfl, rfl⟩))
    (fun os started H enc _ => lifted os started H enc)
theorem proved : Rows.FnMoveBeforeExportIgnoresTextAfterIndexCardSaid :=
  Claim7.holds_tied_plain_at .later [] [.data, .pinned] true (true, "5f8cebe1d1675af7b2d31303ad5513ed546e43931c8cb67c6fb7fc1b063fa93f") false
    over (fun _ h => by cases h) (by kernel_rfl) (fun _ h => by cases h) fnMoveBeforeExportIgnoresTextAfterIndex_row_tie rfl ⟨rfl, rfl⟩ (by kernel_rfl) rfl
    (fun f fn hf hfn => by
      obtain rfl : f = 3 := Option.some.inj ((show Tryd.prog.funcNamed "github.com/evanw/esbuild/n011_135.FnMoveBeforeExportIgnoresTextAfterIndex" = some 3 by kernel_rfl).symm.trans hf) |>.symm
      obtain rfl : fn = Tryd.f3 := (Option.some.inj (Tryd.func3.symm.trans hfn)).symm
      exact ⟨by kernel_rfl, fun j t ht => by
        rw [Tryd.params3] at ht
        have hm : t ∈ [9, 9] := by simpa using Array.mem_of_getElem? ht
        have hall : ([9, 9].all fun u => !Tryd.prog.wantsStandIn u) = true := by kernel_rfl
        exact (show Tryd.prog.wantsStandIn t = false by simpa using List.all_eq_true.1 hall t hm)⟩)
    (by kernel_rfl)
#print axioms proved
end Go.Proofs.YtghhhnlijolblaaDoor.mbe
