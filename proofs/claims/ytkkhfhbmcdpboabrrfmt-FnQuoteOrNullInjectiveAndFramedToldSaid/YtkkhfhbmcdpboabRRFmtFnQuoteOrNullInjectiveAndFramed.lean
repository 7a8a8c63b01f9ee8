/- Different texts are quoted differently; the empty one alone gives null; every other stands between quotes, two bytes longer at least. fmt's text is told by the authors' Lean function; no condition. -/
import Derived.Test.YtkkhfhbmcdpboabRRFmtRows
import Derived.Test.YtkkhfhbmcdpboabRRFmtCards
import Derived.WalkKit
import Derived.ProofKit
import Derived.OpenShut
import Derived.ShutString
import Derived.Stop.JoinedAt
import Derived.Stop.Texts
import Derived.Stop.JoinedTold
import Derived.SizedLaws
import Derived.SevenToldRow
import Derived.Test.YtkkhfhbmcdpboabRRFmtAid
import Derived.Test.YtkkhfhbmcdpboabRRFmtStr
import Derived.Test.YtkkhfhbmcdpboabRRFmtQt
import Derived.WalkSpells
import Derived.IntWalk
import Derived.Outline
import Derived.Stop.CallBack
import Derived.Stop.IfaceNil
import GoSem.ClaimData
import Derived.Stop.Texts
import Derived.Stop.JoinedTold
import Derived.Stop.FmtTextKit
import Derived.Stop.FmtTextVerbs
namespace Go.Proofs.YtkkhfhbmcdpboabRRFmt.fnQuoteOrNullInjectiveAndFramed
open Go.ChangeShapes Go.WideShapes Go.ChangeAt Go.RowKit
open Go.ChangeMaps (open_string shut_string)
set_option linter.unusedVariables false

theorem own : ownKnob Tryf.prog.godebug = none := by kernel_rfl
theorem laidOut : laidOutB Tryf.prog = true := by kernel_rfl

open Str PlainAid
open Go.Extern.Stop Go.Stop Go.Extern Go.Kit
theorem Tryf.call9 (args : Array Value) (w : World) : (callFunc 9 args).run Tryf.prog w = ((FmtStop.sprintf #[9, 42] #[9] args).run Tryf.prog w).andThen fun v w' => .ok (.value v) w' :=
  run_callFunc_extern Tryf.func9 (by kernel_rfl) (by kernel_rfl) (by kernel_rfl) (by kernel_rfl) args w
theorem Tryf.guardN (name : String) (w : World) : (FmtStop.guard name).run Tryf.prog w = .ok () w := by kernel_rfl
theorem Tryf.fmtq : FmtStop.printed? ⟨#[37, 113]⟩ 1 = some [(0, 113, false)] := by kernel_rfl
theorem Tryf.fmtqr (w : World) : (FmtDoors.printed ⟨#[37, 113]⟩ 1).run Tryf.prog w = .ok [(0, 113, false)] w := by kernel_rfl
def Tryf.shape9 : List UInt8 := [12, 6, 0, 0, 0, 0, 0, 0, 0, 115, 116, 114, 105, 110, 103]
theorem Tryf.op9 (name : String) (x : ByteArray) (w : World) : (FmtStop.operand name false 113 false (.iface 9 (.string x))).run Tryf.prog w = .ok (Tryf.shape9, FmtStop.pack x.data.toList) w := by kernel_rfl
theorem q_parse : (FmtText.parse [37, 113]).map FmtText.glue = some [.verb {} 113] := by rfl
def reading (s : List UInt8) : List (List UInt8) := [[37, 113], Tryf.shape9, FmtStop.pack s]
theorem q_text (s : List UInt8) (hs : s.length < 2 ^ 64) : FmtText.text "fmt.Sprintf" (reading s) = some (FmtText.quote false s) := by
  have hn := FmtText.operand_str_at (sh := Tryf.shape9) rfl rfl s hs
  rw [reading, FmtText.text_sprintf_glued q_parse (FmtText.operands_cons hn FmtText.operands_nil)]
  simp [FmtText.render, FmtText.printArg_q_str]
def nullS : ByteArray := ⟨#[110, 117, 108, 108]⟩
def qs (s : ByteArray) : ByteArray := if s.size = 0 then nullS else ⟨(FmtText.quote false s.data.toList).toArray⟩
theorem q_told (F : Interp) (s : ByteArray) (hs : s.size ≤ 1048576) (h0 : s.size ≠ 0) : FmtStop.textOf (F.told "fmt.Sprintf" (reading s.data.toList) 0) = qs s := by
  unfold qs
  rw [if_neg h0]
  apply WideShapes.bytes_inj
  have hl := FmtText.quote_length_le s.data.toList
  have hn : s.data.toList.length = s.size := rfl
  have ht := told_string F (q_text s.data.toList (by omega)) (by omega)
  rw [textOf_list, ht]
theorem qs_nil {s : ByteArray} (h : s.size = 0) : qs s = nullS := by unfold qs; rw [if_pos h]
theorem qs_data {s : ByteArray} (h : s.size ≠ 0) : (qs s).data.toList = FmtText.quote false s.data.toList := by unfold qs; rw [if_neg h]
theorem qs_inj {a b : ByteArray} (h : qs a = qs b) : a = b := by
  by_cases ha : a.size = 0
  · by_cases hb : b.size = 0
    · rw [Aid.empty_of a ha, Aid.empty_of b hb]
    · have h2 := congrArg (fun x : ByteArray => x.data.toList[0]?) h
      simp only [qs_nil ha, qs_data hb, Qt.quote_head] at h2
      exact absurd h2 (by decide)
  · by_cases hb : b.size = 0
    · have h2 := congrArg (fun x : ByteArray => x.data.toList[0]?) h
      simp only [qs_nil hb, qs_data ha, Qt.quote_head] at h2
      exact absurd h2 (by decide)
    · apply WideShapes.bytes_inj
      apply Qt.quote_inj
      rw [← qs_data ha, ← qs_data hb, h]
theorem qs_size {s : ByteArray} (h : s.size ≠ 0) : s.size + 2 ≤ (qs s).size ∧ (qs s).size ≤ 10 * s.size + 2 := by
  have e : (qs s).size = (qs s).data.toList.length := rfl
  have hn : s.data.toList.length = s.size := rfl
  rw [e, qs_data h, ← hn]
  exact ⟨Qt.quote_len _, FmtText.quote_length_le _⟩
theorem qs_first {s : ByteArray} (h : s.size ≠ 0) : bt (qs s) 0 = 34 := by
  have hz := (qs_size h).1
  rw [bt_get _ 0 (by omega)]
  have h2 := Qt.quote_head s.data.toList
  rw [← qs_data h] at h2
  obtain ⟨_, h3⟩ := List.getElem?_eq_some_iff.1 h2
  rw [h3]; rfl
theorem qs_last {s : ByteArray} (h : s.size ≠ 0) : bt (qs s) ((qs s).size - 1) = 34 := by
  have hz := (qs_size h).1
  rw [bt_get _ _ (by omega)]
  have h2 := Qt.quote_last s.data.toList
  rw [← qs_data h] at h2
  obtain ⟨_, h3⟩ := List.getElem?_eq_some_iff.1 h2
  have e : (qs s).data.toList.length - 1 = (qs s).size - 1 := rfl
  simp only [e] at h3
  rw [h3]; rfl
def Qd (s : ByteArray) (w : World) (e : Ending) (w' : World) : Prop := e = .returned (.string (qs s)) ∧ Below w.heap.size w w'
theorem quo8 (F : Interp) (s : ByteArray) (w : World) (hF : F.told.answers w.tape) (hs : s.size ≤ 1048576) : Calls Tryf.prog 8 #[.string s] w (Qd s w) := by
  by_cases h0 : s.size = 0
  · obtain rfl := Aid.empty_of s h0
    have HQ := Lib.hid (qs_nil h0)
    clear h0
    go_enter Tryf.func8, Tryf.ntmps8
    go_wp2_with fail
    go_ret
    exact ⟨by rw [HQ.out]; rfl, Below.refl _ _⟩
  · have HT := Lib.hid (q_told F s hs h0)
    have hne := Aid.nonempty_of s h0
    have hne2 := Aid.toList_ne s h0
    have hne3 : (!s.toList.isEmpty) = true := by rw [hne]; rfl
    clear h0
    have hF' := answers_open hF
    have hc := Tryf.call9
    have hg := Tryf.guardN
    have hp := Tryf.fmtq
    have hp2 := Tryf.fmtqr
    have ho := Tryf.op9
    go_enter Tryf.func8, Tryf.ntmps8
    go_wp2
    go_ret
    refine ⟨?_, ((Below.refl _ w).alloc (Nat.le_refl _) _).drew⟩
    rw [← HT.out]
    rfl
theorem quo6 (F : Interp) (s : ByteArray) (w : World) (hF : F.told.answers w.tape) (hs : s.size ≤ 1048576) : Calls Tryf.prog 6 #[.string s] w (Qd s w) := by
  have HC := Lib.hid (quo8 F s w hF hs)
  clear hF
  go_enter Tryf.func6, Tryf.ntmps6
  go_wp2_with fail
  refine HC.out.mono ?_
  rintro e w1 ⟨rfl, hb⟩
  have HB := Lib.hid hb
  clear hb
  go_wp2_with fail
  go_ret
  exact ⟨rfl, HB.out⟩
theorem one5 (s : ByteArray) (w : World) (hs : s.size ≤ 1048576) : Calls Tryf.prog 5 #[.string s] w fun e w' => e = .returned (.int .i64 s.size) ∧ w = w' := by
  go_enter Tryf.func5, Tryf.ntmps5
  go_wp2_with fail
  go_ret
  exact ⟨rfl, rfl⟩
theorem fr7 (s : ByteArray) (w : World) (hs : s.size ≤ 1048576) : Calls Tryf.prog 7 #[.string s, .string (qs s)] w fun e w' => e = .returned (.bool true) ∧ w = w' := by
  by_cases h0 : s.size = 0
  · obtain rfl := Aid.empty_of s h0
    rw [qs_nil h0]
    have hn : (nullS.toList == [110, 117, 108, 108]) = true := by rw [ByteArray.toList_eq]; rfl
    clear h0
    go_enter Tryf.func7, Tryf.ntmps7
    go_wp2_with fail
    go_ret
    exact ⟨rfl, rfl⟩
  · have hne := Aid.nonempty_of s h0
    have hne2 := Aid.toList_ne s h0
    obtain ⟨z1, z2⟩ := qs_size h0
    have f1 := qs_first h0
    have f2 := qs_last h0
    generalize qs s = q at *
    clear h0
    have hbt := get_bt q
    have i1 : (s.size : Int) + 2 ≤ (q.size : Int) := by omega
    have i2 : 0 < q.size := by omega
    have i3 : q.size - 1 < q.size := by omega
    have i4 : (0 : Int) < (q.size : Int) := by omega
    have i5 : (q.size : Int) ≤ 20000000 := by omega
    have g1 : (bt q 0 == 34) = true := by simp [f1]
    have g2 : (bt q (q.size - 1) == 34) = true := by simp [f2]
    clear f1 f2
    go_enter Tryf.func7, Tryf.ntmps7
    go_wp2_with fail
    go_ret
    exact ⟨rfl, rfl⟩
def Bl (m : Nat) (w : World) (e : Ending) (w' : World) : Prop := w' = w ∧ ∃ v, e = .returned (.bool v) ∧ (v = true → m ≤ 1048576)
theorem zb4 (s0 : ByteArray) (s1 : ByteArray) (w : World) (m0 : s0.size ≤ maxLen) (m1 : s1.size ≤ maxLen) : Calls Tryf.prog 4 #[.string s0, .string s1] w (Bl (s0.size + s1.size) w) := by
  unfold maxLen at m0 m1
  by_cases h0 : (1048576 : Int) < (s0.size : Int)
  · go_enter Tryf.func4, Tryf.ntmps4
    go_wp2_with fail
    go_ret
    exact ⟨rfl, _, rfl, fun e => by cases e⟩
  have e0 : IntKind.i64.wrap ((s0.size : Int)) = (s0.size : Int) := IntWalk.i64_in _ (by omega)
  by_cases h1 : (1048576 : Int) < (s1.size : Int)
  · go_enter Tryf.func4, Tryf.ntmps4
    go_wp2_with fail
    go_ret
    exact ⟨rfl, _, rfl, fun e => by cases e⟩
  have e1 : IntKind.i64.wrap ((s0.size : Int) + (s1.size : Int)) = (s0.size : Int) + (s1.size : Int) := IntWalk.i64_in _ (by omega)
  by_cases g1 : (1048576 : Int) < (s0.size : Int) + (s1.size : Int)
  · go_enter Tryf.func4, Tryf.ntmps4
    go_wp2_with fail
    go_ret
    exact ⟨rfl, _, rfl, fun e => by cases e⟩
  go_enter Tryf.func4, Tryf.ntmps4
  go_wp2_with fail
  go_ret
  exact ⟨rfl, _, rfl, fun _ => by omega⟩
theorem main (F : Interp) (a b : ByteArray) (w : World) (hF : F.told.answers w.tape) (ha : a.size ≤ maxLen) (hb : b.size ≤ maxLen) :
    Calls Tryf.prog 3 #[.string a, .string b] w fun e w' => e = .returned (.bool true) ∧ Below w.heap.size w w' := by
  have HF := Lib.hid hF
  clear hF
  go_enter Tryf.func3, Tryf.ntmps3
  go_wp2_with fail
  refine (zb4 a b _ ha hb).mono ?_
  rintro e w1 ⟨rfl, v, rfl, hv⟩
  have HV := Lib.hid hv
  clear hv ha hb
  cases v
  · go_wp2_with fail
    go_ret
    exact ⟨rfl, Below.refl _ _⟩
  have hsum := HV.out rfl
  clear HV
  have ha : a.size ≤ 1048576 := by omega
  have hb : b.size ≤ 1048576 := by omega
  have e1 : IntKind.i64.wrap ((a.size : Int) + (b.size : Int)) = (a.size : Int) + (b.size : Int) := IntWalk.i64_in _ (by omega)
  have hs2 : ¬ (1048576 : Int) < (a.size : Int) + (b.size : Int) := by omega
  go_wp2_with (go_at_call 5; ((with_reducible refine (one5 _ _ (by assumption)).mono ?_); rintro e w' ⟨rfl, rfl⟩))
  refine (quo6 F a _ HF.out ha).mono ?_
  rintro e w1 ⟨rfl, hb1⟩
  have HF1 := Lib.hid (show F.told.answers w1.tape by rw [hb1.tape]; exact HF.out)
  have B1 := Lib.hid hb1
  clear hb1
  go_wp2_with fail
  refine (quo6 F b _ HF1.out hb).mono ?_
  rintro e w2 ⟨rfl, hb2⟩
  have B2 := Lib.hid (B1.out.trans (hb2.mono B1.out.size))
  clear hb2
  by_cases heq : a = b
  · subst heq
    go_wp2_with (go_at_call 7; ((with_reducible refine (fr7 _ _ ha).mono ?_); rintro e w' ⟨rfl, rfl⟩))
    go_ret
    exact ⟨rfl, B2.out⟩
  · have c1 : (a.toList == b.toList) = false := by
      simp only [ByteArray.toList_eq, beq_eq_false_iff_ne]
      exact fun e => heq (WideShapes.bytes_inj e)
    have c2 : ((qs a).toList == (qs b).toList) = false := by
      simp only [ByteArray.toList_eq, beq_eq_false_iff_ne]
      exact fun e => heq (qs_inj (WideShapes.bytes_inj e))
    clear heq
    go_wp2_with (first | (go_at_call 7; ((with_reducible refine (fr7 a _ ha).mono ?_); rintro e w' ⟨rfl, rfl⟩)) | (go_at_call 7; ((with_reducible refine (fr7 b _ hb).mono ?_); rintro e w' ⟨rfl, rfl⟩)))
    go_ret
    exact ⟨rfl, B2.out⟩

open Go.Extern.Stop Go.Stop Go.Extern Go.Kit
set_option maxHeartbeats 2000000 in
theorem walk (F : Interp) (a0 : ByteArray) (a1 : ByteArray) (w : World) (hF : F.told.answers w.tape) (w0 : a0.size ≤ maxLen) (w1 : a1.size ≤ maxLen) :
    Calls Tryf.prog 3 #[.string a0, .string a1] w fun e w' => e = .returned (.bool true) ∧ Below w.heap.size w w' := by
  exact main F a0 a1 w hF w0 w1

set_option maxRecDepth 100000 in
theorem lifted (os : Os) (started : os.Started) (H : Type) (enc : TypeId × Value → H) :
    ReturnsInTold none {} Tryf.checked os 3 .any Input.okWide ((OpenSpec.ofChange Rows.fnQuoteOrNullInjectiveAndFramedSpec).preRow enc Tryf.prog Tryf.f3 [] false []) (fun F => ((OpenSpec.ofChange Rows.fnQuoteOrNullInjectiveAndFramedSpec).at F).post enc Tryf.prog Tryf.f3 false true false false) (aloneAtReturn Tryf.prog) nothingAlways := by
  refine returnsInTold_of_row (C := Tryf.checked) (s := OpenSpec.ofChange Rows.fnQuoteOrNullInjectiveAndFramedSpec) (by kernel_rfl) own started (by kernel_rfl) Tryf.func3
    (OpenSpec.witness_stopped (enc := enc) (C := Tryf.checked) false ⟨#[], #[.string ByteArray.empty, .string ByteArray.empty], []⟩ 8 (by kernel_rfl) (by kernel_rfl) (by kernel_rfl) (by kernel_rfl)) ?_
  intro F W base args ds gs before _ hF hval0 hW _ _ _ _ _
  have hval : ∀ (j : Nat) t v, Tryf.f3.params[j]? = some t → args[j]? = some v → Value.okWide Tryf.prog W .any base t v := hval0
  have hW' := hW
  obtain ⟨p, q, hA0, hV, rfl, hfz, hnd⟩ := hW
  have hA : DataW.TrodAll enc Tryf.prog W 0 (fun _ => true) true Tryf.f3.params.toList args.toList ds p := hA0
  rw [Tryf.params3] at hA hval
  obtain ⟨v0, vs0, d0, ds0, p0, q0, hargs, rfl, rfl, h0, r0⟩ := trodAll_cons hA
  obtain ⟨v1, vs1, d1, ds1, p1, q1, rfl, rfl, rfl, h1, r1⟩ := trodAll_cons r0
  obtain ⟨rfl, rfl, rfl⟩ := trodAll_nil r1
  obtain rfl : args = #[v0, v1] := by cases args; simp_all
  obtain ⟨rfl, rfl⟩ := trodVars_none hV
  obtain ⟨a0, rfl, rfl, rfl, w0⟩ := open_string Tryf.underlying9 (hval 0 9 v0 rfl rfl) h0
  obtain ⟨a1, rfl, rfl, rfl, w1⟩ := open_string Tryf.underlying9 (hval 1 9 v1 rfl rfl) h1
  clear hA0 hval0
  refine (walk F a0 a1 W hF w0 w1).mono fun e W' ⟨he, bel⟩ => ?_
  subst he
  exact ⟨_, rfl, _, _, _, [], _, [], hW', trodAll_mk1 (shut_bool Tryf.underlying4 _), (trodAll_cons_mk (shut_string Tryf.underlying9 w0) (trodAll_cons_mk (shut_string Tryf.underlying9 w1) trodAll_mk0)), rfl, bel.frame _, fun h => by cases h⟩

theorem stops : Tryf.pinned.checked.prog.stops = ["fmt.Sprintf"] := by kernel_rfl
theorem stopKnobs : Tryf.pinned.checked.prog.stopKnobs = [] := by kernel_rfl
theorem quiet_ (os : Os) : Stop.quiet Tryf.pinned.checked.prog os := by
  intro k hk
  rw [stopKnobs] at hk
  cases hk

theorem proved : Rows.FnQuoteOrNullInjectiveAndFramedToldSaid :=
  Claim7.holds_of_told_any 3 Tryf.f3 "fmt.Sprintf" [] [] _ _ _ (by kernel_rfl) rfl rfl rfl laidOut (by kernel_rfl) rfl ⟨rfl, rfl, rfl, rfl, rfl, rfl, rfl⟩ rfl rfl (by kernel_rfl) (by kernel_rfl) Tryf.func3 (by kernel_rfl)
    (of_decide_eq_true (by kernel_rfl)) (by unfold Func.isWrapper; first | (rw [if_pos (by decide +kernel)]; kernel_rfl) | (rw [if_neg (by decide +kernel)]; exact ⟨rfl, rfl⟩)) stops.symm rfl stopKnobs.symm (by kernel_rfl)
    (by kernel_rfl) (by kernel_rfl) (by kernel_rfl) (by kernel_rfl) (by kernel_rfl) (by kernel_rfl) (by kernel_rfl) (by kernel_rfl) (by kernel_rfl) rfl (by kernel_rfl) rfl rfl
    rfl rfl
    rfl (by kernel_rfl) (by kernel_rfl) (by kernel_rfl) (by decide) (by kernel_rfl)
    (OpenClaim.moreEntering_of (by kernel_rfl) (by kernel_rfl) (by kernel_rfl) (by kernel_rfl) (by kernel_rfl) (by kernel_rfl) (by kernel_rfl) (by kernel_rfl) (by kernel_rfl) (by kernel_rfl))
    ⟨_, WideRow.started_initial, quiet_ _⟩
    (fun os started _ H enc _ => lifted os started H enc)
#print axioms proved
end Go.Proofs.YtkkhfhbmcdpboabRRFmt.fnQuoteOrNullInjectiveAndFramed
