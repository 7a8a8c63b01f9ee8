/- For durations a <= b within 2^50 ns the TimeInMS reported for a is at most that reported for b; a handler without a hook returns even when handed a nil request. No condition. -/
import Derived.Test.YtpgchpfdeefloabRows
import Derived.WalkKit
import Derived.ProofKit
import Derived.OpenShut
import Derived.ShutString
import Derived.Test.YtpgchpfdeefloabFacts
import Derived.Test.YtpgchpfdeefloabAid
import Derived.WalkSpells
import Derived.WalkLawsBesides
import Derived.Outline
import Derived.RegionTactic
import Derived.ChangeAlike
import Derived.StillTailTactics
import Derived.Deep.QuietTactic
import Derived.BigQuiet
namespace Go.Proofs.Ytpgchpfdeefloab.fnNotifyRequestTimeMonotoneAndHooklessIgnoresRequest
open Go.ChangeShapes Go.WideShapes Go.ChangeAt Go.RowKit
open Go.ChangeMaps (open_string shut_string)
set_option linter.unusedVariables false

theorem own : ownKnob Try.prog.godebug = none := by kernel_rfl
theorem laidOut : laidOutB Try.prog = true := by kernel_rfl

theorem ms (d : Int) (w : World) (h : -1125899906842624 ≤ d ∧ d ≤ 1125899906842624) : Calls Try.prog 34 #[.int .i64 d] w fun e w' => e = .returned (.int .i64 (d.tdiv 1000000)) ∧ w' = w := by
  go_enter Try.func34, Try.ntmps34
  go_wp2
  go_ret
  exact ⟨rfl, rfl⟩
theorem fn_ne (a b : Value) (w : World) : (binOp .neq 137 (.func (Fn.func 30) #[] #[a, b]) .nilFunc).run Try.prog w = .ok (.bool true) w := by kernel_rfl
theorem fn_nil (w : World) : (binOp .neq 137 .nilFunc .nilFunc).run Try.prog w = .ok (.bool false) w := by kernel_rfl
structure Got (w : World) (g c : Nat) (v0 v1 v2 v3 v4 : Value) (n : Int) : Prop where
  c0 : w.cell? ⟨g, 0, none⟩ = some v0
  c1 : w.cell? ⟨g, 1, none⟩ = some v1
  c2 : w.cell? ⟨g, 2, none⟩ = some v2
  c3 : w.cell? ⟨g, 3, none⟩ = some v3
  c4 : w.cell? ⟨g, 4, none⟩ = some v4
  z0 : w.frozen? ⟨g, 0, none⟩ = false
  z1 : w.frozen? ⟨g, 1, none⟩ = false
  z2 : w.frozen? ⟨g, 2, none⟩ = false
  z3 : w.frozen? ⟨g, 3, none⟩ = false
  z4 : w.frozen? ⟨g, 4, none⟩ = false
  d0 : w.cell? ⟨c, 0, none⟩ = some (.int .i64 n)
  y0 : w.frozen? ⟨c, 0, none⟩ = false
  hne : g ≠ c
  hg : g < w.heap.size
  hc : c < w.heap.size
def Hooked (w : World) (B g c : Nat) (s0 s1 s2 : ByteArray) (st t n : Int) (e : Ending) (w' : World) : Prop :=
  e = .returned (.tuple #[]) ∧ Got w' g c (.string s0) (.string s1) (.string s2) (.int .i64 st) (.int .i64 t) (n + 1) ∧ Below B w w'
set_option maxRecDepth 100000 in
theorem hook (B g c : Nat) (s0 s1 s2 : ByteArray) (st t n : Int) (v0 v1 v2 v3 v4 : Value) (w : World) (G : Got w g c v0 v1 v2 v3 v4 n) (hn : 0 ≤ n ∧ n ≤ 5) (hB : B ≤ g) (hB' : B ≤ c) :
    Calls Try.prog 30 #[.agg #[.string s0, .string s1, .string s2, .int .i64 st, .int .i64 t], .pointer (some ⟨g, 0, none⟩), .pointer (some ⟨c, 0, none⟩)] w (Hooked w B g c s0 s1 s2 st t n) := by
  obtain ⟨c0, c1, c2, c3, c4, z0, z1, z2, z3, z4, d0, y0, hne, hg, hc⟩ := G
  have hne' : ¬ c = g := fun h => hne h.symm
  have hs : ∀ (a : Addr) (v : Value) (x : World), (x.setCell a v).heap.size = x.heap.size := fun a v x => by simp [World.setCell]
  go_enter Try.func30, Try.ntmps30
  go_wp2
  go_end0
  refine ⟨rfl, ⟨by go_simp, by go_simp, by go_simp, by go_simp, by go_simp, by go_simp, by go_simp, by go_simp, by go_simp, by go_simp, by go_simp, by go_simp, hne, by simp; omega, by simp; omega⟩, ?_⟩
  refine Below.alloc ?_ (by simp; omega) _
  iterate 6 (refine Below.setCell ?_ (by simp; omega) _)
  exact Below.refl _ _
set_option maxRecDepth 100000 in
theorem nohook (d st : Int) (w : World) : Calls Try.prog 16 #[.int .i64 st, .int .i64 d] w fun e w' => e = .returned (.tuple #[]) ∧ Below w.heap.size w w' := by
  have hfn := fn_nil
  go_enter Try.func16, Try.ntmps16
  go_wp2_with (go_at_call 29; go_in)
  go_end0
  go_wp2_with fail
  go_end0
  exact ⟨rfl, by repeat (first | exact Below.refl _ _ | apply Below.drew | (refine Below.alloc ?_ (by simp; try omega) _))⟩
set_option maxRecDepth 100000 in
set_option maxHeartbeats 1000000 in
theorem notify (B h r u g c : Nat) (s0 s1 s2 : ByteArray) (st d n : Int) (v0 v1 v2 v3 v4 : Value) (w : World) (G : Got w g c v0 v1 v2 v3 v4 n) (hn : 0 ≤ n ∧ n ≤ 5) (hB : B ≤ g) (hB' : B ≤ c) (hd : -1125899906842624 ≤ d ∧ d ≤ 1125899906842624)
    (f0 : w.cell? ⟨h, 0, none⟩ = some (.func (Fn.func 30) #[] #[.pointer (some ⟨g, 0, none⟩), .pointer (some ⟨c, 0, none⟩)]))
    (r16 : w.cell? ⟨r, 16, none⟩ = some (.string s0)) (r0 : w.cell? ⟨r, 0, none⟩ = some (.string s1)) (r1 : w.cell? ⟨r, 1, none⟩ = some (.pointer (some ⟨u, 0, none⟩))) (u4 : w.cell? ⟨u, 4, none⟩ = some (.string s2)) :
    Calls Try.prog 29 #[.pointer (some ⟨h, 0, none⟩), .int .i64 d, .pointer (some ⟨r, 0, none⟩), .int .i64 st] w (Hooked w B g c s0 s1 s2 st (d.tdiv 1000000) n) := by
  have G' : Hid (Got w.drew g c v0 v1 v2 v3 v4 n) := ⟨G.c0, G.c1, G.c2, G.c3, G.c4, G.z0, G.z1, G.z2, G.z3, G.z4, G.d0, G.y0, G.hne, G.hg, G.hc⟩
  have hfn := fn_ne
  go_enter Try.func29, Try.ntmps29
  go_wp2_with fail
  go_still_tail 23, (by kernel_rfl)
  still_call (ms d w.drew hd)
  repeat still_step
  try refine wpStill_nil ?_
  go_wp2_with (go_at_call 30; ((with_reducible refine (hook B g c s0 s1 s2 st (d.tdiv 1000000) n v0 v1 v2 v3 v4 _ G'.out hn hB hB').mono ?_); rintro e w1 ⟨rfl, g1, b1⟩))
  go_end0
  exact ⟨rfl, g1, ⟨b1.os, b1.tape, b1.output, b1.size, b1.block⟩⟩
def Rec (w : World) (s0 s1 s2 : ByteArray) (st t : Int) (e : Ending) (w' : World) : Prop :=
  e = .returned (.tuple #[.agg #[.string s0, .string s1, .string s2, .int .i64 st, .int .i64 t], .int .i64 1]) ∧ Below w.heap.size w w'
set_option maxRecDepth 100000 in
set_option maxHeartbeats 2000000 in
theorem rec17 (s0 s1 s2 : ByteArray) (st d : Int) (w : World) (h : -1125899906842624 ≤ d ∧ d ≤ 1125899906842624) :
    Calls Try.prog 17 #[.string s0, .string s1, .string s2, .int .i64 st, .int .i64 d] w (Rec w s0 s1 s2 st (d.tdiv 1000000)) := by
  go_enter Try.func17, Try.ntmps17
  go_wp2_with fail
  refine (notify (w.heap.size + 1) _ _ (w.heap.size + 1 + 1 + 1 + 1) (w.heap.size + 1) (w.heap.size + 1 + 1) s0 s1 s2 st d 0 (.string ⟨#[]⟩) (.string ⟨#[]⟩) (.string ⟨#[]⟩) (.int .i64 0) (.int .i64 0) _ ⟨by go_simp, by go_simp, by go_simp, by go_simp, by go_simp, by go_simp, by go_simp, by go_simp, by go_simp, by go_simp, by go_simp, by go_simp, by omega, by simp, by simp⟩ (by omega) (by omega) (by omega) h (by go_simp) (by go_simp) (by go_simp) (by go_simp) (by go_simp)).mono ?_
  rintro e w1 ⟨rfl, G, hb⟩
  obtain ⟨c0, c1, c2, c3, c4, z0, z1, z2, z3, z4, d0, y0, hne, hg, hc⟩ := G
  have q0 : w1.cell? ⟨w.heap.size, 0, none⟩ = some (.string ⟨#[]⟩) := by rw [hb.cell (p := ⟨w.heap.size, 0, none⟩) (by simp)]; go_simp
  have q1 : w1.cell? ⟨w.heap.size, 1, none⟩ = some (.string ⟨#[]⟩) := by rw [hb.cell (p := ⟨w.heap.size, 1, none⟩) (by simp)]; go_simp
  have q2 : w1.cell? ⟨w.heap.size, 2, none⟩ = some (.string ⟨#[]⟩) := by rw [hb.cell (p := ⟨w.heap.size, 2, none⟩) (by simp)]; go_simp
  have q3 : w1.cell? ⟨w.heap.size, 3, none⟩ = some (.int .i64 0) := by rw [hb.cell (p := ⟨w.heap.size, 3, none⟩) (by simp)]; go_simp
  have q4 : w1.cell? ⟨w.heap.size, 4, none⟩ = some (.int .i64 0) := by rw [hb.cell (p := ⟨w.heap.size, 4, none⟩) (by simp)]; go_simp
  have x0 : w1.frozen? ⟨w.heap.size, 0, none⟩ = false := by rw [hb.frozen (p := ⟨w.heap.size, 0, none⟩) (by simp)]; go_simp
  have x1 : w1.frozen? ⟨w.heap.size, 1, none⟩ = false := by rw [hb.frozen (p := ⟨w.heap.size, 1, none⟩) (by simp)]; go_simp
  have x2 : w1.frozen? ⟨w.heap.size, 2, none⟩ = false := by rw [hb.frozen (p := ⟨w.heap.size, 2, none⟩) (by simp)]; go_simp
  have x3 : w1.frozen? ⟨w.heap.size, 3, none⟩ = false := by rw [hb.frozen (p := ⟨w.heap.size, 3, none⟩) (by simp)]; go_simp
  have x4 : w1.frozen? ⟨w.heap.size, 4, none⟩ = false := by rw [hb.frozen (p := ⟨w.heap.size, 4, none⟩) (by simp)]; go_simp
  have hW : Below w.heap.size w w1 := by
    refine Below.trans ?_ (hb.mono (by omega))
    repeat (first | exact Below.refl _ _ | (refine Below.alloc ?_ (by simp; try omega) _))
  have HW := Lib.hid hW
  clear hb hW
  go_wp2_with fail
  go_region
  all_goals
    go_wp2_with fail
    refine bodyPost_ret (v := .tuple #[.agg #[.string s0, .string s1, .string s2, .int .i64 st, .int .i64 (d.tdiv 1000000)], .int .i64 1]) (by simp [results, Try.results17, go_sem, q0, q1, q2, q3, q4]) rfl ⟨rfl, ?_⟩
    refine Below.drew ?_
    iterate 5 (refine Below.setCell ?_ (Nat.le_refl w.heap.size) _)
    exact HW.out
theorem tdiv_mono (a b : Int) (h : a ≤ b) : a.tdiv 1000000 ≤ b.tdiv 1000000 := by
  rw [Int.tdiv_eq_ediv, Int.tdiv_eq_ediv]
  have e : (1000000 : Int).sign = 1 := rfl
  rw [e]
  split <;> split <;> omega
set_option maxRecDepth 100000 in
set_option maxHeartbeats 4000000 in
theorem main (a0 a1 a2 : Int) (w : World) (h0 : -1125899906842624 ≤ a0 ∧ a0 ≤ 1125899906842624) (h1 : -1125899906842624 ≤ a1 ∧ a1 ≤ 1125899906842624) (hlt : a0 ≤ a1) (hm : a0.tdiv 1000000 ≤ a1.tdiv 1000000) :
    Calls Try.prog 6 #[.int .i64 a0, .int .i64 a1, .int .i64 a2] w fun e w' => e = .returned (.bool true) ∧ Below w.heap.size w w' := by
  generalize e0 : a0.tdiv 1000000 = t0 at hm
  generalize e1 : a1.tdiv 1000000 = t1 at hm
  have E0 := Lib.hid e0
  have E1 := Lib.hid e1
  clear e0 e1
  go_enter Try.func6, Try.ntmps6
  go_wp2_with fail
  refine (nohook _ _ _).mono ?_
  rintro e v1 ⟨rfl, hb1⟩
  have H1 := Lib.hid hb1
  clear hb1
  go_wp2_with fail
  refine (rec17 _ _ _ _ a0 _ h0).mono ?_
  rintro e v2 ⟨rfl, hb2⟩
  rw [E0.out]
  have H2 := Lib.hid hb2
  clear hb2
  go_wp2_with fail
  refine (rec17 _ _ _ _ a1 _ h1).mono ?_
  rintro e v3 ⟨rfl, hb3⟩
  rw [E1.out]
  have q4 : v3.cell? ⟨v2.heap.size, 4, none⟩ = some (.int .i64 t0) := by rw [hb3.cell (p := ⟨v2.heap.size, 4, none⟩) (by simp)]; go_simp
  have hz : v2.heap.size < v3.heap.size := by have := hb3.size; simp at this; omega
  have H3 := Lib.hid hb3
  clear hb3
  go_wp2_with fail
  go_ret
  refine ⟨rfl, ?_⟩
  exact Below.trans H1.out ((((H2.out.mono H1.out.size).alloc (Nat.le_trans H1.out.size H2.out.size) _).trans (H3.out.mono (by have := H1.out.size; have := H2.out.size; simp; omega))).alloc (by have := H1.out.size; have := H2.out.size; omega) _)
set_option maxRecDepth 100000 in
set_option maxHeartbeats 4000000 in
theorem main2 (a0 a1 a2 : Int) (w : World) (h0 : -1125899906842624 ≤ a0 ∧ a0 ≤ 1125899906842624) (h1 : -1125899906842624 ≤ a1 ∧ a1 ≤ 1125899906842624) (hlt : a1 < a0) (hm : a1.tdiv 1000000 ≤ a0.tdiv 1000000) :
    Calls Try.prog 6 #[.int .i64 a0, .int .i64 a1, .int .i64 a2] w fun e w' => e = .returned (.bool true) ∧ Below w.heap.size w w' := by
  generalize e0 : a1.tdiv 1000000 = t0 at hm
  generalize e1 : a0.tdiv 1000000 = t1 at hm
  have E0 := Lib.hid e0
  have E1 := Lib.hid e1
  clear e0 e1
  go_enter Try.func6, Try.ntmps6
  go_wp2_with fail
  refine (nohook _ _ _).mono ?_
  rintro e v1 ⟨rfl, hb1⟩
  have H1 := Lib.hid hb1
  clear hb1
  go_wp2_with fail
  refine (rec17 _ _ _ _ a1 _ h1).mono ?_
  rintro e v2 ⟨rfl, hb2⟩
  rw [E0.out]
  have H2 := Lib.hid hb2
  clear hb2
  go_wp2_with fail
  refine (rec17 _ _ _ _ a0 _ h0).mono ?_
  rintro e v3 ⟨rfl, hb3⟩
  rw [E1.out]
  have q4 : v3.cell? ⟨v2.heap.size, 4, none⟩ = some (.int .i64 t0) := by rw [hb3.cell (p := ⟨v2.heap.size, 4, none⟩) (by simp)]; go_simp
  have hz : v2.heap.size < v3.heap.size := by have := hb3.size; simp at this; omega
  have H3 := Lib.hid hb3
  clear hb3
  go_wp2_with fail
  go_ret
  refine ⟨rfl, ?_⟩
  exact Below.trans H1.out ((((H2.out.mono H1.out.size).alloc (Nat.le_trans H1.out.size H2.out.size) _).trans (H3.out.mono (by have := H1.out.size; have := H2.out.size; simp; omega))).alloc (by have := H1.out.size; have := H2.out.size; omega) _)

set_option maxRecDepth 100000 in
set_option maxHeartbeats 4000000 in
theorem walk (a0 : Int) (a1 : Int) (a2 : Int) (w : World) (w0 : (Lit.int .i64 a0).wf = true) (w1 : (Lit.int .i64 a1).wf = true) (w2 : (Lit.int .i64 a2).wf = true) :
    Calls Try.prog 6 #[.int .i64 a0, .int .i64 a1, .int .i64 a2] w fun e w' => e = .returned (.bool true) ∧ Below w.heap.size w w' := by
  have b0 := Aid.i64_of w0
  have b1 := Aid.i64_of w1
  clear w0 w1 w2
  by_cases h : (-1125899906842624 ≤ a0 ∧ a0 ≤ 1125899906842624) ∧ (-1125899906842624 ≤ a1 ∧ a1 ≤ 1125899906842624)
  · obtain ⟨h0, h1⟩ := h
    by_cases hlt : a1 < a0
    · exact main2 a0 a1 a2 w h0 h1 hlt (tdiv_mono a1 a0 (by omega))
    · exact main a0 a1 a2 w h0 h1 (by omega) (tdiv_mono a0 a1 (by omega))
  · go_enter Try.func6, Try.ntmps6
    go_wp2_with fail
    all_goals
      go_ret
      exact ⟨rfl, Below.refl _ _⟩

set_option maxRecDepth 100000 in
theorem lifted (os : Os) (started : os.Started) (H : Type) (enc : TypeId × Value → H) :
    ReturnsInHanded {} Try.checked os 6 .any (Rows.fnNotifyRequestTimeMonotoneAndHooklessIgnoresRequestSpec.pre6 enc Try.prog Try.f6 Rows.fnNotifyRequestTimeMonotoneAndHooklessIgnoresRequestRow.domain false) (Rows.fnNotifyRequestTimeMonotoneAndHooklessIgnoresRequestSpec.post enc Try.prog Try.f6 false true false false) := by
  refine returnsInHanded_of_change (C := Try.checked) own started (by kernel_rfl) Try.func6
    (ChangeSpec.witness6 (enc := enc) (C := Try.checked) false ⟨#[], #[.int .i64 0, .int .i64 0, .int .i64 0], []⟩ 8 (by kernel_rfl) (by kernel_rfl) (by kernel_rfl) (by kernel_rfl)) ?_
  intro W base args ds gs before hval0 hW hcnd _
  have hval : ∀ (j : Nat) t v, Try.f6.params[j]? = some t → args[j]? = some v → Value.okWide Try.prog W .any base t v := hval0
  have hW' := hW
  obtain ⟨p, q, hA0, hV, rfl, hfz, hnd⟩ := hW
  have hA : DataW.TrodAll enc Try.prog W 0 (fun _ => true) true Try.f6.params.toList args.toList ds p := hA0
  rw [Try.params6] at hA hval
  obtain ⟨v0, vs0, d0, ds0, p0, q0, hargs, rfl, rfl, h0, r0⟩ := trodAll_cons hA
  obtain ⟨v1, vs1, d1, ds1, p1, q1, rfl, rfl, rfl, h1, r1⟩ := trodAll_cons r0
  obtain ⟨v2, vs2, d2, ds2, p2, q2, rfl, rfl, rfl, h2, r2⟩ := trodAll_cons r1
  obtain ⟨rfl, rfl, rfl⟩ := trodAll_nil r2
  obtain rfl : args = #[v0, v1, v2] := by cases args; simp_all
  obtain ⟨rfl, rfl⟩ := trodVars_none hV
  obtain ⟨a0, rfl, rfl, rfl, w0⟩ := open_int Try.underlying2 (hval 0 2 v0 rfl rfl) h0
  obtain ⟨a1, rfl, rfl, rfl, w1⟩ := open_int Try.underlying2 (hval 1 2 v1 rfl rfl) h1
  obtain ⟨a2, rfl, rfl, rfl, w2⟩ := open_int Try.underlying3 (hval 2 3 v2 rfl rfl) h2
  clear hA0 hval0
  refine (walk a0 a1 a2 W w0 w1 w2).mono fun e W' ⟨he, bel⟩ => ?_
  subst he
  exact ⟨_, rfl, _, _, _, [], _, [], hW', trodAll_mk1 (shut_bool Try.underlying4 _), (trodAll_cons_mk (shut_int Try.underlying2 w0) (trodAll_cons_mk (shut_int Try.underlying2 w1) (trodAll_cons_mk (shut_int Try.underlying3 w2) trodAll_mk0))), rfl, bel.frame _, fun h => by cases h⟩

theorem joined : joinedFacts Try.prog 6 Try.f6 Rows.fnNotifyRequestTimeMonotoneAndHooklessIgnoresRequestSpec Rows.fnNotifyRequestTimeMonotoneAndHooklessIgnoresRequestRow = true := by
  unfold joinedFacts
  rw [Facts.enter, Facts.lifts, Facts.make]
  kernel_rfl

theorem over : Rows.fnNotifyRequestTimeMonotoneAndHooklessIgnoresRequestRow.holds Try.pinned (OpenSpec.ofChange Rows.fnNotifyRequestTimeMonotoneAndHooklessIgnoresRequestSpec) :=
  OpenClaim.holds_of_wide 6 Try.f6 rfl rfl rfl rfl rfl rfl rfl ⟨rfl, rfl, rfl, rfl, rfl⟩ rfl rfl rfl rfl rfl (by kernel_rfl) Try.func6 joined
    (of_decide_eq_true (by kernel_rfl)) (by unfold Func.isWrapper; first | (rw [if_pos (by decide +kernel)]; kernel_rfl) | (rw [if_neg (by decide +kernel)]; exact ⟨rfl, rfl⟩))
    (fun os started H enc _ => lifted os started H enc)

theorem proved : Rows.FnNotifyRequestTimeMonotoneAndHooklessIgnoresRequestSaid :=
  over
#print axioms proved
end Go.Proofs.Ytpgchpfdeefloab.fnNotifyRequestTimeMonotoneAndHooklessIgnoresRequest
