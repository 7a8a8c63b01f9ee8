/- keysStartWithDot answers true exactly when there is a key and every key starts with a dot, for key lists that agree on the leading dot. No condition. -/
import Derived.Test.YtphgbbddecfdnaaRows
import Derived.WalkKit
import Derived.ProofKit
import Derived.OpenShut
import Derived.ShutString
import Derived.Test.YtphgbbddecfdnaaFacts
import Derived.Test.YtphgbbddecfdnaaAid
import Derived.Test.YtphgbbddecfdnaaShelf
import Derived.Test.YtphgbbddecfdnaaStr
import Derived.Test.YtphgbbddecfdnaaFl
import Derived.WalkSpells
import Derived.LoopTactic
import Derived.Outline
import Derived.Deep.QuietTactic
import Derived.BigQuiet
namespace Go.Proofs.Ytphgbbddecfdnaa.fnKeysStartWithDotMeansEveryKey
open Go.ChangeShapes Go.WideShapes Go.ChangeAt Go.RowKit
open Go.ChangeMaps (open_string shut_string)
set_option linter.unusedVariables false

theorem own : ownKnob Try.prog.godebug = none := by kernel_rfl
theorem laidOut : laidOutB Try.prog = true := by kernel_rfl

open Str PlainAid Fl
def Fits (len : Nat) (S : Nat → ByteArray) (w : World) (e : Ending) (w' : World) : Prop := ∃ v, e = .returned (.bool v) ∧ (v = true → len ≤ 1048576 ∧ ∀ i, i < len → (S i).size ≤ 1048576) ∧ w = w'
theorem zz (a : Option Addr) (len cap : Nat) (S : Nat → ByteArray) (w : World) (h : Fsl w a len (fun i => .string (S i))) (hm : len ≤ maxLen) (hS : ∀ i, i < len → (S i).size ≤ maxLen) :
    Calls Try.prog 5 #[.slice a len cap] w (Fits len S w) := by
  unfold maxLen at hm hS
  have HS := Lib.hid hS
  clear hS
  by_cases hl : len ≤ 1048576
  · go_enter Try.func5, Try.ntmps5
    go_wp2
    go_loop [3, 4] (fun z i => ∃ (k : Nat) (n : Int), k ≤ len ∧ i = .int .i64 k ∧ z = .int .i64 n ∧ 0 ≤ n ∧ n ≤ 1048576 ∧ ∀ i, i < k → (S i).size ≤ 1048576) (fun _ i => len - (intOf i).toNat)
    case atStart => exact ⟨0, _, by omega, rfl, rfl, by omega, by omega, fun i hi => by omega⟩
    case round =>
      obtain ⟨k, n, hk, rfl, rfl, hn0, hn1, hall⟩ := hrel
      have HA := Lib.hid hall
      clear hall
      by_cases hlt : k < len
      · obtain ⟨b, off, rfl, hlb, hc⟩ := h.at k hlt
        have hs := HS.out k hlt
        have hk2 : (k : Int) < (len : Int) := by omega
        go_wp2
        · go_ret
          exact ⟨_, rfl, (fun e => by cases e), rfl⟩
        · go_ret
          exact ⟨_, rfl, (fun e => by cases e), rfl⟩
        · go_round
          case rel => exact ⟨k + 1, _, by omega, by go_num, rfl, by omega, by omega, fun i hi => by
            by_cases e : i = k
            · subst e; omega
            · exact HA.out i (by omega)⟩
          case measure => simp [intOf]; omega
      · go_wp2
        go_ret
        exact ⟨_, rfl, fun _ => ⟨hl, fun i hi => HA.out i (by omega)⟩, rfl⟩
  · go_enter Try.func5, Try.ntmps5
    go_wp2
    go_ret
    exact ⟨_, rfl, (fun e => by cases e), rfl⟩
def Sized (len : Nat) (w : World) (e : Ending) (w' : World) : Prop := ∃ n : Int, e = .returned (.int .i64 n) ∧ (n ≤ 1048576 → len ≤ 65536) ∧ w = w'
theorem sz (a : Option Addr) (len cap : Nat) (S : Nat → ByteArray) (w : World) (h : Fsl w a len (fun i => .string (S i))) (hm : len ≤ 1048576) (hS : ∀ i, i < len → (S i).size ≤ 1048576) :
    Calls Try.prog 6 #[.slice a len cap] w (Sized len w) := by
  have HS := Lib.hid hS
  clear hS
  go_enter Try.func6, Try.ntmps6
  go_wp2
  go_loop [3, 4] (fun z i => ∃ (k : Nat) (n : Int), k ≤ len ∧ i = .int .i64 k ∧ z = .int .i64 n ∧ 16 * k ≤ n ∧ n ≤ 1048576) (fun _ i => len - (intOf i).toNat)
  case atStart => exact ⟨0, _, by omega, rfl, rfl, by omega, by omega⟩
  case round =>
    obtain ⟨k, n, hk, rfl, rfl, hn0, hn1⟩ := hrel
    by_cases hlt : k < len
    · obtain ⟨b, off, rfl, hlb, hc⟩ := h.at k hlt
      have hs := HS.out k hlt
      have hk2 : (k : Int) < (len : Int) := by omega
      go_wp2
      · go_ret
        exact ⟨_, rfl, fun _ => by omega, rfl⟩
      · go_round
        case rel => exact ⟨k + 1, _, by omega, by go_num, rfl, by omega, by omega⟩
        case measure => simp [intOf]; omega
    · go_wp2
      go_ret
      exact ⟨_, rfl, fun _ => by omega, rfl⟩
def dotB (s : ByteArray) : Bool := decide (0 < s.size ∧ bt s 0 = 46)
theorem dot (s : ByteArray) (w : World) (hs : s.size ≤ 1048576) : Calls Try.prog 10 #[.string s] w fun e w' => e = .returned (.bool (dotB s)) ∧ w = w' := by
  have hbt := get_bt s
  by_cases h0 : 0 < s.size
  · by_cases h1 : bt s 0 = 46
    · have H := Lib.hid (show dotB s = true by simp [dotB, h0, h1])
      have e1 : (bt s 0 == 46) = true := by simpa using h1
      clear h1
      go_enter Try.func10, Try.ntmps10
      go_wp2
      go_ret
      exact ⟨by rw [H.out]; rfl, rfl⟩
    · have H := Lib.hid (show dotB s = false by simp [dotB, h1])
      have e1 : (bt s 0 == 46) = false := by simpa using h1
      clear h1
      go_enter Try.func10, Try.ntmps10
      go_wp2
      go_ret
      exact ⟨by rw [H.out]; rfl, rfl⟩
  · have H := Lib.hid (show dotB s = false by simp [dotB, h0])
    go_enter Try.func10, Try.ntmps10
    go_wp2
    go_ret
    exact ⟨by rw [H.out]; rfl, rfl⟩
theorem dot_at (s : ByteArray) (d : Bool) (w : World) (hs : s.size ≤ 1048576) (h : dotB s = d) : Calls Try.prog 10 #[.string s] w fun e w' => e = .returned (.bool d) ∧ w = w' := by
  rw [← h]; exact dot s w hs
/-- Do all keys agree on the leading dot? -/
def AgreeB (len : Nat) (S : Nat → ByteArray) (w : World) (e : Ending) (w' : World) : Prop := ∃ v, e = .returned (.bool v) ∧ (v = true → ∀ i, i < len → dotB (S i) = dotB (S 0)) ∧ w = w'
theorem cons_ (a : Option Addr) (len cap : Nat) (S : Nat → ByteArray) (w : World) (h : Fsl w a len (fun i => .string (S i))) (hm : len ≤ 1048576) (hS : ∀ i, i < len → (S i).size ≤ 1048576) :
    Calls Try.prog 7 #[.slice a len cap] w (AgreeB len S w) := by
  have HS := Lib.hid hS
  clear hS
  by_cases hl : 0 < len
  · obtain ⟨b, off, rfl, hlb, hc⟩ := h.at 0 hl
    rw [Nat.add_zero] at hc
    have hs := HS.out 0 hl
    have hl2 : (0 : Int) < (len : Int) := by omega
    have hl3 : ((len : Int) == 0) = false := by simp; omega
    obtain ⟨d0, hd0⟩ : ∃ d, dotB (S 0) = d := ⟨_, rfl⟩
    have HD0 := Lib.hid hd0
    clear hd0
    go_enter Try.func7, Try.ntmps7
    go_wp2_with (go_at_call 10; ((with_reducible refine (dot_at _ d0 _ hs HD0.out).mono ?_); rintro e w' ⟨rfl, rfl⟩))
    go_loop [4] (fun i => ∃ k : Nat, k ≤ len ∧ 1 ≤ k ∧ i = .int .i64 k ∧ ∀ i, i < k → dotB (S i) = d0) (fun i => len - (intOf i).toNat)
    case atStart => exact ⟨1, by omega, by omega, rfl, fun i hi => by
      obtain rfl : i = 0 := by omega
      exact HD0.out⟩
    case round =>
      obtain ⟨k, hk, hk1, rfl, hall⟩ := hrel
      have HA := Lib.hid hall
      clear hall
      by_cases hlt : k < len
      · have hc2 := h.cell k hlt
        have hs2 := HS.out k hlt
        have hk2 : (k : Int) < (len : Int) := by omega
        by_cases e : dotB (S k) = d0
        · have e1 : (dotB (S k) == d0) = true := by simpa using e
          have E := Lib.hid e
          clear e
          go_wp2_with (go_at_call 10; ((with_reducible refine (dot _ _ hs2).mono ?_); rintro e w' ⟨rfl, rfl⟩))
          go_round
          case rel => exact ⟨k + 1, by omega, by omega, by go_num, fun i hi => by
            by_cases e : i = k
            · subst e; exact E.out
            · exact HA.out i (by omega)⟩
          case measure => simp [intOf]; omega
        · have e1 : (dotB (S k) == d0) = false := by simpa using e
          go_wp2_with (go_at_call 10; ((with_reducible refine (dot _ _ hs2).mono ?_); rintro e w' ⟨rfl, rfl⟩))
          go_ret
          exact ⟨_, rfl, (fun e => by cases e), rfl⟩
      · go_wp2
        go_ret
        exact ⟨_, rfl, fun _ i hi => by rw [HA.out i (by omega), HD0.out], rfl⟩
  · obtain rfl : len = 0 := by omega
    go_enter Try.func7, Try.ntmps7
    go_wp2
    go_ret
    exact ⟨_, rfl, fun _ i hi => by omega, rfl⟩
theorem clone_info : (Try.prog.info? 9).map (fun i => (i.zero, i.size, i.bytes)) = some (some (.string ⟨#[]⟩), 1, 16) := by kernel_rfl
theorem clone (a : Option Addr) (len cap : Nat) (S : Nat → ByteArray) (w : World) (h : Fsl w a len (fun i => .string (S i))) (hlen : len ≤ 137438953472) :
    Calls Try.prog 8 #[.slice a len cap] w (Cop w a len 9 (fun i => .string (S i))) := by
  have hnil : ∀ w : World, (binOp .eql 22 (.slice a len cap) (.slice none 0 0)).run Try.prog w = .ok (.bool a.isNone) w := fun w => Lib.run_eql_slice_nil w 22 9 _ _ _ _ _ Try.underlying22
  have hmk := run_make_one (P := Try.prog) Try.underlying22 clone_info rfl (by omega) len hlen
  cases a with
  | none =>
    have H := Lib.hid (Cop.nil (t := 9) h)
    go_enter Try.func8, Try.ntmps8
    go_wp2
    go_ret
    exact H.out
  | some x =>
    go_enter Try.func8, Try.ntmps8
    go_wp2
    go_loopw [4] (fun i wr => ∃ k : Nat, k ≤ len ∧ i = .int .i64 k ∧ Fblk wr w.heap.size 9 len (parV (fun i => .string (S i)) (.string ⟨#[]⟩) k) ∧ Below w.heap.size w wr) (fun i _ => len - (intOf i).toNat)
    case atStart => exact ⟨0, by omega, rfl, by rw [parV_zero]; exact Fblk.made _ _ _ _, (Below.refl _ _).alloc (Nat.le_refl _) _⟩
    case round =>
      obtain ⟨k, hk, rfl, hb, hl⟩ := hrel
      have HB := Lib.hid hb
      by_cases hlt : k < len
      · obtain ⟨b, off, e, hlb, hc⟩ := h.at k hlt
        injection e with e
        subst e
        have hc' : wr.cell? ⟨b, off + k, none⟩ = some (.string (S k)) := by rw [hl.cell (p := ⟨b, off + k, none⟩) hlb]; exact hc
        have hd := hb.cell k hlt
        have hz := hb.frozen k
        have hk2 : (k : Int) < (len : Int) := by omega
        clear hc hb
        go_wp2
        go_roundw
        case rel => exact ⟨k + 1, by omega, by go_num, by rw [← parV_set]; exact HB.out.set k _, hl.setCell (Nat.le_refl _) _⟩
        case measure => simp [intOf]; omega
      · obtain rfl : k = len := by omega
        clear hb
        go_wp2
        go_ret
        exact Cop.mk (HB.out.congr fun i hi => by simp [parV, hi]) hl (Nat.le_refl _)


theorem e65 : ∃ z bytes, bytes ≤ 1024 ∧ (Try.prog.info? 65).map (fun i => (i.zero, i.size, i.bytes)) = some (some z, 10, bytes) := ⟨.agg #[.string ⟨#[]⟩, .string ⟨#[]⟩, .slice none 0 0, .slice none 0 0, .slice none 0 0, .int .i32 0, .int .i32 0, .int .u8 0, .int .i32 0, .int .i32 0], 128, by omega, by kernel_rfl⟩
def Entry (len : Nat) (S : Nat → ByteArray) (w : World) (e : Ending) (w' : World) : Prop :=
  ∃ A cap, e = .returned (.agg #[.string ⟨#[]⟩, .slice none 0 0, .slice A len cap, .slice none 0 0, .int .i32 0, .int .i32 0, .int .u8 3]) ∧ Below w.heap.size w w' ∧ (0 < len → ∃ b, A = some ⟨b, 0, none⟩ ∧ b < w'.heap.size ∧ w'.cell? ⟨b, 0, none⟩ = some (.string (S 0)))
theorem cells7 {w : World} {b : Nat} {t : TypeId} {v0 v1 v2 v3 v4 v5 v6 : Value} (h : w.heap[b]? = some (.cells #[v0, v1, v2, v3, v4, v5, v6] t (0, 0))) :
    w.cell? ⟨b, 0, none⟩ = some v0 ∧ w.cell? ⟨b, 1, none⟩ = some v1 ∧ w.cell? ⟨b, 2, none⟩ = some v2 ∧ w.cell? ⟨b, 3, none⟩ = some v3 ∧ w.cell? ⟨b, 4, none⟩ = some v4 ∧ w.cell? ⟨b, 5, none⟩ = some v5 ∧ w.cell? ⟨b, 6, none⟩ = some v6 :=
  ⟨by rw [cell_of_row w b 0 _ t _ h]; rfl, by rw [cell_of_row w b 1 _ t _ h]; rfl, by rw [cell_of_row w b 2 _ t _ h]; rfl, by rw [cell_of_row w b 3 _ t _ h]; rfl, by rw [cell_of_row w b 4 _ t _ h]; rfl, by rw [cell_of_row w b 5 _ t _ h]; rfl, by rw [cell_of_row w b 6 _ t _ h]; rfl⟩
set_option maxHeartbeats 1000000 in
set_option maxRecDepth 100000 in
theorem entry (a : Option Addr) (len cap : Nat) (S : Nat → ByteArray) (w : World) (h : Fsl w a len (fun i => .string (S i))) (hlen : len ≤ 65536) :
    Calls Try.prog 16 #[.int .u8 3, .slice a len cap, .int .i32 0, .int .i32 0] w (Entry len S w) := by
  have hnil : ∀ w : World, (binOp .neq 22 (.slice a len cap) (.slice none 0 0)).run Try.prog w = .ok (.bool (!a.isNone)) w := fun w => run_neq_slice_nil_any w 22 9 _ _ _ _ _ Try.underlying22
  obtain ⟨z, bytes, hb, hi⟩ := e65
  obtain ⟨cs, hcs⟩ : ∃ cs, z.cells = cs := ⟨_, rfl⟩
  have hmk := run_make_many (P := Try.prog) Try.underlying37 hi hcs hb len (by omega)
  clear hi hcs
  cases a with
  | none =>
    obtain rfl := h.none_
    go_enter Try.func16, Try.ntmps16
    go_wp2
    go_loop [10] (fun i => i = .int .i64 0) (fun i => 0)
    case atStart => rfl
    case round =>
      subst hrel
      go_wp2
      exact bodyPost_ret (v := .agg #[.string ⟨#[]⟩, .slice none 0 0, .slice none 0 0, .slice none 0 0, .int .i32 0, .int .i32 0, .int .u8 3]) (by simp [results, Try.results16, go_sem]) rfl ⟨none, 0, rfl, (Below.refl _ _).alloc (Nat.le_refl _) _, fun h => absurd h (Nat.lt_irrefl 0)⟩
  | some x =>
    go_enter Try.func16, Try.ntmps16
    go_wp2
    go_loopw [10] (fun i wr => ∃ k : Nat, k ≤ len ∧ i = .int .i64 k ∧ (∃ V, Fblk wr (w.heap.size + 1) 65 (len * 10) V ∧ (0 < k → V 0 = .string (S 0))) ∧ Below w.heap.size w wr ∧ wr.heap[w.heap.size]? = some (.cells #[.string ⟨#[]⟩, .slice none 0 0, .slice none 0 0, .slice none 0 0, .int .i32 0, .int .i32 0, .int .u8 0] 45 (0, 0))) (fun i _ => len - (intOf i).toNat)
    case atStart =>
      refine ⟨0, by omega, rfl, ⟨fun i => (madeCells cs (len * 10)).getD i undef, ?_, fun h => absurd h (Nat.lt_irrefl 0)⟩, ((Below.refl _ _).alloc (Nat.le_refl _) _).alloc (by simp) _, ?_⟩
      · exact Fblk.madeManyAt (by simp)
      · rw [Below.heap_alloc _ _ _ (by simp)]
        exact heap_alloc_new _ _
    case round =>
      obtain ⟨k, hk, rfl, ⟨V, hV, hV0⟩, hl, hr⟩ := hrel
      have HV := Lib.hid hV
      have H0 := Lib.hid hV0
      have HR := Lib.hid hr
      clear hV0 hr
      by_cases hlt : k < len
      · obtain ⟨b, off, e, hlb, hc⟩ := h.at k hlt
        injection e with e
        subst e
        have hc' : wr.cell? ⟨b, off + k, none⟩ = some (.string (S k)) := by rw [hl.cell (p := ⟨b, off + k, none⟩) hlb]; exact hc
        have hd := hV.cell (k * 10) (by omega)
        have hz := hV.frozen (k * 10)
        have hk2 : (k : Int) < (len : Int) := by omega
        clear hc hV
        go_wp2
        go_roundw
        case rel =>
          refine ⟨k + 1, by omega, by go_num, ⟨_, HV.out.set (k * 10) _, fun _ => ?_⟩, hl.setCell (by simp) _, ?_⟩
          · by_cases e : k = 0
            · subst e; exact upd_same _ _ _
            · rw [upd_other _ _ _ _ (by omega)]; exact H0.out (by omega)
          · rw [heap_setCell_other _ _ _ _ (by simp)]; exact HR.out
        case measure => simp [intOf]; omega
      · obtain rfl : k = len := by omega
        obtain ⟨q0, q1, q2, q3, q4, q5, q6⟩ := cells7 HR.out
        have f0 := frozen_of_row wr w.heap.size 0 _ 45 HR.out
        have f1 := frozen_of_row wr w.heap.size 1 _ 45 HR.out
        have f2 := frozen_of_row wr w.heap.size 2 _ 45 HR.out
        have f3 := frozen_of_row wr w.heap.size 3 _ 45 HR.out
        have f4 := frozen_of_row wr w.heap.size 4 _ 45 HR.out
        have f5 := frozen_of_row wr w.heap.size 5 _ 45 HR.out
        have f6 := frozen_of_row wr w.heap.size 6 _ 45 HR.out
        clear hV
        go_wp2
        refine bodyPost_ret (v := .agg #[.string ⟨#[]⟩, .slice none 0 0, .slice (some ⟨w.heap.size + 1, 0, none⟩) k k, .slice none 0 0, .int .i32 0, .int .i32 0, .int .u8 3]) (by simp [results, Try.results16, go_sem, q0, q1, q2, q3, q4, q5, q6]) rfl ⟨_, _, rfl, ?_, fun hk0 => ⟨_, rfl, ?_, ?_⟩⟩
        · iterate 7 (refine Below.setCell ?_ (Nat.le_refl w.heap.size) _)
          exact hl
        · have := HV.out.lt
          simpa [World.setCell] using this
        · iterate 7 rw [World.cell?_setCell_other _ _ _ _ (by intro e; injection e with e; omega)]
          rw [HV.out.cell 0 (by omega), H0.out hk0]

theorem pre_dot (s : ByteArray) : Lib.hasPrefix s.data.toList [46] = dotB s := by
  have h := hasPrefix_iff s ⟨#[46]⟩
  have e : (⟨#[46]⟩ : ByteArray).data.toList = [46] := rfl
  rw [e] at h
  rw [Bool.eq_iff_iff, h]
  unfold dotB
  rw [decide_eq_true_eq]
  have hs : (⟨#[46]⟩ : ByteArray).size = 1 := rfl
  have hb : bt (⟨#[46]⟩ : ByteArray) 0 = 46 := rfl
  rw [hs]
  constructor
  · rintro ⟨h1, h2⟩
    exact ⟨by omega, by rw [h2 0 (by omega), hb]⟩
  · rintro ⟨h1, h2⟩
    refine ⟨by omega, fun k hk => ?_⟩
    obtain rfl : k = 0 := by omega
    rw [h2, hb]
set_option maxRecDepth 100000 in
theorem ksd (A : Option Addr) (len cap : Nat) (S : Nat → ByteArray) (w : World) (hA : 0 < len → ∃ b, A = some ⟨b, 0, none⟩ ∧ b < w.heap.size ∧ w.cell? ⟨b, 0, none⟩ = some (.string (S 0))) (hm : len ≤ 65536) :
    Calls Try.prog 17 #[.agg #[.string ⟨#[]⟩, .slice none 0 0, .slice A len cap, .slice none 0 0, .int .i32 0, .int .i32 0, .int .u8 3]] w fun e w' => e = .returned (.bool (decide (0 < len) && dotB (S 0))) ∧ Below w.heap.size w w' := by
  by_cases hl : 0 < len
  · obtain ⟨b, rfl, hlb, hc⟩ := hA hl
    have hl2 : (0 : Int) < (len : Int) := by omega
    have H := Lib.hid (pre_dot (S 0))
    have hd : decide (0 < len) = true := by simpa using hl
    go_enter Try.func17, Try.ntmps17
    go_wp2_with (go_at_call 20; ((with_reducible refine (Try.strings_HasPrefix _ _ _).mono ?_); rintro e w' ⟨rfl, rfl⟩))
    go_ret
    exact ⟨by rw [hd, ← H.out]; rfl, (Below.refl _ _).alloc (Nat.le_refl _) _⟩
  · obtain rfl : len = 0 := by omega
    go_enter Try.func17, Try.ntmps17
    go_wp2_with fail
    go_ret
    exact ⟨rfl, (Below.refl _ _).alloc (Nat.le_refl _) _⟩
theorem zks (a : Option Addr) (len cap : Nat) (S : Nat → ByteArray) (w : World) (h : Fsl w a len (fun i => .string (S i))) (hlen : len ≤ 65536) :
    Calls Try.prog 9 #[.slice a len cap] w fun e w' => e = .returned (.bool (decide (0 < len) && dotB (S 0))) ∧ Below w.heap.size w w' := by
  go_enter Try.func9, Try.ntmps9
  go_wp2_with fail
  refine (entry a len cap S _ h hlen).mono ?_
  rintro e w1 ⟨A, c, rfl, hb1, hA⟩
  have HB := Lib.hid hb1
  have HA := Lib.hid hA
  clear hb1 hA
  go_wp2_with fail
  refine (ksd A len c S _ HA.out hlen).mono ?_
  rintro e w2 ⟨rfl, hb2⟩
  go_wp2_with fail
  go_ret
  exact ⟨rfl, HB.out.trans (hb2.mono HB.out.size)⟩
/-- Do the first k keys all start with a dot (and is there one)? -/
theorem last_ (n : Nat) (S : Nat → ByteArray) (x y : Bool) (hag : ∀ i, i < n → dotB (S i) = dotB (S 0)) (hx : x = (decide (0 < n) && dotB (S 0))) (hy : y = true ↔ (0 < n ∧ ∀ i, i < n → dotB (S i) = true)) : (x == y) = true := by
  rw [beq_iff_eq, hx, Bool.eq_iff_iff, hy]
  simp only [Bool.and_eq_true, decide_eq_true_eq]
  constructor
  · rintro ⟨h0, h1⟩
    exact ⟨h0, fun i hi => by rw [hag i hi, h1]⟩
  · rintro ⟨h0, h1⟩
    exact ⟨h0, h1 0 h0⟩
set_option maxHeartbeats 2000000 in
theorem main (a : Option Addr) (len cap : Nat) (S : Nat → ByteArray) (w : World) (h : Fsl w a len (fun i => .string (S i))) (hm : len ≤ maxLen) (hS : ∀ i, i < len → (S i).size ≤ maxLen) :
    Calls Try.prog 3 #[.slice a len cap] w fun e w' => e = .returned (.bool true) ∧ Below w.heap.size w w' := by
  go_enter Try.func3, Try.ntmps3
  go_wp2_with fail
  refine (zz a len cap S _ h hm hS).mono ?_
  rintro e w1 ⟨v, rfl, hv, rfl⟩
  have HV := Lib.hid hv
  have HM := Lib.hid hm
  have HS := Lib.hid hS
  clear hv hm hS
  cases v
  · go_wp2_with fail
    go_ret
    exact ⟨rfl, Below.refl _ _⟩
  obtain ⟨hl, hsz⟩ := HV.out rfl
  clear HS HV
  have HZ := Lib.hid hsz
  clear hsz
  go_wp2_with fail
  refine (sz a len cap S _ h hl HZ.out).mono ?_
  rintro e w1 ⟨n, rfl, hn, rfl⟩
  have HN := Lib.hid hn
  clear hn
  by_cases hn2 : n ≤ 1048576
  · have hl2 := HN.out hn2
    clear HN
    go_wp2_with fail
    refine (cons_ a len cap S _ h hl HZ.out).mono ?_
    rintro e w1 ⟨v, rfl, hv, rfl⟩
    have HV := Lib.hid hv
    clear hv
    cases v
    · go_wp2_with fail
      go_ret
      exact ⟨rfl, Below.refl _ _⟩
    have HG := Lib.hid (HV.out rfl)
    clear HV
    go_wp2_with fail
    refine (clone a len cap S _ h (by omega)).mono ?_
    rintro e w1 ⟨a1, c1, rfl, hc1, h1, hb1, _, _⟩
    have HB1 := Lib.hid hb1
    clear hb1
    go_wp2_with fail
    refine (zks a1 len c1 S _ h1 hl2).mono ?_
    rintro e w2 ⟨rfl, hb2⟩
    obtain ⟨x, hx⟩ : ∃ x, (decide (0 < len) && dotB (S 0)) = x := ⟨_, rfl⟩
    rw [hx]
    have HX := Lib.hid hx
    clear hx
    have h2 := h1.below hb2
    have HB2 := Lib.hid (HB1.out.trans (hb2.mono HB1.out.size))
    clear hb2 HB1
    have hd0 : decide (0 < len) = decide (0 < (len : Int)) := by simp
    go_wp2_with fail
    go_loop [4, 5] (fun y i => ∃ (k : Nat) (b : Bool), k ≤ len ∧ i = .int .i64 k ∧ y = .bool b ∧ (b = true ↔ (0 < len ∧ ∀ i, i < k → dotB (S i) = true))) (fun _ i => len - (intOf i).toNat)
    case atStart => exact ⟨0, _, by omega, rfl, rfl, by simp⟩
    case round =>
      obtain ⟨k, b, hk, rfl, rfl, hb⟩ := hrel
      have HB := Lib.hid hb
      clear hb
      by_cases hlt : k < len
      · obtain ⟨bl, off, rfl, hlb, hc⟩ := h2.at k hlt
        have hs := HZ.out k hlt
        have hk2 : (k : Int) < (len : Int) := by omega
        cases hd : dotB (S k)
        · have HD := Lib.hid hd
          clear hd
          go_wp2_with (go_at_call 10; ((with_reducible refine (dot_at _ false _ hs HD.out).mono ?_); rintro e w' ⟨rfl, rfl⟩))
          go_round
          case rel => exact ⟨k + 1, false, by omega, by go_num, rfl, by
            constructor
            · intro e; cases e
            · rintro ⟨_, h2⟩; rw [← h2 k (by omega), HD.out]⟩
          case measure => simp [intOf]; omega
        · have HD := Lib.hid hd
          clear hd
          go_wp2_with (go_at_call 10; ((with_reducible refine (dot_at _ true _ hs HD.out).mono ?_); rintro e w' ⟨rfl, rfl⟩))
          go_round
          case rel => exact ⟨k + 1, b, by omega, by go_num, rfl, by
            rw [HB.out]
            constructor
            · rintro ⟨h0, h1⟩
              refine ⟨h0, fun i hi => ?_⟩
              by_cases e : i = k
              · subst e; exact HD.out
              · exact h1 i (by omega)
            · rintro ⟨h0, h1⟩
              exact ⟨h0, fun i hi => h1 i (by omega)⟩⟩
          case measure => simp [intOf]; omega
      · obtain rfl : k = len := by omega
        have e1 := last_ k S x b HG.out HX.out.symm HB.out
        go_wp2_with fail
        go_ret
        exact ⟨rfl, HB2.out⟩
  · go_wp2_with fail
    go_ret
    exact ⟨rfl, Below.refl _ _⟩

set_option maxHeartbeats 2000000 in
theorem walk (a0 : Option Addr) (len0 cap0 : Nat) (z0 : List ByteArray) (w : World) (w0 : Aid.IsStrs w a0 len0 cap0 z0) :
    Calls Try.prog 3 #[.slice a0 len0 cap0] w fun e w' => e = .returned (.bool true) ∧ Below w.heap.size w w' := by
  obtain ⟨S, hF, hS, hm, _⟩ := Fl.of_strs w0
  exact main a0 len0 cap0 S w hF hm hS

set_option maxRecDepth 100000 in
theorem lifted (os : Os) (started : os.Started) (H : Type) (enc : TypeId × Value → H) :
    ReturnsInHanded {} Try.checked os 3 .any (Rows.fnKeysStartWithDotMeansEveryKeySpec.pre6 enc Try.prog Try.f3 Rows.fnKeysStartWithDotMeansEveryKeyRow.domain false) (Rows.fnKeysStartWithDotMeansEveryKeySpec.post enc Try.prog Try.f3 false true false false) := by
  refine returnsInHanded_of_change (C := Try.checked) own started (by kernel_rfl) Try.func3
    (ChangeSpec.witness6 (enc := enc) (C := Try.checked) false ⟨#[], #[.slice none 0 0], []⟩ 8 (by kernel_rfl) (by kernel_rfl) (by kernel_rfl) (by kernel_rfl)) ?_
  intro W base args ds gs before hval0 hW hcnd _
  have hval : ∀ (j : Nat) t v, Try.f3.params[j]? = some t → args[j]? = some v → Value.okWide Try.prog W .any base t v := hval0
  have hW' := hW
  obtain ⟨p, q, hA0, hV, rfl, hfz, hnd⟩ := hW
  have hA : DataW.TrodAll enc Try.prog W 0 (fun _ => true) true Try.f3.params.toList args.toList ds p := hA0
  rw [Try.params3] at hA hval
  obtain ⟨v0, vs0, d0, ds0, p0, q0, hargs, rfl, rfl, h0, r0⟩ := trodAll_cons hA
  obtain ⟨rfl, rfl, rfl⟩ := trodAll_nil r0
  obtain rfl : args = #[v0] := by cases args; simp_all
  obtain ⟨rfl, rfl⟩ := trodVars_none hV
  obtain ⟨a0, len0, cap0, rfl⟩ := okWide_slice Try.underlying22 (hval 0 22 v0 rfl rfl)
  have k0 := h0
  have lt0 : ∀ x ∈ p0, x.block < W.heap.size := by obtain ⟨m, hm⟩ := k0; exact DataW.trod_lt m _ _ _ hm
  obtain ⟨z0, w0⟩ := Aid.open_strs Try.underlying22 Try.underlying9 (by kernel_rfl) h0
  clear hA0 hval0
  refine (walk a0 len0 cap0 z0 W w0).mono fun e W' ⟨he, bel⟩ => ?_
  subst he
  exact ⟨_, rfl, _, _, _, [], _, [], hW', trodAll_mk1 (shut_bool Try.underlying4 _), (trodAll_cons_mk (Below.trod laidOut (by kernel_rfl) (of_decide_eq_true (by kernel_rfl)) k0 bel lt0) trodAll_mk0), rfl, bel.frame _, fun h => by cases h⟩

theorem joined : joinedFacts Try.prog 3 Try.f3 Rows.fnKeysStartWithDotMeansEveryKeySpec Rows.fnKeysStartWithDotMeansEveryKeyRow = true := by
  unfold joinedFacts
  rw [Facts.enter, Facts.lifts, Facts.make]
  kernel_rfl

theorem over : Rows.fnKeysStartWithDotMeansEveryKeyRow.holds Try.pinned (OpenSpec.ofChange Rows.fnKeysStartWithDotMeansEveryKeySpec) :=
  OpenClaim.holds_of_wide 3 Try.f3 rfl rfl rfl rfl rfl rfl rfl ⟨rfl, rfl, rfl, rfl, rfl⟩ rfl rfl rfl rfl rfl (by kernel_rfl) Try.func3 joined
    (of_decide_eq_true (by kernel_rfl)) (by unfold Func.isWrapper; first | (rw [if_pos (by decide +kernel)]; kernel_rfl) | (rw [if_neg (by decide +kernel)]; exact ⟨rfl, rfl⟩))
    (fun os started H enc _ => lifted os started H enc)

theorem proved : Rows.FnKeysStartWithDotMeansEveryKeySaid :=
  over
#print axioms proved
end Go.Proofs.Ytphgbbddecfdnaa.fnKeysStartWithDotMeansEveryKey
