/- After a scan each of the 64 slots holds its old value plus delta times the number of occurrences of the slot's character in the text (int32 wrapping). No condition. -/
import Derived.Test.YtanponbjfbgigaaRows
import Derived.WalkKit
import Derived.ProofKit
import Derived.OpenShut
import Derived.ShutString
import Derived.Test.YtanponbjfbgigaaFacts
import Derived.Test.YtanponbjfbgigaaAid
import Derived.Test.YtanponbjfbgigaaArr
import Derived.PlainAid
import Derived.Outline
import Derived.LoopTactic
import Derived.RegionTactic
import Derived.ChangeAlike
import Derived.Deep.QuietTactic
import Derived.BigQuiet
namespace Go.Proofs.Ytanponbjfbgigaa.fnCharFreqScanCountsEachIdentifierByte
open Go.ChangeShapes Go.WideShapes Go.ChangeAt Go.RowKit
open Go.ChangeMaps (open_string shut_string)
set_option linter.unusedVariables false

theorem own : ownKnob Try.prog.godebug = none := by kernel_rfl
theorem laidOut : laidOutB Try.prog = true := by kernel_rfl

open Arr PlainAid
def slot (x : Int) : Nat := if 97 ≤ x ∧ x ≤ 122 then (x - 97).toNat else if 65 ≤ x ∧ x ≤ 90 then (x - 39).toNat else if 48 ≤ x ∧ x ≤ 57 then (x + 4).toNat else if x = 95 then 62 else if x = 36 then 63 else 64
def cnt (s : ByteArray) (j : Nat) : Nat → Nat
  | 0 => 0
  | k + 1 => cnt s j k + if slot (bt s k) = j then 1 else 0
theorem cnt_le (s : ByteArray) (j k : Nat) : cnt s j k ≤ k := by
  induction k with
  | zero => exact Nat.le_refl _
  | succ k ih => unfold cnt; split <;> omega
def tal (F : List Int) (s : ByteArray) (d : Int) (k : Nat) : List Int := (List.range F.length).map fun j => wrap32 (nth F j + (cnt s j k : Int) * d)
theorem tal_len (F : List Int) (s : ByteArray) (d : Int) (k : Nat) : (tal F s d k).length = F.length := by simp [tal]
theorem tal_get (F : List Int) (s : ByteArray) (d : Int) (k j : Nat) (h : j < F.length) : nth (tal F s d k) j = wrap32 (nth F j + (cnt s j k : Int) * d) := by
  rw [nth_eq _ _ (by rw [tal_len]; exact h)]
  simp [tal]
theorem tal_zero (F : List Int) (s : ByteArray) (d : Int) (hw : ∀ z ∈ F, (Lit.int .i32 z).wf = true) : tal F s d 0 = F := by
  apply ext_nth (tal_len _ _ _ _)
  intro j hj
  have hj' : j < F.length := by simpa [tal_len] using hj
  rw [tal_get _ _ _ _ _ hj']
  have hb := Aid.i32_of (hw _ (nth_mem F j hj'))
  simp only [cnt, Int.natCast_zero, Int.zero_mul, Int.add_zero]
  unfold wrap32
  omega
theorem wrap_add (x y : Int) : wrap32 (wrap32 x + y) = wrap32 (x + y) := by unfold wrap32; omega
theorem wrap_add' (x y : Int) : wrap32 (x + wrap32 y) = wrap32 (x + y) := by unfold wrap32; omega
theorem tal_set (F : List Int) (s : ByteArray) (d : Int) (k j : Nat) (hj : j < F.length) (h : slot (bt s k) = j) : (tal F s d k).set j (wrap32 (nth (tal F s d k) j + d)) = tal F s d (k + 1) := by
  apply ext_nth
  · simp [tal_len]
  · intro i hi
    have hi' : i < F.length := by simpa [tal_len] using hi
    rw [nth_set _ _ _ _ (by rw [tal_len]; exact hi'), tal_get _ _ _ _ _ hi', tal_get _ _ _ _ _ hi', tal_get _ _ _ _ _ hj]
    by_cases e : j = i
    · subst e
      rw [if_pos rfl, wrap_add]
      simp only [cnt, if_pos h, Int.natCast_add, Int.natCast_one, Int.add_mul, Int.one_mul, Int.add_assoc]
    · rw [if_neg e]
      simp only [cnt, if_neg (show ¬ slot (bt s k) = i by omega), Nat.add_zero]
theorem tal_same (F : List Int) (s : ByteArray) (d : Int) (k : Nat) (hF : F.length = 64) (h : slot (bt s k) = 64) : tal F s d k = tal F s d (k + 1) := by
  apply ext_nth
  · simp [tal_len]
  · intro i hi
    have hi' : i < F.length := by simpa [tal_len] using hi
    rw [tal_get _ _ _ _ _ hi', tal_get _ _ _ _ _ hi']
    simp only [cnt, if_neg (show ¬ slot (bt s k) = i by omega), Nat.add_zero]
theorem tal_none (F : List Int) (s : ByteArray) (k : Nat) (hw : ∀ z ∈ F, (Lit.int .i32 z).wf = true) : tal F s 0 k = F := by
  apply ext_nth (tal_len _ _ _ _)
  intro j hj
  have hj' : j < F.length := by simpa [tal_len] using hj
  rw [tal_get _ _ _ _ _ hj']
  have hb := Aid.i32_of (hw _ (nth_mem F j hj'))
  simp only [Int.mul_zero, Int.add_zero]
  unfold wrap32
  omega

def Scn (w : World) (b : Nat) (F : List Int) (s : ByteArray) (d : Int) (k : Nat) (w' : World) : Prop :=
  Row .i32 w' b 29 (tal F s d k) ∧ (∀ c, c ≠ b → w'.heap[c]? = w.heap[c]?) ∧ w'.heap.size = w.heap.size ∧ Below b w w'
theorem Scn.step {w : World} {b : Nat} {F : List Int} {s : ByteArray} {d : Int} {k : Nat} {w' : World} (h : Scn w b F s d k w') (j : Nat) (hj : j < F.length) (hs : slot (bt s k) = j) :
    Scn w b F s d (k + 1) (w'.setCell ⟨b, j, none⟩ (.int .i32 (wrap32 (nth (tal F s d k) j + d)))).drew := by
  obtain ⟨h1, h2, h3, h4⟩ := h
  refine ⟨?_, fun c hc => (Below.heap_setCell _ _ _ _ (by simpa using hc)).trans (h2 c hc), ?_, (h4.setCell (Nat.le_refl _) _).drew⟩
  · rw [← tal_set F s d k j hj hs]; exact (h1.set j _).drew
  · rw [← h3]; simp [World.setCell, World.drew]
theorem Scn.same {w : World} {b : Nat} {F : List Int} {s : ByteArray} {d : Int} {k : Nat} {w' : World} (h : Scn w b F s d k w') (hF : F.length = 64) (hs : slot (bt s k) = 64) : Scn w b F s d (k + 1) w' := by
  obtain ⟨h1, h2, h3, h4⟩ := h
  exact ⟨by rw [← tal_same F s d k hF hs]; exact h1, h2, h3, h4⟩

set_option maxRecDepth 100000 in
set_option maxHeartbeats 4000000 in
theorem scan (b : Nat) (F : List Int) (s : ByteArray) (d : Int) (w : World) (hF : F.length = 64) (hw : ∀ z ∈ F, (Lit.int .i32 z).wf = true) (hs : s.size ≤ 65536) (rF : Row .i32 w b 29 F) :
    Calls Try.prog 10 #[.pointer (some ⟨b, 0, none⟩), .string s, .int .i32 d] w fun e w' => e = .returned (.tuple #[]) ∧ Scn w b F s d s.size w' := by
  have HF := Lib.hid hF
  have HW := Lib.hid hw
  clear hF hw
  by_cases hd : d = 0
  · subst hd
    go_enter Try.func10, Try.ntmps10
    go_wp2
    exact bodyPost_ret (results_none rfl _ _ _) rfl ⟨rfl, by unfold Scn; rw [tal_none F s _ HW.out]; exact ⟨rF, fun _ _ => rfl, rfl, Below.refl _ _⟩⟩
  have hd' : (d == 0) = false := by simpa using hd
  have hbt := get_bt s
  go_enter Try.func10, Try.ntmps10
  go_wp2
  go_loopw [6] (fun i wr => ∃ k : Nat, k ≤ s.size ∧ i = .int .i64 k ∧ Scn w b F s d k wr) (fun i _ => s.size - (intOf i).toNat)
  case atStart => exact ⟨0, by omega, rfl, by unfold Scn; rw [tal_zero F s d HW.out]; exact ⟨rF, fun _ _ => rfl, rfl, Below.refl _ _⟩⟩
  case round =>
    obtain ⟨k, hk, rfl, hI⟩ := hrel
    by_cases hlt : k < s.size
    · have hlo := bt_nonneg s k
      have hhi := bt_le s k
      have hz := hI.1.frozen (slot (bt s k))
      by_cases t1 : 97 ≤ bt s k ∧ bt s k ≤ 122
      · have e := Lib.hid (show slot (bt s k) = (bt s k - 97).toNat by unfold slot; rw [if_pos t1])
        obtain ⟨t1a, t1b⟩ := t1
        have hc := hI.1.cell (bt s k - 97).toNat (by rw [tal_len, HF.out]; omega)
        rw [e.out] at hz
        go_wp2
        go_region
        all_goals
          go_wp2
          go_roundw
          case rel => exact ⟨k + 1, by omega, by go_num, hI.step _ (by rw [HF.out]; omega) e.out⟩
          case measure => simp [intOf]; omega
      · have n1 : ¬ (97 ≤ bt s k ∧ bt s k ≤ 122) := t1
        by_cases t2 : 65 ≤ bt s k ∧ bt s k ≤ 90
        · have e := Lib.hid (show slot (bt s k) = (bt s k - 39).toNat by unfold slot; rw [if_neg t1, if_pos t2])
          obtain ⟨t2a, t2b⟩ := t2
          have hc := hI.1.cell (bt s k - 39).toNat (by rw [tal_len, HF.out]; omega)
          rw [e.out] at hz
          go_wp2
          go_region
          all_goals
            go_wp2
            go_roundw
            case rel => exact ⟨k + 1, by omega, by go_num, hI.step _ (by rw [HF.out]; omega) e.out⟩
            case measure => simp [intOf]; omega
        · by_cases t3 : 48 ≤ bt s k ∧ bt s k ≤ 57
          · have e := Lib.hid (show slot (bt s k) = (bt s k + 4).toNat by unfold slot; rw [if_neg t1, if_neg t2, if_pos t3])
            obtain ⟨t3a, t3b⟩ := t3
            have hc := hI.1.cell (bt s k + 4).toNat (by rw [tal_len, HF.out]; omega)
            rw [e.out] at hz
            go_wp2
            go_region
            all_goals
              go_wp2
              go_roundw
              case rel => exact ⟨k + 1, by omega, by go_num, hI.step _ (by rw [HF.out]; omega) e.out⟩
              case measure => simp [intOf]; omega
          · by_cases t4 : bt s k = 95
            · have e := Lib.hid (show slot (bt s k) = 62 by unfold slot; rw [if_neg t1, if_neg t2, if_neg t3, if_pos t4])
              have hc := hI.1.cell 62 (by rw [tal_len, HF.out]; omega)
              rw [e.out] at hz
              have q4 : (bt s k == 95) = true := by simpa using t4
              go_wp2
              go_region
              all_goals
                go_wp2
                go_roundw
                case rel => exact ⟨k + 1, by omega, by go_num, hI.step _ (by rw [HF.out]; omega) e.out⟩
                case measure => simp [intOf]; omega
            · by_cases t5 : bt s k = 36
              · have e := Lib.hid (show slot (bt s k) = 63 by unfold slot; rw [if_neg t1, if_neg t2, if_neg t3, if_neg t4, if_pos t5])
                have hc := hI.1.cell 63 (by rw [tal_len, HF.out]; omega)
                rw [e.out] at hz
                have q4 : (bt s k == 95) = false := by simpa using t4
                have q5 : (bt s k == 36) = true := by simpa using t5
                go_wp2
                go_region
                all_goals
                  go_wp2
                  go_roundw
                  case rel => exact ⟨k + 1, by omega, by go_num, hI.step _ (by rw [HF.out]; omega) e.out⟩
                  case measure => simp [intOf]; omega
              · have e := Lib.hid (show slot (bt s k) = 64 by unfold slot; rw [if_neg t1, if_neg t2, if_neg t3, if_neg t4, if_neg t5])
                have q4 : (bt s k == 95) = false := by simpa using t4
                have q5 : (bt s k == 36) = false := by simpa using t5
                go_wp2
                all_goals
                  go_roundw
                  case rel => exact ⟨k + 1, by omega, by go_num, hI.same HF.out e.out⟩
                  case measure => simp [intOf]; omega
    · obtain rfl : k = s.size := by omega
      go_wp2
      go_end0
      exact ⟨rfl, hI⟩
def alpha : ByteArray := ⟨#[97, 98, 99, 100, 101, 102, 103, 104, 105, 106, 107, 108, 109, 110, 111, 112, 113, 114, 115, 116, 117, 118, 119, 120, 121, 122, 65, 66, 67, 68, 69, 70, 71, 72, 73, 74, 75, 76, 77, 78, 79, 80, 81, 82, 83, 84, 85, 86, 87, 88, 89, 90, 48, 49, 50, 51, 52, 53, 54, 55, 56, 57, 95, 36]⟩
theorem alpha_size : alpha.size = 64 := by decide
theorem alpha_slot_fin : ∀ j : Fin 64, ∀ x : Fin 256, decide (((x.val : Nat) : Int) = bt alpha j.val) = decide (slot ((x.val : Nat) : Int) = j.val) := by decide +kernel
theorem alpha_slot (j : Nat) (hj : j < 64) (x : Int) (h0 : 0 ≤ x) (h1 : x ≤ 255) : x = bt alpha j ↔ slot x = j := by
  obtain ⟨n, rfl⟩ := Int.eq_ofNat_of_zero_le h0
  have h := alpha_slot_fin ⟨j, hj⟩ ⟨n, by omega⟩
  simpa using h
theorem alph (w : World) : Calls Try.prog 11 #[] w fun e w' => e = .returned (.string alpha) ∧ w = w' := by
  go_enter Try.func11, Try.ntmps11
  go_wp2
  go_ret
  exact ⟨rfl, rfl⟩
def fitsB (n : Nat) : Bool := decide (n ≤ 1048576)
theorem zz (c0 : Array Value) (s : ByteArray) (d : Int) (w : World) (h1 : s.size ≤ maxLen) :
    Calls Try.prog 9 #[.agg c0, .string s, .int .i32 d] w fun e w' => e = .returned (.bool (fitsB s.size)) ∧ w' = w.alloc (.cells c0 28) := by
  unfold maxLen at h1
  by_cases h : s.size ≤ 1048576
  · have H := Lib.hid (show fitsB s.size = true by unfold fitsB; simpa using h)
    go_enter Try.func9, Try.ntmps9
    go_wp2
    go_ret
    exact ⟨by rw [H.out]; rfl, rfl⟩
  · have H := Lib.hid (show fitsB s.size = false by unfold fitsB; simpa using h)
    go_enter Try.func9, Try.ntmps9
    go_wp2
    all_goals
      go_ret
      exact ⟨by rw [H.out]; rfl, rfl⟩
theorem zero29 : ∀ w : World, (zeroValue 29).run Try.prog w = .ok (.agg (Array.replicate 64 (.int .i32 0))) w := fun _ => by kernel_rfl
structure St (w : World) (A C : Nat) (f h : List Int) (wr : World) : Prop where
  a : Row .i32 wr A 28 f
  c : Row .i32 wr C 29 h
  bel : Below w.heap.size w wr
theorem St.drewN {w : World} {A C : Nat} {f h : List Int} {wr : World} (s : St w A C f h wr) (n : Nat) : St w A C f h (wr.drewN n) := by
  obtain ⟨a, c, e⟩ := s
  exact ⟨a, c, ⟨e.os, e.tape, e.output, e.size, e.block⟩⟩

theorem walk (z0 : List Int) (a1 : ByteArray) (a2 : Int) (w : World) (l0 : z0.length = 64) (w0 : ∀ z ∈ z0, (Lit.int .i32 z).wf = true) (w1 : a1.size ≤ maxLen) (w2 : (Lit.int .i32 a2).wf = true) :
    Calls Try.prog 5 #[.agg (z0.map (Value.int .i32)).toArray, .string a1, .int .i32 a2] w fun e w' => e = .returned (.bool true) ∧ Below w.heap.size w w' := by
  obtain ⟨c0, hc0⟩ : ∃ c0, c0 = (z0.map (Value.int .i32)).toArray := ⟨_, rfl⟩
  rw [← hc0]
  have S0 := Lib.hid (show c0.size = 64 by rw [hc0]; simpa using l0)
  have O0 := Lib.hid (show c0.all (·.oneCell') = true by rw [hc0]; exact one_ints _ _)
  have I28 := Lib.hid (show (Try.prog.info? 28).map (·.size) = some 64 by kernel_rfl)
  have I29 := Lib.hid (show (Try.prog.info? 29).map (·.size) = some 64 by kernel_rfl)
  have HC0 := Lib.hid hc0
  have L0 := Lib.hid l0
  have W0 := Lib.hid w0
  have hd := Aid.i32_of w2
  clear hc0 l0 w0 w2
  by_cases hf : fitsB a1.size = false
  · go_enter Try.func5, Try.ntmps5
    go_wp2_with (first
      | (with_reducible refine wpList_load_row rfl 28 (.tmp 3) rfl w.heap.size rfl 28 c0 (0, 0) _ (heap_alloc_new _ _) Try.underlying28 rfl (I28.out.trans (by rw [S0.out])) ?_)
      | (go_at_call 9; ((with_reducible refine (zz _ _ _ _ w1).mono ?_); rintro e w' ⟨rfl, rfl⟩)))
    go_ret
    exact ⟨rfl, by repeat (first | exact Below.refl _ _ | (refine Below.alloc ?_ (by simp) _))⟩
  rw [Bool.not_eq_false] at hf
  by_cases h1 : 65536 < a1.size
  · go_enter Try.func5, Try.ntmps5
    go_wp2_with (first
      | (with_reducible refine wpList_load_row rfl 28 (.tmp 3) rfl w.heap.size rfl 28 c0 (0, 0) _ (heap_alloc_new _ _) Try.underlying28 rfl (I28.out.trans (by rw [S0.out])) ?_)
      | (go_at_call 9; ((with_reducible refine (zz _ _ _ _ w1).mono ?_); rintro e w' ⟨rfl, rfl⟩)))
    go_ret
    exact ⟨rfl, by repeat (first | exact Below.refl _ _ | (refine Below.alloc ?_ (by simp) _))⟩
  have hs : a1.size ≤ 65536 := by omega
  go_enter Try.func5, Try.ntmps5
  go_wp2_with (first
    | (with_reducible refine wpList_copyvar rfl rfl rfl 28 29 (.tmp 3) (.tmp 7) (.tmp 20) rfl rfl rfl w.heap.size rfl 28 c0 (0, 0) _ ((Below.heap_alloc _ _ _ (by simp)).trans (heap_alloc_new _ _)) Try.underlying28 rfl (I28.out.trans (by rw [S0.out])) (I29.out.trans (by rw [S0.out])) _ zero29 (by rw [S0.out]; exact Array.size_replicate) O0.out rfl rfl ?_)
    | (with_reducible refine wpList_load_row rfl 28 (.tmp 3) rfl w.heap.size rfl 28 c0 (0, 0) _ (heap_alloc_new _ _) Try.underlying28 rfl (I28.out.trans (by rw [S0.out])) ?_)
    | (go_at_call 9; ((with_reducible refine (zz _ _ _ _ w1).mono ?_); rintro e w' ⟨rfl, rfl⟩)))
  have R0 : Row .i32 (w.alloc (.cells c0 28)) w.heap.size 28 z0 := by rw [HC0.out]; exact Row.new _ _ _ _
  have R1 : Row .i32 (((w.alloc (.cells c0 28)).alloc (.cells c0 28)).alloc (.cells c0 29)) (w.heap.size + 1 + 1) 29 z0 := by
    have := Row.new .i32 ((w.alloc (.cells c0 28)).alloc (.cells c0 28)) 29 z0
    rw [← HC0.out] at this
    simpa using this
  refine (scan _ z0 a1 a2 _ L0.out W0.out hs R1).mono ?_
  rintro e w3 ⟨rfl, hI⟩
  have s : St w w.heap.size (w.heap.size + 1 + 1) z0 (tal z0 a1 a2 a1.size) w3 := by
    refine ⟨(hI.2.1 _ (by omega)).trans ((R0.alloc _).alloc _), hI.1, Below.trans ?_ (hI.2.2.2.mono (by omega))⟩
    repeat (first | exact Below.refl _ _ | (refine Below.alloc ?_ (by simp; try omega) _))
  clear hI R0 R1
  have hbt := get_bt a1
  have hba := get_bt alpha
  have hasz := alpha_size
  go_wp2_with (go_at_call 11; ((with_reducible refine (alph _).mono ?_); rintro e w' ⟨rfl, rfl⟩))
  go_loopw [9] (fun i wr => ∃ k : Nat, k ≤ 64 ∧ i = .int .i64 k ∧ St w w.heap.size (w.heap.size + 1 + 1) z0 (tal z0 a1 a2 a1.size) wr) (fun i _ => 64 - (intOf i).toNat)
  case atStart => exact ⟨0, by omega, rfl, s⟩
  case round =>
    clear s
    obtain ⟨j, hj, rfl, s⟩ := hrel
    by_cases hlt : j < 64
    · go_wp2_with fail
      obtain ⟨wo, rfl⟩ : ∃ wo : World, wo = wr := ⟨_, rfl⟩
      go_loopw [10, 11] (fun v i wr => ∃ k : Nat, k ≤ a1.size ∧ i = .int .i64 k ∧ v = .int .i32 (cnt a1 j k : Int) ∧ St w w.heap.size (w.heap.size + 1 + 1) z0 (tal z0 a1 a2 a1.size) wr) (fun _ i _ => a1.size - (intOf i).toNat)
      case atStart => exact ⟨0, by omega, rfl, rfl, s⟩
      case round =>
        clear s
        obtain ⟨k, hk, rfl, rfl, s⟩ := hrel
        by_cases hk2 : k < a1.size
        · have hlo := bt_nonneg a1 k
          have hhi := bt_le a1 k
          have hcl := cnt_le a1 j k
          by_cases q : slot (bt a1 k) = j
          · have H := Lib.hid (show cnt a1 j (k + 1) = cnt a1 j k + 1 by simp [cnt, q])
            have q1 : (bt a1 k == bt alpha j) = true := by rw [beq_iff_eq]; exact (alpha_slot j hlt _ hlo hhi).2 q
            clear q
            go_wp2_with fail
            go_quiet (fail)
            go_wp2_with fail
            go_roundw
            case rel => exact ⟨k + 1, by omega, by go_num, by rw [H.out]; go_num, s.drewN _⟩
            case measure => simp [intOf]; omega
          · have H := Lib.hid (show cnt a1 j (k + 1) = cnt a1 j k by simp [cnt, q])
            have q1 : (bt a1 k == bt alpha j) = false := by rw [beq_eq_false_iff_ne]; exact fun e => q ((alpha_slot j hlt _ hlo hhi).1 e)
            clear q
            go_wp2_with fail
            go_quiet (fail)
            go_wp2_with fail
            go_roundw
            case rel => exact ⟨k + 1, by omega, by go_num, by rw [H.out], s.drewN _⟩
            case measure => simp [intOf]; omega
        · obtain rfl : k = a1.size := by omega
          have ca := s.a.cell j (by rw [L0.out]; omega)
          have cc := s.c.cell j (by rw [tal_len, L0.out]; omega)
          rw [tal_get _ _ _ _ _ (by rw [L0.out]; omega), ← wrap_add'] at cc
          go_wp2_with fail
          go_quiet (fail)
          go_wp2_with fail
          go_roundw
          case rel => exact ⟨j + 1, by omega, by go_num, s.drewN _⟩
          case measure => simp [intOf]; omega
    · go_wp2_with fail
      go_ret
      exact ⟨rfl, s.bel⟩

set_option maxRecDepth 100000 in
theorem lifted (os : Os) (started : os.Started) (H : Type) (enc : TypeId × Value → H) :
    ReturnsInHanded {} Try.checked os 5 .any (Rows.fnCharFreqScanCountsEachIdentifierByteSpec.pre6 enc Try.prog Try.f5 Rows.fnCharFreqScanCountsEachIdentifierByteRow.domain false) (Rows.fnCharFreqScanCountsEachIdentifierByteSpec.post enc Try.prog Try.f5 false true false false) := by
  refine returnsInHanded_of_change (C := Try.checked) own started (by kernel_rfl) Try.func5
    (ChangeSpec.witness6 (enc := enc) (C := Try.checked) false ⟨#[], #[.agg #[.int .i32 0, .int .i32 0, .int .i32 0, .int .i32 0, .int .i32 0, .int .i32 0, .int .i32 0, .int .i32 0, .int .i32 0, .int .i32 0, .int .i32 0, .int .i32 0, .int .i32 0, .int .i32 0, .int .i32 0, .int .i32 0, .int .i32 0, .int .i32 0, .int .i32 0, .int .i32 0, .int .i32 0, .int .i32 0, .int .i32 0, .int .i32 0, .int .i32 0, .int .i32 0, .int .i32 0, .int .i32 0, .int .i32 0, .int .i32 0, .int .i32 0, .int .i32 0, .int .i32 0, .int .i32 0, .int .i32 0, .int .i32 0, .int .i32 0, .int .i32 0, .int .i32 0, .int .i32 0, .int .i32 0, .int .i32 0, .int .i32 0, .int .i32 0, .int .i32 0, .int .i32 0, .int .i32 0, .int .i32 0, .int .i32 0, .int .i32 0, .int .i32 0, .int .i32 0, .int .i32 0, .int .i32 0, .int .i32 0, .int .i32 0, .int .i32 0, .int .i32 0, .int .i32 0, .int .i32 0, .int .i32 0, .int .i32 0, .int .i32 0, .int .i32 0], .string ByteArray.empty, .int .i32 0], []⟩ 8 (by kernel_rfl) (by kernel_rfl) (by kernel_rfl) (by kernel_rfl)) ?_
  intro W base args ds gs before hval0 hW hcnd _
  have hval : ∀ (j : Nat) t v, Try.f5.params[j]? = some t → args[j]? = some v → Value.okWide Try.prog W .any base t v := hval0
  have hW' := hW
  obtain ⟨p, q, hA0, hV, rfl, hfz, hnd⟩ := hW
  have hA : DataW.TrodAll enc Try.prog W 0 (fun _ => true) true Try.f5.params.toList args.toList ds p := hA0
  rw [Try.params5] at hA hval
  obtain ⟨v0, vs0, d0, ds0, p0, q0, hargs, rfl, rfl, h0, r0⟩ := trodAll_cons hA
  obtain ⟨v1, vs1, d1, ds1, p1, q1, rfl, rfl, rfl, h1, r1⟩ := trodAll_cons r0
  obtain ⟨v2, vs2, d2, ds2, p2, q2, rfl, rfl, rfl, h2, r2⟩ := trodAll_cons r1
  obtain ⟨rfl, rfl, rfl⟩ := trodAll_nil r2
  obtain rfl : args = #[v0, v1, v2] := by cases args; simp_all
  obtain ⟨rfl, rfl⟩ := trodVars_none hV
  have k0 := h0
  have lt0 : ∀ x ∈ p0, x.block < W.heap.size := by obtain ⟨m, hm⟩ := k0; exact DataW.trod_lt m _ _ _ hm
  obtain ⟨z0, rfl, l0, w0⟩ := Aid.open_ints_array Try.underlying28 Try.underlying21 (by kernel_rfl) (by kernel_rfl) (hval 0 28 v0 rfl rfl) h0
  obtain ⟨a1, rfl, rfl, rfl, w1⟩ := open_string Try.underlying9 (hval 1 9 v1 rfl rfl) h1
  obtain ⟨a2, rfl, rfl, rfl, w2⟩ := open_int Try.underlying21 (hval 2 21 v2 rfl rfl) h2
  clear hA0 hval0
  refine (walk z0 a1 a2 W l0 w0 w1 w2).mono fun e W' ⟨he, bel⟩ => ?_
  subst he
  exact ⟨_, rfl, _, _, _, [], _, [], hW', trodAll_mk1 (shut_bool Try.underlying4 _), (trodAll_cons_mk (Below.trod laidOut (by kernel_rfl) (of_decide_eq_true (by kernel_rfl)) k0 bel lt0) (trodAll_cons_mk (shut_string Try.underlying9 w1) (trodAll_cons_mk (shut_int Try.underlying21 w2) trodAll_mk0))), rfl, bel.frame _, fun h => by cases h⟩

theorem joined : joinedFacts Try.prog 5 Try.f5 Rows.fnCharFreqScanCountsEachIdentifierByteSpec Rows.fnCharFreqScanCountsEachIdentifierByteRow = true := by
  unfold joinedFacts
  rw [Facts.enter, Facts.lifts, Facts.make]
  kernel_rfl

theorem over : Rows.fnCharFreqScanCountsEachIdentifierByteRow.holds Try.pinned (OpenSpec.ofChange Rows.fnCharFreqScanCountsEachIdentifierByteSpec) :=
  OpenClaim.holds_of_wide 5 Try.f5 rfl rfl rfl rfl rfl rfl rfl ⟨rfl, rfl, rfl, rfl, rfl⟩ rfl rfl rfl rfl rfl (by kernel_rfl) Try.func5 joined
    (of_decide_eq_true (by kernel_rfl)) (by unfold Func.isWrapper; first | (rw [if_pos (by decide +kernel)]; kernel_rfl) | (rw [if_neg (by decide +kernel)]; exact ⟨rfl, rfl⟩))
    (fun os started H enc _ => lifted os started H enc)

theorem proved : Rows.FnCharFreqScanCountsEachIdentifierByteSaid :=
  over
#print axioms proved
end Go.Proofs.Ytanponbjfbgigaa.fnCharFreqScanCountsEachIdentifierByte
