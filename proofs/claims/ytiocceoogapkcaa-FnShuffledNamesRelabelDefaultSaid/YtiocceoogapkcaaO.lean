/- Contracts of functions that the law of this seat reaches, and plain facts; no condition. -/
import Derived.Test.YtiocceoogapkcaaProg
import Derived.WalkKit
import Derived.ProofKit
import Derived.OpenShut
import Derived.ShutString
import Derived.Test.YtiocceoogapkcaaAid
import Derived.Test.YtiocceoogapkcaaN
import Derived.Sort.LotA
import Derived.Sort.LotB
import Derived.Sort.LotC
import Derived.Sort.LotD3
import Derived.ArgAppend
import Derived.WalkSmall
import Derived.WalkSpells
import Derived.WalkLawsBesides
import Derived.LoopTactic
import Derived.Deep.LoopGhost
import Derived.Deep.CutBlock
import Derived.Deep.DeepCutAuto
import Derived.IntWalk
import Derived.Outline
import Derived.Deep.QuietTactic
import Derived.BigQuiet
import Derived.RegionTactic
import Derived.StillTailTactics
import Derived.Shelf.Small.Bits
import Derived.Shelf.Lays
import Derived.Laws.BitsAllLaws
import Derived.Laws.BitsLemmas
import Derived.BigRegion
import Derived.Laws.OwnMore
import Derived.Laws.Rows
namespace Go.Proofs.Ytiocceoogapkcaa.Aux
open Go.ChangeShapes Go.WideShapes Go.ChangeAt Go.RowKit
open Go.ChangeMaps (open_string shut_string)
set_option linter.unusedVariables false
set_option linter.unusedSimpArgs false
open Fl Str Pb Qd PlainAid Aux
open Go.Sort (swp)
section
variable {g : Nat → ByteArray} {f : Nat → Int} {w w' : World} {d : Array Nat}
theorem new5 (a b : ByteArray) (w : World) : Calls Try.prog 5 #[.string a, .string b] w fun e w' => e = .returned (.agg #[.string a, .string b]) ∧ Below w.heap.size w w' := by
  go_enter Try.func5, Try.ntmps5
  go_wp2_with fail
  refine bodyPost_ret (v := .agg #[.string a, .string b]) (by simp [results, Try.results5, go_sem]) rfl ⟨rfl, ?_⟩
  exact (Below.refl _ _).alloc (Nat.le_refl _) _
theorem head8 (a b : ByteArray) (w : World) : Calls Try.prog 8 #[.agg #[.string a, .string b]] w fun e w' => e = .returned (.string a) ∧ Below w.heap.size w w' := by
  go_enter Try.func8, Try.ntmps8
  go_wp2_with fail
  go_ret
  exact ⟨rfl, (Below.refl _ _).alloc (Nat.le_refl _) _⟩
theorem tail9 (a b : ByteArray) (w : World) : Calls Try.prog 9 #[.agg #[.string a, .string b]] w fun e w' => e = .returned (.string b) ∧ Below w.heap.size w w' := by
  go_enter Try.func9, Try.ntmps9
  go_wp2_with fail
  go_ret
  exact ⟨rfl, (Below.refl _ _).alloc (Nat.le_refl _) _⟩
theorem dig13 (c : Int) (v : Bool) (hv : v = (decide (48 ≤ c) && decide (c ≤ 57))) (w : World) : Calls Try.prog 13 #[.int .u8 c] w fun e w' => e = .returned (.bool v) ∧ w' = w := by
  by_cases h1 : 48 ≤ c
  · by_cases h2 : c ≤ 57
    · have HV := Lib.hid (show v = true by rw [hv]; simp [h1, h2])
      clear hv
      go_enter Try.func13, Try.ntmps13
      go_wp2_with fail
      go_ret
      exact ⟨by rw [HV.out]; rfl, rfl⟩
    · have HV := Lib.hid (show v = false by rw [hv]; simp [h2])
      clear hv
      go_enter Try.func13, Try.ntmps13
      go_wp2_with fail
      go_ret
      exact ⟨by rw [HV.out]; rfl, rfl⟩
  · have HV := Lib.hid (show v = false by rw [hv]; simp [h1])
    clear hv
    go_enter Try.func13, Try.ntmps13
    go_wp2_with fail
    go_ret
    exact ⟨by rw [HV.out]; rfl, rfl⟩
def Ok7 (w : World) (e : Ending) (w' : World) : Prop := e = .returned (.bool true) ∧ Below w.heap.size w w'
set_option maxRecDepth 100000 in
set_option maxHeartbeats 16000000 in
theorem model7 (T : ByteArray) (hT : T.size = 64) (z : List Int) (hz : z.length = 64) (hfz : ∀ i, z.getD i 0 = f i) (hp : Sort.PermIn 0 64 (Array.range 64) d) (hs : Sort.SortedIn (ltF f) 0 64 d) (w : World) :
    Calls Try.prog 7 #[.string T, .agg (z.map (Value.int .i32)).toArray, .string (hdS (chr T) d 64), .string (tlS (chr T) d 64)] w (Ok7 w) := by
  have hg : ∀ k, k < 64 → (chr T d[k]!).size = 1 := fun k hk => chr_size T _ (by rw [hT]; exact range_perm_lt hp k hk)
  obtain ⟨C, hC⟩ : ∃ C, (z.map (Value.int .i32)).toArray = C := ⟨_, rfl⟩
  have hCs : C.size = 64 := by rw [← hC]; simpa using hz
  have hC0 : ¬ C = #[] := by intro e; rw [e] at hCs; cases hCs
  have HC : Hid (∀ i, i < 64 → C[i]? = some (.int .i32 (f i))) := Lib.hid fun i hi => by rw [← hC, ← hfz]; exact f64_get hz i hi
  rw [hC]
  have HRK := Lib.hid (fun i (hi : i < 64) => rank_place hp hs i hi)
  have HTB := Lib.hid (fun k (hk : k < 64) => tl_bt (g := chr T) hg 64 (Nat.le_refl _) k hk)
  have HHB := Lib.hid (fun k (hk : k < 64) hn => hd_bt (g := chr T) hg (k := k) hk hn)
  have HCB : Hid (∀ x, x < 64 → bt (chr T x) 0 = bt T x) := Lib.hid fun x hx => by
    have := bt_extract T x (x + 1) 0 (by omega) (by omega)
    simpa [chr] using this
  have HDL := Lib.hid (fun k (hk : k < 64) => range_perm_lt hp k hk)
  have ht := (tl_size (g := chr T) (d := d) hg 64 (Nat.le_refl _)).1
  have hh := (tl_size (g := chr T) (d := d) hg 64 (Nat.le_refl _)).2
  have HHK := Lib.hid (fun k (hk : k ≤ 64) => (tl_size (g := chr T) (d := d) hg k hk).2)
  have HHZ : Hid (hdS (chr T) d 0 = ⟨#[]⟩) := Lib.hid rfl
  generalize hX : tlS (chr T) d 64 = X at ht HTB
  generalize hY : hdS (chr T) d 64 = Y at hh HHB
  have HY := Lib.hid hY
  clear hC hz hfz hX hY hp hs hg hCs
  go_enter Try.func7, Try.ntmps7
  go_wp2_with fail
  obtain ⟨W1, hW1⟩ : ∃ W1, w.alloc (.cells C 22) = W1 := ⟨_, rfl⟩
  rw [hW1]
  have HCL : Hid (∀ i, i < 64 → W1.cell? ⟨w.heap.size, i, none⟩ = some (.int .i32 (f i))) := Lib.hid fun i hi => by
    rw [← hW1, cell_of_row _ _ i _ _ _ (heap_alloc_new _ _)]
    exact HC.out i hi
  have HBW : Hid (Below w.heap.size w W1) := Lib.hid (by rw [← hW1]; exact (Below.refl _ _).alloc (Nat.le_refl _) _)
  clear hW1
  go_loopw [10] (fun s10 wr => ∃ i : Nat, i ≤ 64 ∧ s10 = .int .i64 i ∧ ∃ q, wr = W1.drewN q) (fun s10 _ => 64 - (intOf s10).toNat)
  case atStart => exact ⟨0, Nat.zero_le _, rfl, 0, rfl⟩
  case round =>
    obtain ⟨i, hi, rfl, qq, rfl⟩ := hrel
    by_cases hlt : i < 64
    · have hltz : (i : Int) < 64 := by omega
      have cI := HCL.out i hlt
      go_wp2_with fail
      go_loopw [11, 12] (fun s11 s12 wr => ∃ j : Nat, j ≤ 64 ∧ s11 = .int .i64 (rk f i j : Nat) ∧ s12 = .int .i64 j ∧ ∃ q, wr = W1.drewN q) (fun _ s12 _ => 64 - (intOf s12).toNat)
      case atStart => exact ⟨0, Nat.zero_le _, rfl, rfl, _, rfl⟩
      case round =>
        obtain ⟨j, hj, rfl, rfl, q2, rfl⟩ := hrel
        by_cases hjlt : j < 64
        · have hjz : (j : Int) < 64 := by omega
          have cJ := HCL.out j hjlt
          have hrl := rk_le (f := f) i j
          obtain ⟨a, hfa⟩ : ∃ a, f j = a := ⟨_, rfl⟩
          obtain ⟨b, hfb⟩ : ∃ b, f i = b := ⟨_, rfl⟩
          rw [hfa] at cJ
          rw [hfb] at cI
          by_cases hc : b < a
          ·
            have q1 : decide (b < a) = true := by simpa using hc
            have HRS : Hid (rk f i (j + 1) = rk f i j + 1) := Lib.hid (by rw [rk_succ, if_pos (by rw [ltF_iff]; simp only [hfa, hfb]; omega)])
            clear hfa hfb
            go_wp2_with fail
            go_quiet (fail)
            go_wp2_with fail
            go_roundw
            case rel => exact ⟨j + 1, by omega, by rw [HRS.out]; go_num, by go_num, _, rfl⟩
            case measure => simp [intOf]; omega
          by_cases he : a = b
          · by_cases hji : j < i
            ·
              have q1 : decide (b < a) = false := by simpa using hc
              have q2 : (a == b) = true := by simpa using he
              have q3 : decide (j < i) = true := by simpa using hji
              have q4 : (j : Int) < (i : Int) := by omega
              have HRS : Hid (rk f i (j + 1) = rk f i j + 1) := Lib.hid (by rw [rk_succ, if_pos (by rw [ltF_iff]; simp only [hfa, hfb]; omega)])
              clear hfa hfb
              go_wp2_with fail
              go_quiet (fail)
              go_wp2_with fail
              go_roundw
              case rel => exact ⟨j + 1, by omega, by rw [HRS.out]; go_num, by go_num, _, rfl⟩
              case measure => simp [intOf]; omega
            ·
              have q1 : decide (b < a) = false := by simpa using hc
              have q2 : (a == b) = true := by simpa using he
              have q3 : decide (j < i) = false := by simpa using hji
              have q4 : ¬ (j : Int) < (i : Int) := by omega
              have HRS : Hid (rk f i (j + 1) = rk f i j) := Lib.hid (by rw [rk_succ, if_neg (by rw [Bool.not_eq_true, ltF_not]; simp only [hfa, hfb]; omega), Nat.add_zero])
              clear hfa hfb
              go_wp2_with fail
              go_quiet (fail)
              go_wp2_with fail
              go_roundw
              case rel => exact ⟨j + 1, by omega, by rw [HRS.out], by go_num, _, rfl⟩
              case measure => simp [intOf]; omega
          ·
            have q1 : decide (b < a) = false := by simpa using hc
            have q2 : (a == b) = false := by simpa using he
            have HRS : Hid (rk f i (j + 1) = rk f i j) := Lib.hid (by rw [rk_succ, if_neg (by rw [Bool.not_eq_true, ltF_not]; simp only [hfa, hfb]; omega), Nat.add_zero])
            clear hfa hfb
            go_wp2_with fail
            go_quiet (fail)
            go_wp2_with fail
            go_roundw
            case rel => exact ⟨j + 1, by omega, by rw [HRS.out], by go_num, _, rfl⟩
            case measure => simp [intOf]; omega
        · have hjz : ¬ (j : Int) < 64 := by omega
          obtain ⟨r64, rp⟩ := HRK.out i hlt
          obtain ⟨r, hr⟩ : ∃ r, rk f i j = r := ⟨_, rfl⟩
          rw [show j = 64 by omega] at hr
          rw [hr] at r64 rp
          have hbt := HTB.out r r64
          rw [rp, HCB.out i hlt] at hbt
          obtain ⟨v, hv⟩ : ∃ v, bt T i = v := ⟨_, rfl⟩
          rw [hv] at hbt
          have gX : ∀ h' : r < X.size, ((X[r]'h').toNat : Int) = v := fun h' => (get_bt X r h').trans hbt
          have gT : ∀ h' : i < T.size, ((T[i]'h').toNat : Int) = v := fun h' => (get_bt T i h').trans hv
          have hr' : rk f i j = r := by rw [show j = 64 by omega]; exact hr
          have rz : (r : Int) < 64 := by omega
          rw [hr']
          clear hr hr' rp hbt hv cI
          go_wp2_with fail
          go_quiet (fail)
          go_wp2_with fail
          go_roundw
          case rel => exact ⟨i + 1, by omega, by go_num, _, rfl⟩
          case measure => simp [intOf]; omega
    · have hge : ¬ (i : Int) < 64 := by omega
      go_wp2_with fail
      go_loopw [13, 14] (fun s13 s14 wr => ∃ k hh : Nat, k ≤ 64 ∧ s13 = .int .i64 hh ∧ s14 = .int .i64 k ∧ Hid (hh = (hdS (chr T) d k).size) ∧ hh ≤ 64 ∧ ∃ q, wr = W1.drewN q) (fun _ s14 _ => 64 - (intOf s14).toNat)
      case atStart => exact ⟨0, 0, Nat.zero_le _, rfl, rfl, Lib.hid rfl, by omega, _, rfl⟩
      case round =>
        obtain ⟨k, h, hk, rfl, rfl, HH, hh64, q2, rfl⟩ := hrel
        by_cases hklt : k < 64
        · have hkz : (k : Int) < 64 := by omega
          obtain ⟨v, hv⟩ : ∃ v, bt X k = v := ⟨_, rfl⟩
          have hvb := HTB.out k hklt
          rw [hv] at hvb
          have gX : ∀ h' : k < X.size, ((X[k]'h').toNat : Int) = v := fun h' => (get_bt X k h').trans hv
          have hisd : isDig (chr T d[k]!) = (decide (48 ≤ v) && decide (v ≤ 57)) := by unfold isDig; rw [← hvb]
          have HDG := Lib.hid (fun w => dig13 v _ hisd w)
          cases hd : isDig (chr T d[k]!) with
          | true =>
            rw [hd] at HDG
            have HH2 : Hid (h = (hdS (chr T) d (k + 1)).size) := Lib.hid (by rw [hd_same hd]; exact HH.out)
            clear hd hisd hvb hv HH
            go_wp2_with (go_at_call 13; refine (HDG.out _).mono ?_; rintro e w3 ⟨rfl, rfl⟩)
            go_roundw
            case rel => exact ⟨k + 1, h, by omega, rfl, by go_num, HH2, hh64, _, rfl⟩
            case measure => simp [intOf]; omega
          | false =>
            rw [hd] at HDG
            obtain ⟨y1, y2, y3⟩ := HHB.out k hklt hd
            rw [← HH.out] at y1 y2 y3
            have gY : ∀ h' : h < Y.size, ((Y[h]'h').toNat : Int) = v := fun h' => (get_bt Y h h').trans (y2.trans hvb.symm)
            have HH2 : Hid (h + 1 = (hdS (chr T) d (k + 1)).size) := Lib.hid y3.symm
            have yz : ¬ (Y.size : Int) ≤ (h : Int) := by omega
            have yd : decide (Y.size ≤ h) = false := by simp; omega
            clear hd hisd hvb hv HH y2 y3
            go_wp2_with (go_at_call 13; refine (HDG.out _).mono ?_; rintro e w3 ⟨rfl, rfl⟩)
            go_roundw
            case rel => exact ⟨k + 1, h + 1, by omega, by go_num, by go_num, HH2, by omega, _, rfl⟩
            case measure => simp [intOf]; omega
        · have hkz : ¬ (k : Int) < 64 := by omega
          have e1 := HH.out
          rw [show k = 64 by omega, HY.out] at e1
          subst e1
          go_wp2_with fail
          go_ret
          exact ⟨by simp, below_drewN HBW.out _⟩
end
end Go.Proofs.Ytiocceoogapkcaa.Aux
