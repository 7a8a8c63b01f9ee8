/- Contracts of functions that the law of this seat reaches, and plain facts; no condition. -/
import Derived.Test.YtfjjokophgkifaaProg
import Derived.WalkKit
import Derived.ProofKit
import Derived.OpenShut
import Derived.ShutString
import Derived.Test.YtfjjokophgkifaaAid
import Derived.Test.YtfjjokophgkifaaFl
import Derived.Test.YtfjjokophgkifaaStr
import Derived.Test.YtfjjokophgkifaaPb
import Derived.Test.YtfjjokophgkifaaQd
import Derived.Test.YtfjjokophgkifaaAm
import Derived.Test.YtfjjokophgkifaaMp
import Derived.Test.YtfjjokophgkifaaA
import Derived.Test.YtfjjokophgkifaaAid
import Derived.Maps.RangeRun
import Derived.Carry
import Derived.Laws.IdiomRangeMap
import Derived.ArgAppend
import Derived.Maps.Own
import Derived.WalkSmall
import Derived.WalkSpells
import Derived.Laws.Externs
import Derived.WalkLawsBesides
import Derived.LoopTactic
import Derived.Deep.CutBlock
import Derived.Deep.DeepCutAuto
import Derived.IntWalk
import Derived.Outline
import Derived.Deep.QuietTactic
import Derived.BigQuiet
import Derived.RegionTactic
import Derived.Deep.RegionHeld3
import Derived.Deep.MidRow
import Derived.StillTailTactics
import Derived.BigRegion
import Derived.Laws.OwnMore
import Derived.Laws.Rows
namespace Go.Proofs.Ytfjjokophgkifaa.Aux
open Go.ChangeShapes Go.WideShapes Go.ChangeAt Go.RowKit
open Go.ChangeMaps (open_string shut_string)
set_option linter.unusedVariables false
set_option linter.unusedSimpArgs false
open Fl Str Pb Qd Am Mp PlainAid Aux
open Go.ChangeMaps
def psum (nk : Nat → Nat) : Nat → Nat
  | 0 => 0
  | j + 1 => psum nk j + nk j
theorem psum_mono (nk : Nat → Nat) : ∀ (b a : Nat), a ≤ b → psum nk a ≤ psum nk b := by
  intro b
  induction b with
  | zero => intro a h; rw [Nat.le_zero.1 h]; exact Nat.le_refl _
  | succ b ih =>
    intro a h
    by_cases e : a = b + 1
    · rw [e]; exact Nat.le_refl _
    · exact Nat.le_trans (ih a (by omega)) (Nat.le_add_right _ _)
theorem psum_le (nk : Nat → Nat) {j n : Nat} (h : j < n) : nk j ≤ psum nk n := by
  have h1 := psum_mono nk n (j + 1) h
  rw [psum] at h1
  omega
/-- The sizes fit. -/
def FB (n : Nat) (F : Nat → FD) : Prop := n ≤ 1048576 ∧ ∀ i, i < n → (F i).np ≤ 1048576 ∧ psum (F i).nk (F i).np ≤ 1048576
def Zz (n : Nat) (F : Nat → FD) (w : World) (e : Ending) (w' : World) : Prop := ∃ v, e = .returned (.bool v) ∧ w' = w ∧ Hid (v = true → FB n F)
set_option maxRecDepth 100000 in
set_option maxHeartbeats 40000000 in
theorem zz4 (a : Option Addr) (n cap : Nat) (F : Nat → FD) (x : Int) (w : World) (h : FilesIn w a n F) : Calls Try.prog 4 #[.slice a n cap, .int .u32 x] w (Zz n F w) := by
  rcases Nat.eq_zero_or_pos n with h0 | hpos
  · subst h0
    clear h
    go_enter Try.func4, Try.ntmps4
    go_wp2_with fail
    go_loopw [5, 6] (fun s5 s6 wr => s5 = .int .i64 0 ∧ s6 = .int .i64 0 ∧ w = wr) (fun _ _ _ => 0)
    case atStart => exact ⟨rfl, rfl, rfl⟩
    case round =>
      obtain ⟨rfl, rfl, rfl⟩ := hrel
      go_wp2_with fail
      go_ret
      exact ⟨_, rfl, rfl, Lib.hid fun _ => ⟨by omega, fun i hi => absurd hi (Nat.not_lt_zero _)⟩⟩
  · obtain ⟨b, o, rfl, hb, hA⟩ := h.block hpos
    have HA := Lib.hid hA
    clear hA h
    go_enter Try.func4, Try.ntmps4
    by_cases hn : (1048576 : Int) < (n : Int)
    · go_wp2_with fail
      go_ret
      exact ⟨_, rfl, rfl, Lib.hid fun e => by cases e⟩
    · go_wp2_with fail
      go_loopw [5, 6] (fun s5 s6 wr => ∃ (t : Int) (i : Nat), i ≤ n ∧ 0 ≤ t ∧ t ≤ 1048576 ∧ s5 = .int .i64 t ∧ s6 = .int .i64 i ∧ w = wr ∧ Hid (∀ k, k < i → (F k).np ≤ 1048576 ∧ psum (F k).nk (F k).np ≤ 1048576)) (fun _ s6 _ => n - (intOf s6).toNat)
      case atStart => exact ⟨n, 0, by omega, by omega, by omega, rfl, rfl, rfl, Lib.hid fun k hk => absurd hk (Nat.not_lt_zero _)⟩
      case round =>
        obtain ⟨t, i, hi, ht0, ht1, rfl, rfl, rfl, HN⟩ := hrel
        by_cases hlt : i < n
        · have hiz : (i : Int) < (n : Int) := by omega
          obtain ⟨pa, pc, hAt, hP⟩ := HA.out i hlt
          obtain ⟨f, hf⟩ : ∃ f, F i = f := ⟨_, rfl⟩
          rw [hf] at hAt hP
          obtain ⟨np, nk, im, has, css⟩ := f
          have c0 := hAt 0 _ rfl
          rw [Nat.add_zero] at c0
          have HF := Lib.hid hf
          have HP := Lib.hid hP
          clear hAt hP hf
          by_cases hnp : (1048576 : Int) < (np : Int)
          · go_wp2_with fail
            go_ret
            exact ⟨_, rfl, rfl, Lib.hid fun e => by cases e⟩
          · have hw1 : t + (np : Int) ≤ 2097152 := by omega
            by_cases hov : (1048576 : Int) < t + (np : Int)
            · go_wp2_with fail
              go_ret
              exact ⟨_, rfl, rfl, Lib.hid fun e => by cases e⟩
            · go_wp2_with fail
              go_loopw [5, 7] (fun s5 s7 wr => ∃ (t2 : Int) (j : Nat), j ≤ np ∧ (psum nk j : Int) ≤ t2 ∧ t2 ≤ 1048576 ∧ s5 = .int .i64 t2 ∧ s7 = .int .i64 j ∧ w = wr) (fun _ s7 _ => np - (intOf s7).toNat)
              case atStart => exact ⟨t + np, 0, by omega, by show ((0 : Nat) : Int) ≤ _; omega, by omega, rfl, rfl, rfl⟩
              case round =>
                obtain ⟨t2, j, hj, hs, ht2, rfl, rfl, rfl⟩ := hrel
                by_cases hjl : j < np
                · have hjz : (j : Int) < (np : Int) := by omega
                  obtain ⟨b2, o2, hpa, hb2, hI⟩ := HP.out.block (by omega)
                  subst hpa
                  obtain ⟨ia, ic, d0, _⟩ := hI j hjl
                  clear hI
                  obtain ⟨nkj, hnkj⟩ : ∃ m, nk j = m := ⟨_, rfl⟩
                  rw [hnkj] at d0
                  by_cases hnk : (1048576 : Int) < (nkj : Int)
                  · go_wp2_with fail
                    go_ret
                    exact ⟨_, rfl, rfl, Lib.hid fun e => by cases e⟩
                  · by_cases hov2 : (1048576 : Int) < t2 + (nkj : Int)
                    · go_wp2_with fail
                      go_ret
                      exact ⟨_, rfl, rfl, Lib.hid fun e => by cases e⟩
                    · go_wp2_with fail
                      go_roundw
                      case rel => exact ⟨t2 + nkj, j + 1, by omega, by rw [psum, hnkj]; push_cast; omega, by omega, rfl, by go_num, by trivial⟩
                      case measure => simp [intOf]; omega
                · have hjz : ¬ (j : Int) < (np : Int) := by omega
                  have hje : j = np := by omega
                  go_wp2_with fail
                  go_roundw
                  case rel => exact ⟨t2, i + 1, by omega, by omega, by omega, rfl, by go_num, by trivial, Lib.hid fun k hk => by
                    by_cases e : k = i
                    · rw [e, HF.out]
                      rw [hje] at hs
                      exact ⟨by show np ≤ _; omega, by show psum nk np ≤ _; omega⟩
                    · exact HN.out k (by omega)⟩
                  case measure => simp [intOf]; omega
        · have hiz : ¬ (i : Int) < (n : Int) := by omega
          go_wp2_with fail
          go_ret
          exact ⟨_, rfl, rfl, Lib.hid fun _ => ⟨by omega, fun k hk => HN.out k (by omega)⟩⟩
def Jb (w : World) (e : Ending) (w' : World) : Prop := ∃ t : Int, e = .returned (.int .i64 t) ∧ w' = w
set_option maxRecDepth 100000 in
set_option maxHeartbeats 40000000 in
theorem bytes5 (a : Option Addr) (n cap : Nat) (F : Nat → FD) (w : World) (h : FilesIn w a n F) (hfb : FB n F) : Calls Try.prog 5 #[.slice a n cap] w (Jb w) := by
  have hn20 : n ≤ 1048576 := hfb.1
  rcases Nat.eq_zero_or_pos n with h0 | hpos
  · subst h0
    clear h hfb
    go_enter Try.func5, Try.ntmps5
    go_wp2_with fail
    go_loopw [3, 4] (fun s3 s4 wr => s3 = .int .i64 0 ∧ s4 = .int .i64 0 ∧ w = wr) (fun _ _ _ => 0)
    case atStart => exact ⟨rfl, rfl, rfl⟩
    case round =>
      obtain ⟨rfl, rfl, rfl⟩ := hrel
      go_wp2_with fail
      go_ret
      exact ⟨_, rfl, rfl⟩
  · obtain ⟨b, o, rfl, hb, hA⟩ := h.block hpos
    have HA := Lib.hid hA
    have HFB := Lib.hid hfb.2
    clear hA h hfb
    go_enter Try.func5, Try.ntmps5
    by_cases hn : (1048576 : Int) < 16 * (n : Int)
    · go_wp2_with fail
      go_ret
      exact ⟨_, rfl, rfl⟩
    · go_wp2_with fail
      go_loopw [3, 4] (fun s3 s4 wr => ∃ (t : Int) (i : Nat), i ≤ n ∧ 0 ≤ t ∧ t ≤ 1048576 ∧ s3 = .int .i64 t ∧ s4 = .int .i64 i ∧ w = wr) (fun _ s4 _ => n - (intOf s4).toNat)
      case atStart => exact ⟨16 * n, 0, by omega, by omega, by omega, rfl, rfl, by trivial⟩
      case round =>
        obtain ⟨t, i, hi, ht0, ht1, rfl, rfl, rfl⟩ := hrel
        by_cases hlt : i < n
        · have hiz : (i : Int) < (n : Int) := by omega
          obtain ⟨pa, pc, hAt, hP⟩ := HA.out i hlt
          have hfb := HFB.out i hlt
          obtain ⟨f, hf⟩ : ∃ f, F i = f := ⟨_, rfl⟩
          rw [hf] at hAt hP hfb
          obtain ⟨np, nk, im, has, css⟩ := f
          have c0 := hAt 0 _ rfl
          rw [Nat.add_zero] at c0
          have HP := Lib.hid hP
          have hnp : np ≤ 1048576 := hfb.1
          have HPS : Hid (psum nk np ≤ 1048576) := Lib.hid hfb.2
          clear hAt hP hf hfb
          by_cases hov : (1048576 : Int) < t + 8 * (np : Int)
          · go_wp2_with fail
            go_ret
            exact ⟨_, rfl, rfl⟩
          · go_wp2_with fail
            go_loopw [3, 5] (fun s3 s5 wr => ∃ (t2 : Int) (j : Nat), j ≤ np ∧ 0 ≤ t2 ∧ t2 ≤ 1048576 ∧ s3 = .int .i64 t2 ∧ s5 = .int .i64 j ∧ w = wr) (fun _ s5 _ => np - (intOf s5).toNat)
            case atStart => exact ⟨t + 8 * np, 0, by omega, by omega, by omega, rfl, rfl, rfl⟩
            case round =>
              obtain ⟨t2, j, hj, ht20, ht2, rfl, rfl, rfl⟩ := hrel
              by_cases hjl : j < np
              · have hjz : (j : Int) < (np : Int) := by omega
                obtain ⟨b2, o2, hpa, hb2, hI⟩ := HP.out.block (by omega)
                subst hpa
                obtain ⟨ia, ic, d0, _⟩ := hI j hjl
                clear hI
                have hnk := Nat.le_trans (psum_le nk hjl) HPS.out
                obtain ⟨nkj, hnkj⟩ : ∃ m, nk j = m := ⟨_, rfl⟩
                rw [hnkj] at d0 hnk
                by_cases hov2 : (1048576 : Int) < t2 + 8 * (nkj : Int)
                · go_wp2_with fail
                  go_ret
                  exact ⟨_, rfl, rfl⟩
                · go_wp2_with fail
                  go_roundw
                  case rel => exact ⟨t2 + 8 * nkj, j + 1, by omega, by omega, by omega, rfl, by go_num, by trivial⟩
                  case measure => simp [intOf]; omega
              · have hjz : ¬ (j : Int) < (np : Int) := by omega
                go_wp2_with fail
                go_roundw
                case rel => exact ⟨t2, i + 1, by omega, by omega, by omega, rfl, by go_num, by trivial⟩
                case measure => simp [intOf]; omega
        · have hiz : ¬ (i : Int) < (n : Int) := by omega
          go_wp2_with fail
          go_ret
          exact ⟨_, rfl, rfl⟩
/-- What the check lets by. -/
def VL (n : Nat) (F : Nat → FD) : Prop := ∀ i, i < n → ((F i).has = true → (F i).css ≠ 4294967295) ∧ ∀ j, j < (F i).np → ∀ k, k < (F i).nk j → ((F i).im j k).v = true → ((F i).im j k).t < n
def VL' (m n : Nat) (F : Nat → FD) : Prop := ∀ i, i < m → ((F i).has = true → (F i).css ≠ 4294967295) ∧ ∀ j, j < (F i).np → ∀ k, k < (F i).nk j → ((F i).im j k).v = true → ((F i).im j k).t < n
def Jv (x : Int) (n : Nat) (F : Nat → FD) (w : World) (e : Ending) (w' : World) : Prop := ∃ v, e = .returned (.bool v) ∧ w' = w ∧ Hid (v = true → x < n ∧ VL n F)
set_option maxRecDepth 100000 in
set_option maxHeartbeats 40000000 in
theorem valid6 (a : Option Addr) (n cap : Nat) (F : Nat → FD) (x : Int) (w : World) (h : FilesIn w a n F) (hfb : FB n F) (hfw : FW n F) (hx : U32 x) : Calls Try.prog 6 #[.slice a n cap, .int .u32 x] w (Jv x n F w) := by
  have hn20 : n ≤ 1048576 := hfb.1
  obtain ⟨hx0, hx1⟩ := hx
  by_cases hxn : (n : Int) ≤ x
  · clear h hfb hfw
    go_enter Try.func6, Try.ntmps6
    go_wp2_with fail
    go_ret
    exact ⟨_, rfl, rfl, Lib.hid fun e => by cases e⟩
  · have hpos : 0 < n := by omega
    have hxn' : ¬ (x ≥ (n : Int)) := by omega
    obtain ⟨b, o, rfl, hb, hA⟩ := h.block hpos
    have HA := Lib.hid hA
    have HFB := Lib.hid hfb.2
    have HFW := Lib.hid hfw
    clear hA h hfb hfw
    go_enter Try.func6, Try.ntmps6
    go_wp2_with fail
    go_loopw [5] (fun s5 wr => ∃ (i : Nat), i ≤ n ∧ s5 = .int .i64 i ∧ w = wr ∧ Hid (VL' i n F)) (fun s5 _ => n - (intOf s5).toNat)
    case atStart => exact ⟨0, by omega, rfl, rfl, Lib.hid fun k hk => absurd hk (Nat.not_lt_zero _)⟩
    case round =>
      obtain ⟨i, hi, rfl, rfl, HV⟩ := hrel
      by_cases hlt : i < n
      · have hiz : (i : Int) < (n : Int) := by omega
        obtain ⟨pa, pc, hAt, hP⟩ := HA.out i hlt
        have hfb := HFB.out i hlt
        have hfw := HFW.out i hlt
        obtain ⟨f, hf⟩ : ∃ f, F i = f := ⟨_, rfl⟩
        rw [hf] at hAt hP hfb hfw
        obtain ⟨np, nk, im, has, css⟩ := f
        have c0 := hAt 0 _ rfl
        rw [Nat.add_zero] at c0
        have c1 := hAt 1 _ rfl
        have c2 := hAt 2 _ rfl
        have HP := Lib.hid hP
        have HF := Lib.hid hf
        have hnp : np ≤ 1048576 := hfb.1
        have HPS : Hid (psum nk np ≤ 1048576) := Lib.hid hfb.2
        have HU : Hid (∀ j, j < np → ∀ k, k < nk j → U32 (im j k).t) := Lib.hid hfw.2
        clear hAt hP hf hfb hfw
        by_cases hbad : has = true ∧ css = 4294967295
        · obtain ⟨rfl, rfl⟩ := hbad
          go_wp2_with fail
          go_ret
          exact ⟨_, rfl, rfl, Lib.hid fun e => by cases e⟩
        · have HB : Hid (has = true → css ≠ 4294967295) := Lib.hid fun e1 e2 => hbad ⟨e1, e2⟩
          have hgo : ∀ (G : Prop), (has = false → G) → (has = true → ¬ css = 4294967295 → G) → G := fun G g1 g2 => by
            cases hh : has with
            | false => exact g1 hh
            | true => exact g2 hh (fun e => hbad ⟨hh, e⟩)
          refine hgo _ (fun hh => ?_) (fun hh hcs => ?_)
          all_goals (
            subst hh
            clear hbad hgo
            go_wp2_with fail
            go_loopw [6] (fun s6 wr => ∃ (j : Nat), j ≤ np ∧ s6 = .int .i64 j ∧ w = wr ∧ Hid (∀ j', j' < j → ∀ k, k < nk j' → (im j' k).v = true → (im j' k).t < n)) (fun s6 _ => np - (intOf s6).toNat)
            case atStart => exact ⟨0, by omega, rfl, rfl, Lib.hid fun k hk => absurd hk (Nat.not_lt_zero _)⟩
            case round =>
              obtain ⟨j, hj, rfl, rfl, HJ⟩ := hrel
              by_cases hjl : j < np
              · have hjz : (j : Int) < (np : Int) := by omega
                obtain ⟨b2, o2, hpa, hb2, hI⟩ := HP.out.block (by omega)
                subst hpa
                obtain ⟨ia, ic, d0, hIm⟩ := hI j hjl
                have HIm := Lib.hid hIm
                clear hI hIm
                have hnk := Nat.le_trans (psum_le nk hjl) HPS.out
                have hu := HU.out j hjl
                obtain ⟨nkj, hnkj⟩ : ∃ m, nk j = m := ⟨_, rfl⟩
                rw [hnkj] at d0 hnk hu
                have HU2 := Lib.hid hu
                clear hu
                go_wp2_with fail
                go_loopw [8] (fun s8 wr => ∃ (k : Nat), k ≤ nkj ∧ s8 = .int .i64 k ∧ w = wr ∧ Hid (∀ k', k' < k → (im j k').v = true → (im j k').t < n)) (fun s8 _ => nkj - (intOf s8).toNat)
                case atStart => exact ⟨0, by omega, rfl, rfl, Lib.hid fun k hk => absurd hk (Nat.not_lt_zero _)⟩
                case round =>
                  obtain ⟨k, hk, rfl, rfl, HK⟩ := hrel
                  by_cases hkl : k < nkj
                  · have hkz : (k : Int) < (nkj : Int) := by omega
                    obtain ⟨b3, o3, hia, hb3, hAt3⟩ := HIm.out.block (by omega)
                    subst hia
                    have e0 := hAt3 k (by omega) 0 _ rfl
                    rw [Nat.add_zero] at e0
                    have e1 := hAt3 k (by omega) 1 _ rfl
                    clear hAt3
                    obtain ⟨hu0, hu1⟩ := HU2.out k hkl
                    obtain ⟨z, hz⟩ : ∃ z, im j k = z := ⟨_, rfl⟩
                    rw [hz] at e0 e1 hu0 hu1
                    obtain ⟨vv, tt⟩ := z
                    have HZ := Lib.hid hz
                    have hu0' : 0 ≤ tt := hu0
                    have hu1' : tt ≤ 4294967295 := hu1
                    clear hz hu0 hu1
                    cases vv with
                    | false =>
                      go_wp2_with fail
                      go_roundw
                      case rel => exact ⟨k + 1, by omega, by go_num, by trivial, Lib.hid fun k' hk' hv => by
                        by_cases e : k' = k
                        · rw [e, HZ.out] at hv; cases hv
                        · exact HK.out k' (by omega) hv⟩
                      case measure => simp [intOf]; omega
                    | true =>
                      by_cases htn : (n : Int) ≤ tt
                      · go_wp2_with fail
                        go_ret
                        exact ⟨_, rfl, rfl, Lib.hid fun e => by cases e⟩
                      · have htn' : ¬ (tt ≥ (n : Int)) := by omega
                        go_wp2_with fail
                        go_roundw
                        case rel => exact ⟨k + 1, by omega, by go_num, by trivial, Lib.hid fun k' hk' hv => by
                          by_cases e : k' = k
                          · rw [e, HZ.out]; show tt < n; omega
                          · exact HK.out k' (by omega) hv⟩
                        case measure => simp [intOf]; omega
                  · have hkz : ¬ (k : Int) < (nkj : Int) := by omega
                    go_wp2_with fail
                    go_roundw
                    case rel => exact ⟨j + 1, by omega, by go_num, by trivial, Lib.hid fun j' hj' k' hk' hv => by
                      by_cases e : j' = j
                      · rw [e] at hk' hv ⊢; exact HK.out k' (by omega) hv
                      · exact HJ.out j' (by omega) k' hk' hv⟩
                    case measure => simp [intOf]; omega
              · have hjz : ¬ (j : Int) < (np : Int) := by omega
                go_wp2_with fail
                go_roundw
                case rel => exact ⟨i + 1, by omega, by go_num, by trivial, Lib.hid fun i' hi' => by
                  by_cases e : i' = i
                  · rw [e, HF.out]; exact ⟨(fun e9 => by first | exact HB.out trivial | exact HB.out e9 | cases e9), fun j' hj' => HJ.out j' (by show j' < j; have : j' < np := hj'; omega)⟩
                  · exact HV.out i' (by omega)⟩
                case measure => simp [intOf]; omega)
      · have hiz : ¬ (i : Int) < (n : Int) := by omega
        go_wp2_with fail
        go_ret
        exact ⟨_, rfl, rfl, Lib.hid fun _ => ⟨by omega, fun k hk => HV.out k (by omega)⟩⟩
end Go.Proofs.Ytfjjokophgkifaa.Aux
