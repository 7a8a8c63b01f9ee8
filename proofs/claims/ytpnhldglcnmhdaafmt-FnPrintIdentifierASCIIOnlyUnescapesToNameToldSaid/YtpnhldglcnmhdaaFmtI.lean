/- Contracts of functions that the law of this seat reaches, and plain facts; no condition. -/
import Derived.Test.YtpnhldglcnmhdaaFmtProg
import Derived.WalkKit
import Derived.ProofKit
import Derived.OpenShut
import Derived.ShutString
import Derived.Test.YtpnhldglcnmhdaaFmtAid
import Derived.Test.YtpnhldglcnmhdaaFmtFl
import Derived.Test.YtpnhldglcnmhdaaFmtH
import Derived.Test.YtpnhldglcnmhdaaFmtStr
import Derived.Test.YtpnhldglcnmhdaaFmtPb
import Derived.Test.YtpnhldglcnmhdaaFmtQd
import Derived.ArgAppend
import Derived.WalkSmall
import Derived.Lib.OthersKept
import Derived.Laws.RangeAny
import Derived.Laws.OwnMore
import Derived.WalkSpells
import Derived.LoopTactic
import Derived.IntWalk
import Derived.Outline
import Derived.Deep.QuietTactic
import Derived.BigQuiet
import Derived.Deep.RegionHeld3
import Derived.Deep.RegionLaw
import Derived.StillTailTactics
import Derived.OwnWalk
import Derived.RegionTactic
import Derived.Laws.BitsAllLaws
import Derived.Laws.BitsLemmas
import Derived.Lib.ConvBytes
import Derived.Lib.RuneBytes
import Derived.Maps.Own
import Derived.Laws.IdiomStrings
import Derived.Laws.BytesArg
namespace Go.Proofs.YtpnhldglcnmhdaaFmt.Aux
open Go.ChangeShapes Go.WideShapes Go.ChangeAt Go.RowKit
open Go.ChangeMaps (open_string shut_string)
set_option linter.unusedVariables false
set_option linter.unusedSimpArgs false
open Fl Str Pb Qd PlainAid Aux
/-- The runes read so far. -/
def RD (s : ByteArray) (k : Nat) (D : List Int) : Prop := (∀ Rt, Chn s k Rt → Chn s 0 (D ++ Rt)) ∧ Ok D
theorem rd_step {s : ByteArray} {k m : Nat} {D : List Int} {r : Int} (h : RD s k D) (hd : Dv s k r m) (h1 : r ≤ 65535) (h2 : r ≠ 92) : RD s (k + m) (D ++ [r]) := by
  refine ⟨fun Rt hR => ?_, fun x hx => ?_⟩
  · have := h.1 (r :: Rt) (.cons hd hR)
    simpa using this
  · rcases List.mem_append.1 hx with hx | hx
    · exact h.2 x hx
    · simp at hx; subst hx; exact ⟨h1, h2⟩
theorem gd4t (s : ByteArray) (hs : ¬ (1048576 : Int) < (s.size : Int)) (w : World) : Calls Tryf.prog 4 #[.string s] w fun e w' => w' = w ∧ e = .returned (.bool true) := by
  go_enter Tryf.func4, Tryf.ntmps4
  go_wp2_with fail
  go_ret
  exact ⟨rfl, rfl⟩
theorem u8_ge (R : List Int) : R.length ≤ (U8 R).length := by
  induction R with
  | nil => simp [U8]
  | cons r R ih => have := (Lib.encodeRuneZ_length r).1; simp [U8]; omega
theorem chn_rng_r {s : ByteArray} : ∀ (R : List Int) (i : Nat), Chn s i R → ∀ r ∈ R, 0 ≤ r ∧ r ≤ 1114111 ∧ (r < 55296 ∨ 57343 < r) := by
  intro R
  induction R with
  | nil => intro i _ r hr; cases hr
  | cons x R ih =>
    intro i h r hr
    rcases chn_cases h with ⟨_, e⟩ | ⟨r', m, R', e, hd, hc, _⟩
    · cases e
    · injection e with e1 e2
      subst e1; subst e2
      rcases List.mem_cons.1 hr with rfl | hr
      · have := dv_r hd
        exact ⟨this.1, this.2.1, this.2.2.1⟩
      · exact ih _ hc r hr
def Fin (w : World) (e : Ending) (w' : World) : Prop := e = .returned (.bool true) ∧ Below w.heap.size w w'
set_option maxRecDepth 100000 in
set_option maxHeartbeats 40000000 in
theorem main3 (s : ByteArray) (w : World) : Calls Tryf.prog 3 #[.string s] w (Fin w) := by
  have HG := Lib.hid (fun w => gd4 s w)
  by_cases hbig : (1048576 : Int) < (s.size : Int)
  · go_enter Tryf.func3, Tryf.ntmps3
    go_wp2_with (go_at_call 4; refine (HG.out _).mono ?_; rintro e w ⟨rfl, v, rfl⟩)
    all_goals go_ret
    all_goals exact ⟨rfl, Below.refl _ _⟩
  have HG := Lib.hid (fun w => gd4t s hbig w)
  have hs : s.size ≤ 1048576 := by omega
  have hdb : decide ((1048576 : Int) < (s.size : Int)) = false := by simpa using hbig
  clear hbig
  have hbig : (s.size : Int) ≤ 1048576 := by omega
  have HD := Lib.hid (fun k (hk : k < s.size) w => dz s k (by omega) hk w)
  go_enter Tryf.func3, Tryf.ntmps3
  go_wp2_with (go_at_call 4; refine (HG.out _).mono ?_; rintro e w ⟨rfl, rfl⟩)
  clear HG
  go_loopw [3] (fun i wr => ∃ (k : Nat) (D : List Int), i = .int .i64 (k : Int) ∧ k ≤ s.size ∧ Hid (RD s k D) ∧ ∃ q, wr = w.drewN q) (fun i _ => s.size - (intOf i).toNat)
  case atStart => exact ⟨0, [], rfl, Nat.zero_le _, Lib.hid ⟨fun Rt h => h, fun x hx => by cases hx⟩, 0, rfl⟩
  case round =>
    obtain ⟨k, D, rfl, hk, HR, q, rfl⟩ := hrel
    by_cases hlt : k < s.size
    · go_wp2_with fail
      refine (HD.out k hlt _).mono ?_
      rintro e w' ⟨⟨q2, rfl⟩, r, m, rfl, hm1, hm4, hkm, HDv⟩
      by_cases e65 : r = 65533
      · by_cases em : m = 1
        · subst e65
          have hm' : ((m : Int) == 1) = true := by simp [em]
          have hm2 : (m : Int) = 1 := by omega
          go_wp2_with fail
          go_ret
          exact ⟨rfl, below_drewN (Below.refl _ _) _⟩
        · have hdv : Dv s k r m := HDv.out.elim id fun h => absurd h.2 em
          subst e65
          have hm' : ((m : Int) == 1) = false := by simp; omega
          have hm2 : ¬ (m : Int) = 1 := by omega
          have HR2 := Lib.hid (rd_step HR.out hdv (by omega) (by omega))
          clear hdv em
          go_wp2_with fail
          go_roundw
          case rel => exact ⟨k + m, _, by go_num, hkm, HR2, _, rfl⟩
          case measure => simp [intOf]; omega
      · have hdv : Dv s k r m := HDv.out.elim id fun h => absurd h.1 e65
        have hr65 : ((r : Int) == 65533) = false := by simpa using e65
        have hrr := dv_r hdv
        by_cases hb : 65535 < r
        · clear hdv hrr
          go_wp2_with fail
          go_ret
          exact ⟨rfl, below_drewN (Below.refl _ _) _⟩
        · by_cases h92 : r = 92
          · subst h92
            clear hdv hrr
            go_wp2_with fail
            go_ret
            exact ⟨rfl, below_drewN (Below.refl _ _) _⟩
          · have hr92 : ((r : Int) == 92) = false := by simpa using h92
            have HR2 := Lib.hid (rd_step HR.out hdv (by omega) h92)
            clear hdv hrr
            go_wp2_with fail
            go_roundw
            case rel => exact ⟨k + m, _, by go_num, hkm, HR2, _, rfl⟩
            case measure => simp [intOf]; omega
    · have hR : Chn s 0 D := by
        have := HR.out.1 [] (by have e : k = s.size := by omega
                                rw [e]; exact .nil)
        simpa using this
      have HCH := Lib.hid hR
      have HN := Lib.hid (fun w => np6 w)
      have HP := Lib.hid (fun p w h => pr7 p s (by omega) D hR HR.out.2 w h)
      clear hR
      go_wp2_with fail
      refine (HN.out _).mono ?_
      rintro e w1 ⟨p, rfl, hps, HB1, HP1⟩
      have HPP := Lib.hid (HP.out p w1 hps.out)
      clear hps HP HN
      go_wp2_with fail
      refine HPP.out.mono ?_
      rintro e w2 ⟨rfl, ja, jc, hc9, HO, HB2⟩
      have hlen : (ER D).length ≤ 6 * s.size := by
        have h1 := ER_len D
        have h2 := u8_ge D
        have h3 := (chn_bytes D 0 HCH.out).1
        omega
      have HW := Lib.hid (below_of_drewN (HB1.out.trans (HB2.out.mono HP1.out.1)))
      generalize hL : (ER D).length = L at hc9 HO hlen
      have HJ := Lib.hid (js8 p _ _ _ w2 hc9)
      clear hc9 HPP
      go_wp2_with fail
      refine HJ.out.mono ?_
      rintro e w2 ⟨rfl, rfl⟩
      have HC := Lib.hid (ow_at HO.out).2
      have HL := Lib.hid hL
      clear hL HO HJ HB1 HB2 HP1
      go_wp2_with fail
      go_loopw [8, 9] (fun b j wr => ∃ (jj : Nat) (Rd Rt : List Int) (ba : Option Addr) (bn bc : Nat), b = .slice ba bn bc ∧ j = .int .i64 (jj : Int) ∧ jj ≤ L ∧ Hid (QB w2 D jj (.slice ba bn bc) wr Rd Rt)) (fun _ j _ => L - (intOf j).toNat)
      case atStart => exact ⟨0, [], D, none, 0, 0, rfl, rfl, Nat.zero_le _, Lib.hid ⟨rfl, rfl, ow_nil _ _, Below.refl _ _, by simp [U8]⟩⟩
      case round =>
        obtain ⟨jj, Rd, Rt, ba, bn, bc, rfl, rfl, hjj, HQ⟩ := hrel
        have hzw := HQ.out.2.2.2.1.size
        rcases Rt with _ | ⟨r, R'⟩
        · have hRd : D = Rd := by have := HQ.out.1; simpa using this
          have hge : ¬ (jj : Int) < (L : Int) := by
            have h1 := HQ.out.2.1
            have h2 := HL.out
            rw [hRd] at h2
            omega
          have hcv := conv28 HCH.out (by rw [hRd]; exact HQ.out.2.2.1)
          clear hRd
          go_wp2_with fail
          go_ret
          exact ⟨by simp, HW.out.trans (HQ.out.2.2.2.1.mono HW.out.size)⟩
        · have hRd := HQ.out.1
          have hel := er_len Rd R' r
          rw [← hRd, HL.out, ← HQ.out.2.1] at hel
          have hel2 : jj + (E r).length ≤ L := by omega
          clear hel
          have hok := HR.out.2 r (by rw [hRd]; simp)
          have hat := fun t ht => er_at Rd R' r t ht
          rw [← hRd, ← HQ.out.2.1] at hat
          have hu8 := HQ.out.2.2.2.2
          rw [← HQ.out.2.1] at hu8
          have hcel : ∀ t, t < (E r).length → ∃ g, ja = some ⟨g, 0, none⟩ ∧ wr.cell? ⟨g, jj + t, none⟩ = some (.int .u8 ((E r).getD t 0)) := fun t ht => by
            obtain ⟨g, e, hg, _, hc⟩ := HC.out (jj + t) (by rw [HL.out]; omega)
            rw [hat t ht] at hc
            exact ⟨g, e, (HQ.out.2.2.2.1.cell (p := ⟨g, jj + t, none⟩) hg).trans hc⟩
          have hr0 := chn_rng_r _ _ HCH.out r (by rw [hRd]; simp)
          have hlt : (jj : Int) < (L : Int) := by have := E_len r; omega
          clear hat hRd
          by_cases hasc : 32 ≤ r ∧ r ≤ 126
          · obtain ⟨h32, h126⟩ := hasc
            have hE := E_asc h32 h126
            obtain ⟨g, rfl, hc0⟩ := hcel 0 (by rw [hE]; simp)
            rw [hE] at hc0
            simp only [Nat.add_zero, List.getD_cons_zero] at hc0
            have h92 : ((r : Int) == 92) = false := by simpa using hok.2
            have h92' : ((r : Int) != 92) = true := by simpa using hok.2
            have hen := Lib.encodeRuneZ_one (r := r) (by omega) (by omega)
            have HA := Lib.hid (fun ty => ow_lit HQ.out.2.2.1 hzw #[.int .u8 r] [r] 1 rfl rfl (by simp; omega) ty)
            have HEE := Lib.hid hE
            have HEN := Lib.hid hen
            clear hE hen hcel hok
            go_wp2_with (at_builtin; refine wpList_app rfl _ _ #[28, 28] rfl rfl rfl (HA.out _) ?_; intro v' w1 hcn; obtain ⟨ba2, bc2, e2⟩ := ow_slice hcn.1; generalize (U8 Rd ++ [r]).length = bn2 at e2; subst e2; have HN := Lib.hid hcn; clear hcn)
            go_roundw
            case rel => exact ⟨jj + 1, Rd ++ [r], R', _, _, _, rfl, by go_num, by omega, Lib.hid (qb_ap HQ.out (by rw [HEN.out]; exact HN.out) (by rw [HEE.out]; rfl))⟩
            case measure => simp [intOf]; omega
          · have hE := E_esc hasc
            have hEl : (E r).length = 6 := by rw [hE]; rfl
            obtain ⟨g, rfl, hc0⟩ := hcel 0 (by rw [hE]; simp)
            obtain ⟨g', eg, hc1⟩ := hcel 1 (by rw [hE]; simp)
            cases eg
            rw [hE] at hc0 hc1
            simp only [Nat.add_zero, List.getD_cons_zero, List.getD_cons_succ] at hc0 hc1
            have HDG : Hid (∀ t, t < 4 → wr.cell? ⟨g, jj + 2 + t, none⟩ = some (.int .u8 (hx (dg r t)))) := Lib.hid fun t ht => by
              obtain ⟨g', eg, hc⟩ := hcel (2 + t) (by rw [hE]; simp; omega)
              cases eg
              rw [e_dig r hasc t ht, ← Nat.add_assoc] at hc
              exact hc
            have HEL := Lib.hid hEl
            have hj6 : (jj : Int) + 6 ≤ (L : Int) := by omega
            have HA := Lib.hid (app9 w2.heap.size ba bn bc (U8 Rd) r (by omega) hok.1 hr0.2.2 wr HQ.out.2.2.1 hzw (by omega))
            clear hcel hE hEl hasc
            obtain ⟨wo, hwo⟩ : ∃ wo : World, wo = wr := ⟨_, rfl⟩
            subst hwo
            go_wp2_with fail
            go_loop [11, 12] (fun c kk => ∃ (t : Nat) (y : Int), t ≤ 4 ∧ Hid (y = cv r t) ∧ c = .int .i32 y ∧ kk = .int .i64 ((jj + 2 + t : Nat) : Int)) (fun _ kk => jj + 6 - (intOf kk).toNat)
            case atStart => exact ⟨0, 0, by omega, Lib.hid (by simp [cv]), rfl, by go_num⟩
            case round =>
              obtain ⟨t, y, ht, HY, rfl, rfl⟩ := hrel
              by_cases h4 : t < 4
              · have hrg := cv_rng r (by omega) hok.1 t h4
                rw [← HY.out] at hrg
                obtain ⟨y0, y1⟩ := hrg
                have hdr := dg_rng r (by omega) hok.1 t
                obtain ⟨x, hx0⟩ : ∃ x, dg r t = x := ⟨_, rfl⟩
                have hcx := HDG.out t h4
                rw [hx0] at hcx hdr
                have HY2 : Hid (y * 16 + x = cv r (t + 1)) := Lib.hid (by rw [cv_step r (by omega) hok.1 t h4, ← HY.out, hx0])
                obtain ⟨x0, x1⟩ := hdr
                have hk6 : ((jj + 2 + t : Nat) : Int) < (jj : Int) + 6 := by omega
                have hkL : jj + 2 + t < L := by omega
                clear hx0 HY HDG
                by_cases hten : x < 10
                · rw [hx, if_pos hten] at hcx
                  go_wp2_with fail
                  go_round
                  case rel => exact ⟨t + 1, _, by omega, HY2, by go_num, by go_num⟩
                  case measure => simp [intOf]; omega
                · rw [hx, if_neg hten] at hcx
                  go_wp2_with fail
                  go_round
                  case rel => exact ⟨t + 1, _, by omega, HY2, by go_num, by go_num⟩
                  case measure => simp [intOf]; omega
              · obtain rfl : t = 4 := by omega
                have hy : y = r := by rw [HY.out]; simp [cv]
                subst hy
                have hk6 : ¬ ((jj + 2 + 4 : Nat) : Int) < (jj : Int) + 6 := by omega
                clear HDG HY
                go_wp2_with (go_at_call 9; refine HA.out.mono ?_; rintro e w6 ⟨ba2, bn2, bc2, rfl, HN⟩)
                go_roundw
                case rel => exact ⟨jj + 6, _, R', _, _, _, rfl, by go_num, by omega, Lib.hid (qb_ap HQ.out HN.out HEL.out)⟩
                case measure => simp [intOf]; omega
end Go.Proofs.YtpnhldglcnmhdaaFmt.Aux
