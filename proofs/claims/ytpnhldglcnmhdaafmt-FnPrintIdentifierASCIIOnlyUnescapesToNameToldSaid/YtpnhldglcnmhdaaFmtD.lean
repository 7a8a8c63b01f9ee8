/- Contracts of functions that the law of this seat reaches, and plain facts; no condition. -/
import Derived.Test.YtpnhldglcnmhdaaFmtProg
import Derived.WalkKit
import Derived.ProofKit
import Derived.OpenShut
import Derived.ShutString
import Derived.Test.YtpnhldglcnmhdaaFmtAid
import Derived.Test.YtpnhldglcnmhdaaFmtFl
import Derived.Test.YtpnhldglcnmhdaaFmtC
import Derived.Test.YtpnhldglcnmhdaaFmtStr
import Derived.Test.YtpnhldglcnmhdaaFmtPb
import Derived.Test.YtpnhldglcnmhdaaFmtQd
import Derived.ArgAppend
import Derived.WalkSmall
import Derived.Lib.OthersKept
import Derived.Laws.RangeAny
import Derived.Laws.OwnMore
import Derived.WalkSpells
import Derived.LoopTactic
import Derived.IntWalk
import Derived.Outline
import Derived.Deep.QuietTactic
import Derived.BigQuiet
import Derived.Deep.RegionHeld3
import Derived.Deep.RegionLaw
import Derived.StillTailTactics
import Derived.OwnWalk
import Derived.RegionTactic
import Derived.Laws.BitsAllLaws
import Derived.Laws.BitsLemmas
import Derived.Lib.ConvBytes
import Derived.Lib.RuneBytes
namespace Go.Proofs.YtpnhldglcnmhdaaFmt.Aux
open Go.ChangeShapes Go.WideShapes Go.ChangeAt Go.RowKit
open Go.ChangeMaps (open_string shut_string)
set_option linter.unusedVariables false
set_option linter.unusedSimpArgs false
open Fl Str Pb Qd PlainAid Aux
set_option maxRecDepth 100000 in
set_option maxHeartbeats 40000000 in
theorem quote12 (s : ByteArray) (hs : s.size ≤ 16777216) (R : List Int) (hR : Chn s 0 R) (hk : Ok R) (uf : Int) (w : World) : Calls Tryf.prog 12 #[.slice none 0 0, .string s, .int .u64 uf] w (Qi w R) := by
  have HQ := Lib.hid (qw_start w s)
  have HR := Lib.hid hR
  have HK := Lib.hid hk
  clear hR hk
  go_enter Tryf.func12, Tryf.ntmps12
  go_wp2_with fail
  go_loopw [0, 7, 8] (fun v b a wr => ∃ (i a0 : Nat) (acc : Bool) (Rd Pd Rt : List Int), b = .bool acc ∧ a = .int .i64 (a0 : Int) ∧ Hid (R = Rd ++ (Pd ++ Rt)) ∧ Hid (Chn s i Rt) ∧ Hid (QS s i a0 acc Pd) ∧ Hid (QW w s wr i v (ER Rd)) ∧ Hid ((ER Rd).length + 6 * Pd.length ≤ 6 * i)) (fun _ _ _ wr => s.size - wr.iterPos w.heap.size)
  case atStart => exact ⟨0, 0, false, [], [], R, rfl, rfl, Lib.hid rfl, HR, Lib.hid qs_no, HQ, Lib.hid (by simp [ER])⟩
  case round =>
    obtain ⟨i, a0, acc, Rd, Pd, Rt, rfl, rfl, HE, HC, HS, HU, HL⟩ := hrel
    have hit := HU.out.2.1
    have hl := HL.out
    have hsz := qw_lt HU.out
    have hile := chn_le HC.out
    rcases chn_cases HC.out with ⟨ei, er⟩ | ⟨r, m, R', er, hd, hc2, hlt⟩
    · have hnx := fun ty => Lib.run_next_end_at (P := Tryf.prog) wr w.heap.size s i ty hit (by omega)
      clear hit
      rcases id HS.out with ⟨rfl, hp⟩ | ⟨rfl, hpl, hpc, hpr⟩
      · have HX : Hid (ER Rd = ER R) := Lib.hid (by rw [HE.out, hp, er]; simp)
        clear ei er hp
        go_wp2_with fail
        go_ret
        exact qi_of HU.out HX.out
      · have HX : Hid (ER Rd ++ Pd = ER R) := Lib.hid (by rw [HE.out, er, List.append_nil, ER_app, ER_asc hpr])
        have ha : a0 ≤ s.size := by omega
        have HA := Lib.hid (ow_str HU.out.1 (by omega) (s.extract a0 s.size) Pd (pc_cells hpc (by omega) (Nat.le_refl _)) (by omega) 28)
        clear ei er hpl hpc hpr
        go_wp2_with (at_builtin; refine wpList_app rfl _ _ #[28, 9] rfl rfl rfl HA.out ?_; intro v' w1 hcn; have HN := Lib.hid hcn; clear hcn)
        go_ret
        exact qi_of (qw_ap HU.out HN.out) HX.out
    · have hnx := fun ty => Lib.run_next_any_at (P := Tryf.prog) wr w.heap.size s i ty hit hlt
      obtain ⟨d1, d2⟩ := dv_decode hd
      simp only [d1, d2] at hnx
      have hp := iterPos_of hit
      have HU2 := Lib.hid (qw_next HU.out m)
      obtain ⟨l1, l2, l3, l4⟩ := dv_lt hd
      obtain ⟨r0, r1, r2, r3, r4, r5⟩ := dv_r hd
      have hok := HK.out r (by rw [HE.out, er]; simp)
      have HC2 := Lib.hid hc2
      have HER := Lib.hid er
      clear hit d1 d2 hc2 hd er
      by_cases hasc : 32 ≤ r ∧ r ≤ 126
      · obtain ⟨h32, h126⟩ := hasc
        obtain ⟨rfl, eb⟩ := r4 (by omega)
        cases acc
        · have HP : Hid (Pd = []) := Lib.hid (by rcases HS.out with ⟨_, h⟩ | ⟨h, _⟩; exact h; cases h)
          have HS2 := Lib.hid (qs_first h32 h126 eb)
          clear eb r3 r4 r5
          go_wp2_with fail
          go_roundw
          case rel => exact ⟨i + 1, i, true, Rd, [r], R', rfl, rfl, Lib.hid (by rw [HE.out, HP.out, HER.out]; rfl), HC2, HS2, HU2, Lib.hid (by have := HP.out; subst this; simp at hl ⊢; omega)⟩
          case measure => rw [iterPos_of HU2.out.2.1, hp]; omega
        · have HS2 := Lib.hid (qs_more HS.out h32 h126 eb)
          clear eb r3 r4 r5
          go_wp2_with fail
          go_roundw
          case rel => exact ⟨i + 1, a0, true, Rd, Pd ++ [r], R', rfl, rfl, Lib.hid (by rw [HE.out, HER.out]; simp), HC2, HS2, HU2, Lib.hid (by simp; omega)⟩
          case measure => rw [iterPos_of HU2.out.2.1, hp]; omega
      · have hz := qw_lt HU2.out
        obtain ⟨da1, hda1⟩ : ∃ d : Nat, r / 4096 = (d : Int) := ⟨(r / 4096).toNat, by omega⟩
        obtain ⟨da2, hda2, hla2, hma2⟩ := and15 (r / 256) (by omega) (by omega)
        obtain ⟨da3, hda3, hla3, hma3⟩ := and15 (r / 16) (by omega) (by omega)
        obtain ⟨da4, hda4, hla4, hma4⟩ := and15 r (by omega) (by omega)
        obtain ⟨xa1, hxa1, exa1⟩ := hexG da1 (by omega)
        obtain ⟨xa2, hxa2, exa2⟩ := hexG da2 (by omega)
        obtain ⟨xa3, hxa3, exa3⟩ := hexG da3 (by omega)
        obtain ⟨xa4, hxa4, exa4⟩ := hexG da4 (by omega)
        have EXa : Hid (E r = [92, 117, xa1, xa2, xa3, xa4]) := Lib.hid (by rw [E_esc hasc, hda1, ← hma2, ← hma3, ← hma4, exa1, exa2, exa3, exa4])
        have hna1 : (da1 : Int) < 16 := by omega
        have hna2 : (da2 : Int) < 16 := by omega
        have hna3 : (da3 : Int) < 16 := by omega
        have hna4 : (da4 : Int) < 16 := by omega
        clear hma2 hma3 hma4 exa1 exa2 exa3 exa4
        have EL := Lib.hid (E_len r)
        have hcl : Hid (¬ (32 ≤ r ∧ r ≤ 126)) := Lib.hid hasc
        have hlo : r < 32 ∨ 126 < r := by omega
        have hub : r ≤ 65535 := hok.1
        clear hasc r3 r4 r5 hok
        cases acc
        · have HP : Hid (Pd = []) := Lib.hid (by rcases HS.out with ⟨_, h⟩ | ⟨h, _⟩; exact h; cases h)
          have R1 := Lib.hid (fun ty => ow_lit (qw_drew HU2.out).1 (by simp; omega) #[.int .u8 92, .int .u8 117, .int .u8 xa1, .int .u8 xa2, .int .u8 xa3, .int .u8 xa4] [92, 117, xa1, xa2, xa3, xa4] 6 rfl rfl (by simp; omega) ty)
          rcases hlo with hlo | hlo
          all_goals
            go_wp2_with fail
            refine wp_region_any (by kernel_rfl) ?_
            try (change wpAny _ _ _ _ _ _ _ (World.drew _))
            refine wpAny_take (i := 0) (v := u0) rfl (by kernel_rfl) (by kernel_rfl) (by kernel_rfl) (fun _ _ _ h => h) (Or.inl ⟨by rfl, fun w => by go_simp⟩) ?_
            refine wpAny_take (i := 1) (v := .int .i32 r) rfl (by kernel_rfl) (by kernel_rfl) (by kernel_rfl) (fun _ _ _ h => h) (Or.inl ⟨by rfl, fun w => by go_simp⟩) ?_
            refine wpAny_take (i := 2) (v := .int .i32 (da1 : Int)) rfl (by kernel_rfl) (by kernel_rfl) (by kernel_rfl) (fun _ _ _ h => h) (Or.inl ⟨by rfl, fun w => by go_simp⟩) ?_
            refine wpAny_take (i := 3) (v := .int .u8 xa1) rfl (by kernel_rfl) (by kernel_rfl) (by kernel_rfl) (fun _ _ _ h => h) (Or.inl ⟨by rfl, fun w => by go_simp⟩) ?_
            refine wpAny_take (i := 4) (v := .int .i32 r) rfl (by kernel_rfl) (by kernel_rfl) (by kernel_rfl) (fun _ _ _ h => h) (Or.inl ⟨by rfl, fun w => by go_simp⟩) ?_
            refine wpAny_take (i := 5) (v := .int .i32 (r / 256)) rfl (by kernel_rfl) (by kernel_rfl) (by kernel_rfl) (fun _ _ _ h => h) (Or.inl ⟨by rfl, fun w => by go_simp⟩) ?_
            refine wpAny_take (i := 6) (v := .int .i32 (da2 : Int)) rfl (by kernel_rfl) (by kernel_rfl) (by kernel_rfl) (fun _ _ _ h => h) (Or.inl ⟨by rfl, fun w => by go_simp⟩) ?_
            refine wpAny_take (i := 7) (v := .int .u8 xa2) rfl (by kernel_rfl) (by kernel_rfl) (by kernel_rfl) (fun _ _ _ h => h) (Or.inl ⟨by rfl, fun w => by go_simp⟩) ?_
            refine wpAny_take (i := 8) (v := .int .i32 r) rfl (by kernel_rfl) (by kernel_rfl) (by kernel_rfl) (fun _ _ _ h => h) (Or.inl ⟨by rfl, fun w => by go_simp⟩) ?_
            refine wpAny_take (i := 9) (v := .int .i32 (r / 16)) rfl (by kernel_rfl) (by kernel_rfl) (by kernel_rfl) (fun _ _ _ h => h) (Or.inl ⟨by rfl, fun w => by go_simp⟩) ?_
            refine wpAny_take (i := 10) (v := .int .i32 (da3 : Int)) rfl (by kernel_rfl) (by kernel_rfl) (by kernel_rfl) (fun _ _ _ h => h) (Or.inl ⟨by rfl, fun w => by go_simp⟩) ?_
            refine wpAny_take (i := 11) (v := .int .u8 xa3) rfl (by kernel_rfl) (by kernel_rfl) (by kernel_rfl) (fun _ _ _ h => h) (Or.inl ⟨by rfl, fun w => by go_simp⟩) ?_
            refine wpAny_take (i := 12) (v := .int .i32 r) rfl (by kernel_rfl) (by kernel_rfl) (by kernel_rfl) (fun _ _ _ h => h) (Or.inl ⟨by rfl, fun w => by go_simp⟩) ?_
            refine wpAny_take (i := 13) (v := .int .i32 (da4 : Int)) rfl (by kernel_rfl) (by kernel_rfl) (by kernel_rfl) (fun _ _ _ h => h) (Or.inl ⟨by rfl, fun w => by go_simp⟩) ?_
            refine wpAny_take (i := 14) (v := .int .u8 xa4) rfl (by kernel_rfl) (by kernel_rfl) (by kernel_rfl) (fun _ _ _ h => h) (Or.inl ⟨by rfl, fun w => by go_simp⟩) ?_
            refine wpAny_ready (rs := [15]) (by kernel_rfl) (by simp) ?_
            refine AllReady.cons rfl (fun K hK => ?_) AllReady.nil
            go_simp
            refine hK _ _ ?_
            clear hK K
            refine wpAny_ready (rs := [16]) (by kernel_rfl) (by simp) ?_
            refine AllReady.cons rfl (fun K hK => ?_) AllReady.nil
            refine step_app rfl _ _ #[28, 28] rfl rfl rfl (R1.out _) ?_
            rintro v2 w2 hcn2
            have HN2 := Lib.hid hcn2
            clear hcn2
            refine hK _ _ ?_
            clear hK K
            refine wpAny_ready (rs := [17]) (by kernel_rfl) (by simp) ?_
            refine AllReady.cons rfl (fun K hK => ?_) AllReady.nil
            go_simp
            refine hK _ _ ?_
            clear hK K
            refine wpAny_done (by kernel_rfl) ?_ _
            go_wp2_with fail
            go_roundw
            case rel => exact ⟨i + m, a0, false, Rd ++ [r], [], R', rfl, rfl, Lib.hid (by rw [HE.out, HP.out, HER.out]; simp), HC2, Lib.hid qs_no, Lib.hid (by rw [ER_app]; simp only [ER, List.append_nil]; rw [EXa.out]; exact qw_ap (qw_drew HU2.out) HN2.out), Lib.hid (by rw [ER_app]; simp [ER]; have := EL.out; omega)⟩
            case measure => rw [iterPos_of (qw_ap (qw_drew HU2.out) HN2.out).2.1, hp]; omega
        · obtain ⟨hpl, hpc, hpr⟩ : a0 + Pd.length = i ∧ PC s a0 Pd ∧ ∀ r ∈ Pd, 32 ≤ r ∧ r ≤ 126 := by rcases HS.out with ⟨h, _⟩ | ⟨_, h⟩; cases h; exact h
          have ha : a0 ≤ i := by omega
          have HA := Lib.hid (ow_str HU2.out.1 (by omega) (s.extract a0 i) Pd (pc_cells hpc (by omega) (by omega)) (by omega) 28)
          have HPR := Lib.hid hpr
          clear hpl hpc hpr
          rcases hlo with hlo | hlo
          all_goals
            go_wp2_with (at_builtin; refine wpList_app rfl _ _ #[28, 9] rfl rfl rfl HA.out ?_; intro v' w1 hcn; have HN := Lib.hid (qw_ap HU2.out hcn); have hz1 := hcn.2.size; clear hcn; have R1 := Lib.hid (fun ty => ow_lit (qw_drew HN.out).1 (by simp; omega) #[.int .u8 92, .int .u8 117, .int .u8 xa1, .int .u8 xa2, .int .u8 xa3, .int .u8 xa4] [92, 117, xa1, xa2, xa3, xa4] 6 rfl rfl (by simp; omega) ty))
            refine wp_region_any (by kernel_rfl) ?_
            try (change wpAny _ _ _ _ _ _ _ (World.drew _))
            refine wpAny_take (i := 0) (v := v') rfl (by kernel_rfl) (by kernel_rfl) (by kernel_rfl) (fun _ _ _ h => h) (Or.inl ⟨by rfl, fun w => by go_simp⟩) ?_
            refine wpAny_take (i := 1) (v := .int .i32 r) rfl (by kernel_rfl) (by kernel_rfl) (by kernel_rfl) (fun _ _ _ h => h) (Or.inl ⟨by rfl, fun w => by go_simp⟩) ?_
            refine wpAny_take (i := 2) (v := .int .i32 (da1 : Int)) rfl (by kernel_rfl) (by kernel_rfl) (by kernel_rfl) (fun _ _ _ h => h) (Or.inl ⟨by rfl, fun w => by go_simp⟩) ?_
            refine wpAny_take (i := 3) (v := .int .u8 xa1) rfl (by kernel_rfl) (by kernel_rfl) (by kernel_rfl) (fun _ _ _ h => h) (Or.inl ⟨by rfl, fun w => by go_simp⟩) ?_
            refine wpAny_take (i := 4) (v := .int .i32 r) rfl (by kernel_rfl) (by kernel_rfl) (by kernel_rfl) (fun _ _ _ h => h) (Or.inl ⟨by rfl, fun w => by go_simp⟩) ?_
            refine wpAny_take (i := 5) (v := .int .i32 (r / 256)) rfl (by kernel_rfl) (by kernel_rfl) (by kernel_rfl) (fun _ _ _ h => h) (Or.inl ⟨by rfl, fun w => by go_simp⟩) ?_
            refine wpAny_take (i := 6) (v := .int .i32 (da2 : Int)) rfl (by kernel_rfl) (by kernel_rfl) (by kernel_rfl) (fun _ _ _ h => h) (Or.inl ⟨by rfl, fun w => by go_simp⟩) ?_
            refine wpAny_take (i := 7) (v := .int .u8 xa2) rfl (by kernel_rfl) (by kernel_rfl) (by kernel_rfl) (fun _ _ _ h => h) (Or.inl ⟨by rfl, fun w => by go_simp⟩) ?_
            refine wpAny_take (i := 8) (v := .int .i32 r) rfl (by kernel_rfl) (by kernel_rfl) (by kernel_rfl) (fun _ _ _ h => h) (Or.inl ⟨by rfl, fun w => by go_simp⟩) ?_
            refine wpAny_take (i := 9) (v := .int .i32 (r / 16)) rfl (by kernel_rfl) (by kernel_rfl) (by kernel_rfl) (fun _ _ _ h => h) (Or.inl ⟨by rfl, fun w => by go_simp⟩) ?_
            refine wpAny_take (i := 10) (v := .int .i32 (da3 : Int)) rfl (by kernel_rfl) (by kernel_rfl) (by kernel_rfl) (fun _ _ _ h => h) (Or.inl ⟨by rfl, fun w => by go_simp⟩) ?_
            refine wpAny_take (i := 11) (v := .int .u8 xa3) rfl (by kernel_rfl) (by kernel_rfl) (by kernel_rfl) (fun _ _ _ h => h) (Or.inl ⟨by rfl, fun w => by go_simp⟩) ?_
            refine wpAny_take (i := 12) (v := .int .i32 r) rfl (by kernel_rfl) (by kernel_rfl) (by kernel_rfl) (fun _ _ _ h => h) (Or.inl ⟨by rfl, fun w => by go_simp⟩) ?_
            refine wpAny_take (i := 13) (v := .int .i32 (da4 : Int)) rfl (by kernel_rfl) (by kernel_rfl) (by kernel_rfl) (fun _ _ _ h => h) (Or.inl ⟨by rfl, fun w => by go_simp⟩) ?_
            refine wpAny_take (i := 14) (v := .int .u8 xa4) rfl (by kernel_rfl) (by kernel_rfl) (by kernel_rfl) (fun _ _ _ h => h) (Or.inl ⟨by rfl, fun w => by go_simp⟩) ?_
            refine wpAny_ready (rs := [15]) (by kernel_rfl) (by simp) ?_
            refine AllReady.cons rfl (fun K hK => ?_) AllReady.nil
            go_simp
            refine hK _ _ ?_
            clear hK K
            refine wpAny_ready (rs := [16]) (by kernel_rfl) (by simp) ?_
            refine AllReady.cons rfl (fun K hK => ?_) AllReady.nil
            refine step_app rfl _ _ #[28, 28] rfl rfl rfl (R1.out _) ?_
            rintro v2 w2 hcn2
            have HN2 := Lib.hid hcn2
            clear hcn2
            refine hK _ _ ?_
            clear hK K
            refine wpAny_ready (rs := [17]) (by kernel_rfl) (by simp) ?_
            refine AllReady.cons rfl (fun K hK => ?_) AllReady.nil
            go_simp
            refine hK _ _ ?_
            clear hK K
            refine wpAny_done (by kernel_rfl) ?_ _
            go_wp2_with fail
            go_roundw
            case rel => exact ⟨i + m, a0, false, Rd ++ (Pd ++ [r]), [], R', rfl, rfl, Lib.hid (by rw [HE.out, HER.out]; simp), HC2, Lib.hid qs_no, Lib.hid (by rw [ER_app, ER_app, ER_asc HPR.out]; simp only [ER, List.append_nil]; rw [EXa.out, ← List.append_assoc]; exact qw_ap (qw_drew HN.out) HN2.out), Lib.hid (by rw [ER_app, ER_app, ER_asc HPR.out]; simp [ER]; have := EL.out; omega)⟩
            case measure => rw [iterPos_of (qw_ap (qw_drew HN.out) HN2.out).2.1, hp]; omega
end Go.Proofs.YtpnhldglcnmhdaaFmt.Aux
