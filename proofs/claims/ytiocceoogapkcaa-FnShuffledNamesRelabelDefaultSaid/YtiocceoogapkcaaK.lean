/- Contracts of functions that the law of this seat reaches, and plain facts; no condition. -/
import Derived.Test.YtiocceoogapkcaaProg
import Derived.WalkKit
import Derived.ProofKit
import Derived.OpenShut
import Derived.ShutString
import Derived.Test.YtiocceoogapkcaaAid
import Derived.Test.YtiocceoogapkcaaJ
import Derived.Sort.LotA
import Derived.Sort.LotB
import Derived.Sort.LotC
import Derived.Sort.LotD3
import Derived.ArgAppend
import Derived.WalkSmall
import Derived.WalkSpells
import Derived.LoopTactic
import Derived.Deep.LoopGhost
import Derived.Deep.CutBlock
import Derived.Deep.DeepCutAuto
import Derived.IntWalk
import Derived.Outline
import Derived.Deep.QuietTactic
import Derived.BigQuiet
import Derived.RegionTactic
import Derived.StillTailTactics
import Derived.Shelf.Small.Bits
import Derived.Shelf.Lays
import Derived.Laws.BitsAllLaws
import Derived.Laws.BitsLemmas
import Derived.BigRegion
import Derived.Laws.OwnMore
import Derived.Laws.Rows
namespace Go.Proofs.Ytiocceoogapkcaa.Aux
open Go.ChangeShapes Go.WideShapes Go.ChangeAt Go.RowKit
open Go.ChangeMaps (open_string shut_string)
set_option linter.unusedVariables false
set_option linter.unusedSimpArgs false
open Fl Str Pb Qd PlainAid Aux
open Go.Sort (swp)
section
variable {g : Nat → ByteArray} {f : Nat → Int} {blk : Nat} {w w' W0 : World} {d : Array Nat}
/-- Sorting what is left sorts the whole. -/
def GD (f : Nat → Int) (a b : Nat) (d : Array Nat) (a' b' : Nat) (dk : Array Nat) : Prop := ∀ R, Sort.PermIn a' b' dk R → Sort.SortedIn (ltF f) a' b' R → Sort.PermIn a b d R ∧ Sort.SortedIn (ltF f) a b R
theorem gd_perm {a b a' b' : Nat} {dk d2 : Array Nat} (h : GD f a b d a' b' dk) (hp : Sort.PermIn a' b' dk d2) : GD f a b d a' b' d2 := fun R hR hS => h R (Sort.permIn_trans _ _ _ a' b' hp hR) hS
/-- What pdqsort leaves. -/
def Pq (g : Nat → ByteArray) (f : Nat → Int) (blk : Nat) (w : World) (d : Array Nat) (a b : Nat) (e : Ending) (w' : World) : Prop := e = .returned (.tuple #[]) ∧ ∃ d', Hid (Sort.PermIn a b d d' ∧ Sort.SortedIn (ltF f) a b d') ∧ Hid (SX g f blk w d' w')
theorem pq_fin {a b a' b' : Nat} {dk d2 : Array Nat} (h : GD f a b d a' b' dk) (hp : Sort.PermIn a' b' dk d2) (hs : Sort.SortedIn (ltF f) a' b' d2) (hx : SX g f blk w d2 w') : Pq g f blk w d a b (.returned (.tuple #[])) w' := ⟨rfl, d2, Lib.hid (h d2 hp hs), Lib.hid hx⟩
theorem sx_size {dk : Array Nat} (h : SX g f blk W0 dk w) : dk.size = 64 := h.1.1
set_option maxRecDepth 1000000 in
set_option maxHeartbeats 40000000 in
theorem pdq17 : ∀ (N a b lim : Nat) (d : Array Nat) (w : World), b - a < N → St g f blk w d → a ≤ b → b ≤ 64 → lim ≤ 1000 → Sort.Below (ltF f) a b d → Calls Try.prog 17 #[.iface 35 (.slice (some ⟨blk, 0, none⟩) 64 64), .int .i64 a, .int .i64 b, .int .i64 lim] w (Pq g f blk w d a b) := by
  intro N
  induction N with
  | zero => intro a b lim d w h; omega
  | succ N ih =>
    intro a b lim d w hN h hab hb hlim hB
    have mL := mLess blk
    have HIH := Lib.hid ih
    have HS := Lib.hid (SX.start h)
    have HBel := Lib.hid hB
    clear ih h hB
    go_enter Try.func17, Try.ntmps17
    go_wp2_with fail
    go_loopg [1, 2, 3, 8, 9] (b - a) (fun k s1 s2 s3 s8 s9 wr => ∃ (a' b' lim' : Nat) (wb wp : Bool) (dk : Array Nat), s1 = .int .i64 a' ∧ s2 = .int .i64 b' ∧ s3 = .int .i64 lim' ∧ s8 = .bool wb ∧ s9 = .bool wp ∧ a' ≤ b' ∧ b' ≤ 64 ∧ lim' ≤ 1000 ∧ b' - a' ≤ k ∧ k ≤ b - a ∧ Hid (SX g f blk w dk wr) ∧ Hid (Sort.Below (ltF f) a' b' dk) ∧ Hid (GD f a b d a' b' dk))
    case atStart => exact ⟨a, b, lim, true, true, d, rfl, rfl, rfl, rfl, rfl, hab, hb, hlim, Nat.le_refl _, Nat.le_refl _, HS, HBel, Lib.hid (fun R h1 h2 => ⟨h1, h2⟩)⟩
    case round =>
      obtain ⟨a', b', lim', wb, wp, dk, rfl, rfl, rfl, rfl, rfl, hab', hb', hlim', hk, hkb, HK, HBl, HG⟩ := hrel
      have hsz := sx_size HK.out
      by_cases h12 : b' - a' ≤ 12
      · have hz12 : (b' : Int) - (a' : Int) ≤ 12 := by omega
        have HI := Lib.hid (ins21 (a := a') (b := b') HK.out.1 hab' hb')
        go_wp2_with (go_at_call 21; refine HI.out.mono ?_; rintro e w1 ⟨rfl, H1⟩)
        refine bodyPost_ret (v := .tuple #[]) (by simp [results, Try.results17, go_sem]) rfl ?_
        have hh := Sort.insertionSort_holds (ltF_swo f) dk a' b' hab' (by omega)
        exact pq_fin HG.out hh.1 hh.2 (HK.out.trans H1.out)
      · have hz12 : ¬ (b' : Int) - (a' : Int) ≤ 12 := by omega
        by_cases hl0 : lim' = 0
        · have hz0 : (lim' : Int) = 0 := by omega
          have hz0b : ((lim' : Int) == 0) = true := by simp [hl0]
          have hz0c : (lim' == 0) = true := by simp [hl0]
          have HI := Lib.hid (heap22 (a := a') (b := b') HK.out.1 (by omega) hb')
          go_wp2_with (go_at_call 22; refine HI.out.mono ?_; rintro e w1 ⟨rfl, H1⟩)
          refine bodyPost_ret (v := .tuple #[]) (by simp [results, Try.results17, go_sem]) rfl ?_
          have hh := Sort.heapSort_holds (ltF_swo f) dk a' b' hab' (by omega)
          exact pq_fin HG.out hh.1 hh.2 (HK.out.trans H1.out)
        · have hz0 : ¬ (lim' : Int) = 0 := by omega
          have hz0b : ((lim' : Int) == 0) = false := by simp; omega
          have hz0c : (lim' == 0) = false := by simp; omega
          go_upto_if 35 with fail
          go_cut [3] from 36 to 41 (fun s3 wc => ∃ (lim2 : Nat) (d1 : Array Nat), s3 = .int .i64 lim2 ∧ lim2 ≤ 1000 ∧ Hid (Sort.PermIn a' b' dk d1) ∧ Hid (SX g f blk w d1 wc))
          case first =>
            cases wb
            · have HI := Lib.hid (brk23 (a := a') (b := b') HK.out.1 (by omega) hb')
              go_wp2_with (go_at_call 23; refine HI.out.mono ?_; rintro e w1 ⟨rfl, d1, HP1, H1⟩)
              go_meet
              case rel => exact ⟨lim' - 1, d1, by congr 1; omega, by omega, HP1, Lib.hid (HK.out.trans H1.out)⟩
            · go_wp2_with fail
              go_meet
              case rel => exact ⟨lim', dk, rfl, hlim', Lib.hid (Sort.permIn_refl dk a' b'), HK⟩
          case rest =>
            obtain ⟨lim2, d1, rfl, hlim2, HP1, HK1⟩ := hcut
            have HI := Lib.hid (pivot24 (a := a') (b := b') HK1.out.1 (by omega) hb')
            clear hz0 hz0b hz0c hl0 HK
            go_upto_if 50 with (go_at_call 24; refine HI.out.mono ?_; rintro e w2 ⟨p, hn, rfl, hp1, hp2, hn0, hn2, H2⟩; have HK2 := Lib.hid (HK1.out.trans H2.out))
            go_cut [11, 12] from 42 to 60 (fun s11 s12 wc => ∃ (p2 : Nat) (hn2 : Int) (d2 : Array Nat), s11 = .int .i64 p2 ∧ s12 = .int .i64 hn2 ∧ a' ≤ p2 ∧ p2 < b' ∧ 0 ≤ hn2 ∧ hn2 ≤ 2 ∧ Hid (Sort.PermIn a' b' dk d2) ∧ Hid (SX g f blk w d2 wc))
            case first =>
              by_cases hh2 : hn = 2
              · have hb2 : (hn == 2) = true := by simp [hh2]
                have HR := Lib.hid (rev25 (a := a') (b := b') HK2.out.1 hab' hb')
                go_wp2_with (go_at_call 25; refine HR.out.mono ?_; rintro e w3 ⟨rfl, H3⟩)
                go_meet
                case rel => exact ⟨b' - 1 - (p - a'), 1, _, by congr 1; omega, rfl, by omega, by omega, by omega, by omega, Lib.hid (Sort.permIn_trans _ _ _ a' b' HP1.out (Sort.reverseRange_holds d1 a' b' hab' (by have := sx_size HK1.out; omega))), Lib.hid (HK2.out.trans H3.out)⟩
              · have hb2 : (hn == 2) = false := by simpa using hh2
                go_wp2_with fail
                go_meet
                case rel => exact ⟨p, hn, d1, rfl, rfl, hp1, hp2, hn0, hn2, HP1, HK2⟩
            case rest =>
              obtain ⟨p2, hn2', d2, rfl, rfl, hp1', hp2', hn0', hn2'', HP2, HK3⟩ := hcut
              go_upto_region 15 with fail
              go_cut [68] from 61 to 67 (fun s68 wc => ∃ c : Bool, s68 = .bool c ∧ Hid (SX g f blk w d2 wc))
              case first =>
                cases wb
                · go_wp2_with fail
                  go_meet
                  case rel => exact ⟨_, rfl, HK3⟩
                · cases wp
                  · go_wp2_with fail
                    go_meet
                    case rel => exact ⟨_, rfl, HK3⟩
                  · go_wp2_with fail
                    all_goals go_meet
                    all_goals exact ⟨_, rfl, HK3⟩
              case rest =>
                obtain ⟨c68, rfl, HK4⟩ := hcut
                go_upto_if 68 with fail
                go_cut [] from 69 to 72 (fun wc => ∃ d3 : Array Nat, Hid (Sort.PermIn a' b' dk d3) ∧ Hid (SX g f blk w d3 wc))
                case first =>
                  cases c68
                  · go_wp2_with fail
                    go_meet
                    case rel => exact ⟨d2, HP2, HK4⟩
                  · have HI4 := Lib.hid (partial26 (a := a') (b := b') HK4.out.1 (by omega) hb')
                    have hh := Sort.partialInsertionSort_holds (ltF_swo f) d2 a' b' (by omega) (by have := sx_size HK4.out; omega) (Sort.Below.perm HBl.out (by omega) HP2.out)
                    have HH := Lib.hid hh
                    clear hh
                    cases hF : (Sort.partialInsertionSort (ltF f) d2 a' b').2 with
                    | true =>
                      have HF := Lib.hid hF
                      rw [hF] at HI4
                      clear hF
                      go_wp2_with (go_at_call 26; refine HI4.out.mono ?_; rintro e w4 ⟨rfl, H4⟩)
                      refine bodyPost_ret (v := .tuple #[]) (by simp [results, Try.results17, go_sem]) rfl ?_
                      exact pq_fin HG.out (Sort.permIn_trans _ _ _ a' b' HP2.out HH.out.1) (HH.out.2 HF.out) (HK4.out.trans H4.out)
                    | false =>
                      rw [hF] at HI4
                      clear hF
                      go_wp2_with (go_at_call 26; refine HI4.out.mono ?_; rintro e w4 ⟨rfl, H4⟩)
                      go_meet
                      case rel => exact ⟨_, Lib.hid (Sort.permIn_trans _ _ _ a' b' HP2.out HH.out.1), Lib.hid (HK4.out.trans H4.out)⟩
                case rest =>
                  obtain ⟨d3, HP3, HK5⟩ := hcut
                  have hsz3 := sx_size HK5.out
                  go_upto_region 17 with fail
                  go_cut [82] from 73 to 81 (fun s82 wc => ∃ c : Bool, s82 = .bool c ∧ Hid (c = true → 0 < a' ∧ ltF f d3[a' - 1]! d3[p2]! = false) ∧ Hid (SX g f blk w d3 wc))
                  case first =>
                    by_cases ha0 : 0 < a'
                    · have ha0z : 0 < (a' : Int) := by omega
                      have hl := sx_lessZ HK5.out (a' - 1) p2 ((a' : Int) - 1) (p2 : Int) (by omega) (by omega) (by omega) rfl
                      cases hb : ltF f d3[a' - 1]! d3[p2]! with
                      | true =>
                        rw [hb] at hl
                        have HL := Lib.hid hl
                        clear hl hb
                        go_wp2_with (go_at_call 53; refine HL.out.mono ?_; rintro e w5 ⟨rfl, H5⟩)
                        go_meet
                        case rel => exact ⟨_, rfl, Lib.hid (fun h => by cases h), H5⟩
                      | false =>
                        rw [hb] at hl
                        have HL := Lib.hid hl
                        have HBB := Lib.hid hb
                        clear hl hb
                        go_wp2_with (go_at_call 53; refine HL.out.mono ?_; rintro e w5 ⟨rfl, H5⟩)
                        go_meet
                        case rel => exact ⟨_, rfl, Lib.hid (fun _ => ⟨ha0, HBB.out⟩), H5⟩
                    · have ha0z : ¬ 0 < (a' : Int) := by omega
                      go_wp2_with fail
                      go_meet
                      case rel => exact ⟨_, rfl, Lib.hid (fun h => by cases h), HK5⟩
                  case rest =>
                    obtain ⟨c82, rfl, HC, HK6⟩ := hcut
                    have HB3 := Lib.hid (Sort.Below.perm HBl.out (by omega) HP3.out)
                    have HG3 := Lib.hid (gd_perm HG.out HP3.out)
                    cases c82
                    · have HPT := Lib.hid (part28 (a := a') (b := b') (p := p2) HK6.out.1 hp1' hp2' hb')
                      obtain ⟨mid, ap0, d4, hx⟩ : ∃ mid ap0 d4, Sort.partition (ltF f) d3 a' b' p2 = (mid, ap0, d4) := ⟨_, _, _, rfl⟩
                      obtain ⟨m1, m2, hs4, hB1, hB2, hGL, hGR⟩ := Sort.round_part (ltF_swo f) (Sort.partition_holds (ltF f)) hp1' hp2' (by omega) HB3.out hx
                      rw [hx] at HPT
                      have HB1 := Lib.hid hB1
                      have HB2 := Lib.hid hB2
                      have HGL := Lib.hid hGL
                      have HGR := Lib.hid hGR
                      clear hx hB1 hB2 hGL hGR
                      go_wp2_with fail
                      refine HPT.out.mono ?_
                      rintro e w7 ⟨ap, rfl, H7⟩
                      have HK7 := Lib.hid (HK6.out.trans H7.out)
                      clear HPT HK6 HK5 HI
                      by_cases hlr : mid - a' < b' - mid
                      · have hlrz : (mid : Int) - (a' : Int) < (b' : Int) - (mid : Int) := by omega
                        have HRC := Lib.hid (HIH.out a' mid lim2 d4 w7 (by omega) HK7.out.1 m1 (by omega) hlim2 HB1.out)
                        go_wp2_with (go_at_call 17; refine HRC.out.mono ?_; rintro e w8 ⟨rfl, d5, HPS, H8⟩)
                        go_roundg (b' - (mid + 1))
                        case rel => exact ⟨mid + 1, b', lim2, _, ap, d5, by go_num, rfl, rfl, rfl, rfl, by omega, hb', hlim2, Nat.le_refl _, by omega, Lib.hid (HK7.out.trans H8.out), Lib.hid (HGL.out d5 HPS.out.1 HPS.out.2).1, Lib.hid (fun R h1 h2 => by
                          have := (HGL.out d5 HPS.out.1 HPS.out.2).2 R h1 h2
                          exact HG3.out R this.1 this.2)⟩
                        case measure => omega
                      · have hlrz : ¬ (mid : Int) - (a' : Int) < (b' : Int) - (mid : Int) := by omega
                        have hrc := HIH.out (mid + 1) b' lim2 d4 w7 (by omega) HK7.out.1 (by omega) hb' hlim2 HB2.out
                        rw [show ((mid + 1 : Nat) : Int) = (mid : Int) + 1 by omega] at hrc
                        have HRC := Lib.hid hrc
                        clear hrc
                        go_wp2_with (go_at_call 17; refine HRC.out.mono ?_; rintro e w8 ⟨rfl, d5, HPS, H8⟩)
                        go_roundg (mid - a')
                        case rel => exact ⟨a', mid, lim2, _, ap, d5, rfl, rfl, rfl, rfl, rfl, m1, by omega, hlim2, Nat.le_refl _, by omega, Lib.hid (HK7.out.trans H8.out), Lib.hid (HGR.out d5 HPS.out.1 HPS.out.2).1, Lib.hid (fun R h1 h2 => by
                          have := (HGR.out d5 HPS.out.1 HPS.out.2).2 R h1 h2
                          exact HG3.out R this.1 this.2)⟩
                        case measure => omega
                    · obtain ⟨ha0, hnl⟩ := HC.out rfl
                      have HPT := Lib.hid (parteq27 (a := a') (b := b') (p := p2) HK6.out.1 hp1' hp2' hb')
                      obtain ⟨mid, d4, hx⟩ : ∃ mid d4, Sort.partitionEqual (ltF f) d3 a' b' p2 = (mid, d4) := ⟨_, _, rfl⟩
                      obtain ⟨m1, m2, hs4, hB1, hGL⟩ := Sort.round_eq (ltF_swo f) (Sort.partitionEqual_holds (ltF f)) ha0 hp1' hp2' (by omega) HB3.out hnl hx
                      rw [hx] at HPT
                      have HB1 := Lib.hid hB1
                      have HGL := Lib.hid hGL
                      clear hx hB1 hGL hnl
                      go_wp2_with (go_at_call 27; refine HPT.out.mono ?_; rintro e w7 ⟨rfl, H7⟩)
                      go_roundg (b' - mid)
                      case rel => exact ⟨mid, b', lim2, wb, wp, d4, rfl, rfl, rfl, rfl, rfl, m2, hb', hlim2, Nat.le_refl _, by omega, Lib.hid (HK6.out.trans H7.out), HB1, Lib.hid (fun R h1 h2 => by
                        have := HGL.out R h1 h2
                        exact HG3.out R this.1 this.2)⟩
                      case measure => omega
end
end Go.Proofs.Ytiocceoogapkcaa.Aux
