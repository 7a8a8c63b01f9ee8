/- Contracts of functions that the law of this seat reaches, and plain facts; no condition. -/
import Derived.Test.YtfjjokophgkifaaProg
import Derived.WalkKit
import Derived.ProofKit
import Derived.OpenShut
import Derived.ShutString
import Derived.Test.YtfjjokophgkifaaAid
import Derived.Test.YtfjjokophgkifaaFl
import Derived.Test.YtfjjokophgkifaaStr
import Derived.Test.YtfjjokophgkifaaPb
import Derived.Test.YtfjjokophgkifaaQd
import Derived.Test.YtfjjokophgkifaaAm
import Derived.Test.YtfjjokophgkifaaMp
import Derived.Test.YtfjjokophgkifaaD
import Derived.Test.YtfjjokophgkifaaAid
import Derived.Maps.RangeRun
import Derived.Carry
import Derived.Laws.IdiomRangeMap
import Derived.ArgAppend
import Derived.Maps.Own
import Derived.WalkSmall
import Derived.WalkSpells
import Derived.Laws.Externs
import Derived.WalkLawsBesides
import Derived.LoopTactic
import Derived.Deep.CutBlock
import Derived.Deep.DeepCutAuto
import Derived.IntWalk
import Derived.Outline
import Derived.Deep.QuietTactic
import Derived.BigQuiet
import Derived.RegionTactic
import Derived.Deep.RegionHeld3
import Derived.Deep.MidRow
import Derived.StillTailTactics
import Derived.BigRegion
import Derived.Laws.OwnMore
import Derived.Laws.Rows
namespace Go.Proofs.Ytfjjokophgkifaa.Aux
open Go.ChangeShapes Go.WideShapes Go.ChangeAt Go.RowKit
open Go.ChangeMaps (open_string shut_string)
set_option linter.unusedVariables false
set_option linter.unusedSimpArgs false
open Fl Str Pb Qd Am Mp PlainAid Aux
open Go.ChangeMaps
theorem rone (x : Int) : (#[.pointer none, .pointer none, .string ⟨#[]⟩, .string ⟨#[]⟩, .string ⟨#[]⟩, .string ⟨#[]⟩, .int .u8 0, .int .i32 0, .int .i32 0, .int .i32 0, .int .u32 x, .int .u32 0, .int .u16 0, .int .u8 0, .int .u8 0] : Array Value).all (·.oneCell') = true := by simp [Value.oneCell']
theorem infoU : (Try.prog.info? 23).map (fun i => (i.zero, i.size, i.bytes)) = some (some (.int .u32 0), 1, 4) := by kernel_rfl
set_option maxRecDepth 100000 in
set_option maxHeartbeats 40000000 in
theorem build9 (a : Option Addr) (n cap : Nat) (F : Nat → FD) (w : World) (h : FilesIn w a n F) (hfb : FB n F) (hfw : FW n F) (hpos : 0 < n) : Calls Try.prog 9 #[.slice a n cap] w (Lf n F w) := by
  have hn20 : n ≤ 1048576 := hfb.1
  obtain ⟨b, o, rfl, hb, hA⟩ := h.block hpos
  have HA := Lib.hid hA
  have HFB := Lib.hid hfb.2
  have HFW := Lib.hid hfw
  clear hA h hfb hfw
  obtain ⟨cs, hmk0⟩ := makeLF
  have hmk := hmk0 n hn20
  clear hmk0
  go_enter Try.func9, Try.ntmps9
  go_wp2_with fail
  go_loopw [4] (fun s4 wr => ∃ i : Nat, i ≤ n ∧ s4 = .int .i64 i ∧ Hid (JO w n F i wr)) (fun s4 _ => n - (intOf s4).toNat)
  case atStart => exact ⟨0, by omega, rfl, Lib.hid ⟨(Below.refl _ _).alloc (Nat.le_refl _) _, blk_made _ _ _ _, (fun k hk => absurd hk (Nat.not_lt_zero _))⟩⟩
  case round =>
    obtain ⟨i, hi, rfl, HC⟩ := hrel
    clear hmk
    by_cases hlt : i < n
    · have hiz : (i : Int) < (n : Int) := by omega
      obtain ⟨pa, pc, hAt, hP⟩ := HA.out i hlt
      have hfb := HFB.out i hlt
      have hfw := HFW.out i hlt
      obtain ⟨wo, hwo⟩ : ∃ wo, wo = wr := ⟨_, rfl⟩
      rw [← hwo] at HC ⊢
      clear hwo
      obtain ⟨f, hf⟩ : ∃ f, F i = f := ⟨_, rfl⟩
      rw [hf] at hAt hP hfb hfw
      obtain ⟨np, nk, im, has, css⟩ := f
      have hAo := hAt.below hb HC.out.bl
      have HAO := Lib.hid hAo
      have hbo : b < wo.heap.size := Nat.lt_of_lt_of_le hb HC.out.bl.size
      have c0 := hAo 0 _ rfl
      rw [Nat.add_zero] at c0
      have HP := Lib.hid (hP.below HC.out.bl)
      have HF := Lib.hid hf
      have hnp : np ≤ 1048576 := hfb.1
      have HPS : Hid (psum nk np ≤ 1048576) := Lib.hid hfb.2
      have HU : Hid (∀ j, j < np → ∀ k, k < nk j → U32 (im j k).t) := Lib.hid hfw.2
      have HUC : Hid (U32 css) := Lib.hid hfw.1
      obtain ⟨csp, hcsp⟩ : ∃ cs, (Value.agg #[.slice none 0 0, .slice none 0 0, .slice none 0 0, .slice none 0 0, .map none, .map none, .map none, .slice none 0 0, .bool false, .bool false, .bool false]).cells = cs := ⟨_, rfl⟩
      have hmk2 := run_make_many (P := Try.prog) Try.underlying129 infoPart hcsp (by omega) np (by omega)
      clear hAt hAo hP hf hfb hfw hcsp
      go_wp2_with fail
      go_loopw [5, 7] (fun s5 s7 w2 => ∃ (j : Nat) (ra : Option Addr) (rc : Nat), j ≤ np ∧ s7 = .int .i64 j ∧ s5 = .slice ra (psum nk j) rc ∧ Hid (wo.heap.size + 1 ≤ w2.heap.size ∧ ∃ xs, JP wo wo.heap.size (wo.heap.size + 1) ⟨np, nk, im, has, css⟩ j w2 (.slice ra (psum nk j) rc) xs)) (fun _ s7 _ => np - (intOf s7).toNat)
      case atStart => exact ⟨0, none, 0, by omega, rfl, rfl, Lib.hid ⟨by simp, [], ⟨(Below.refl _ _).alloc (Nat.le_refl _) _, blk_made _ _ _ _, (fun k hk => absurd hk (Nat.not_lt_zero _)), World.ownsRow_nil _ _ _ _, (fun k hk => absurd hk (Nat.not_lt_zero _)), Nat.lt_succ_self _⟩⟩⟩
      case round =>
        clear hmk2
        obtain ⟨j, ra, rc, hj, rfl, rfl, HJ0⟩ := hrel
        obtain ⟨w2, hw2⟩ : ∃ w2, w2 = wr := ⟨_, rfl⟩
        rw [← hw2] at HJ0 ⊢
        clear hw2
        obtain ⟨hB2, xs, hJ⟩ := HJ0.out
        have HJ := Lib.hid hJ
        clear HJ0 hJ c0
        have c0 := (HAO.out.below hbo HJ.out.bl) 0 _ rfl
        rw [Nat.add_zero] at c0
        by_cases hjl : j < np
        · have hjz : (j : Int) < (np : Int) := by omega
          obtain ⟨b2, o2, hy, hb2, hI⟩ := HP.out.block (by omega)
          subst hy
          obtain ⟨ia, ic, d00, hIm⟩ := hI j hjl
          have HIm := Lib.hid hIm
          have d0 := cell_below d00 HJ.out.bl hb2
          have hnk := Nat.le_trans (psum_le nk hjl) HPS.out
          have hps : psum nk j + nk j ≤ 1048576 := Nat.le_trans (by have := psum_mono nk np (j + 1) hjl; rwa [psum] at this) HPS.out
          have hu := HU.out j hjl
          obtain ⟨nkj, hnkj⟩ : ∃ m, nk j = m := ⟨_, rfl⟩
          obtain ⟨s, hs⟩ : ∃ s, psum nk j = s := ⟨_, rfl⟩
          rw [hnkj] at d0 hnk HIm hu hps
          rw [hs] at HJ hps ⊢
          have HNK := Lib.hid hnkj
          have HS := Lib.hid hs
          have HU2 := Lib.hid hu
          clear hI hIm d00 hnkj hs hu
          obtain ⟨csx, hcsx⟩ : ∃ cs, (Value.int .u32 0) = cs := ⟨_, rfl⟩
          have hmk3 := run_make_one (P := Try.prog) Try.underlying88 infoU rfl (by omega) nkj (by omega)
          clear hcsx
          go_wp2_with fail
          go_loopw [5, 10] (fun s5 s10 w3 => ∃ (k : Nat) (ra : Option Addr) (rc : Nat), k ≤ nkj ∧ s10 = .int .i64 k ∧ s5 = .slice ra (s + k) rc ∧ Hid (wo.heap.size + 1 ≤ w3.heap.size ∧ ∃ xs, JK wo wo.heap.size (wo.heap.size + 1) ⟨np, nk, im, has, css⟩ j s w2.heap.size k w3 (.slice ra (s + k) rc) xs)) (fun _ s10 _ => nkj - (intOf s10).toNat)
          case atStart => exact ⟨0, ra, rc, by omega, rfl, rfl, Lib.hid ⟨by simp; omega, xs, HJ.out.start2 HS.out HNK.out ((Below.refl _ _).alloc (Nat.le_refl _) _) (blk_made _ _ _ _)⟩⟩
          case round =>
            clear hmk3
            obtain ⟨k, ra3, rc3, hk, rfl, rfl, HK0⟩ := hrel
            obtain ⟨hB3, xs3, hK⟩ := HK0.out
            have HK := Lib.hid hK
            clear HK0 hK
            by_cases hkl : k < nkj
            · have hkz : (k : Int) < (nkj : Int) := by omega
              obtain ⟨b3, o3, hia, hb3, hA3⟩ := HIm.out.block (by omega)
              subst hia
              have hAk := (hA3 k hkl).below hb3 HK.out.bl
              have e0 := hAk 0 _ rfl
              rw [Nat.add_zero] at e0
              have e1 := hAk 1 _ rfl
              have hu := HU2.out k hkl
              obtain ⟨z, hz⟩ : ∃ z, im j k = z := ⟨_, rfl⟩
              rw [hz] at e0 e1 hu
              obtain ⟨vv, tt⟩ := z
              have HZ := Lib.hid hz
              have HUT : Hid (U32 tt) := Lib.hid hu
              have hkx : k < (⟨np, nk, im, has, css⟩ : FD).nk j := by show k < nk j; rw [HNK.out]; exact hkl
              obtain ⟨u0, g0⟩ := blk_ex HK.out.xbk (o := k) hkx
              have z0 := blk_fz HK.out.xbk k
              have hxl := blk_lt HK.out.xbk
              have hb3x : b3 < w2.heap.size := Nat.lt_trans hb3 HK.out.pbx
              have hne3 : b3 ≠ w2.heap.size := Nat.ne_of_lt hb3x
              have hb3w : b3 < wr.heap.size := Nat.lt_trans hb3x hxl
              obtain ⟨q, hq⟩ : ∃ q, s + k = q := ⟨_, rfl⟩
              rw [hq] at HK ⊢
              have hq20 : q ≤ 1048576 := by omega
              have hwr : IntKind.u32.wrap (q : Int) = (q : Int) := IntWalk.u32_in _ ⟨by omega, by omega⟩
              have HQ := Lib.hid hq
              clear hA3 hAk hz hu hq
              cases vv with
              | false =>
                have HAP := Lib.hid (fun ty => HK.out.app2 (W := (((wr.setCell ⟨w2.heap.size, k, none⟩ (.int .u32 (q : Int))).alloc (.cells #[.pointer none, .pointer none, .string ⟨#[]⟩, .string ⟨#[]⟩, .string ⟨#[]⟩, .string ⟨#[]⟩, .int .u8 0, .int .i32 0, .int .i32 0, .int .i32 0, .int .u32 0, .int .u32 0, .int .u16 0, .int .u8 0, .int .u8 0] 141)).alloc (.cells #[.pointer none, .pointer none, .string ⟨#[]⟩, .string ⟨#[]⟩, .string ⟨#[]⟩, .string ⟨#[]⟩, .int .u8 0, .int .i32 0, .int .i32 0, .int .i32 0, .int .u32 0, .int .u32 0, .int .u16 0, .int .u8 0, .int .u8 0] 141))) HQ.out hkx hq20 hB3 (((Below.refl _ _).alloc (Nat.le_refl _) _).alloc (by simp) _) (rc := #[.pointer none, .pointer none, .string ⟨#[]⟩, .string ⟨#[]⟩, .string ⟨#[]⟩, .string ⟨#[]⟩, .int .u8 0, .int .i32 0, .int .i32 0, .int .i32 0, .int .u32 0, .int .u32 0, .int .u16 0, .int .u8 0, .int .u8 0]) rfl (by show _ = some (Value.int .u32 (fl (im j k).v (im j k).t)); rw [HZ.out]; rfl) (rone _) (sb := wr.heap.size + 1) (c := 1) (by have := heap_alloc_new ((wr.setCell ⟨w2.heap.size, k, none⟩ (.int .u32 (q : Int))).alloc (.cells #[.pointer none, .pointer none, .string ⟨#[]⟩, .string ⟨#[]⟩, .string ⟨#[]⟩, .string ⟨#[]⟩, .int .u8 0, .int .i32 0, .int .i32 0, .int .i32 0, .int .u32 0, .int .u32 0, .int .u16 0, .int .u8 0, .int .u8 0] 141)) (.cells #[.pointer none, .pointer none, .string ⟨#[]⟩, .string ⟨#[]⟩, .string ⟨#[]⟩, .string ⟨#[]⟩, .int .u8 0, .int .i32 0, .int .i32 0, .int .i32 0, .int .u32 0, .int .u32 0, .int .u16 0, .int .u8 0, .int .u8 0] 141); rwa [show ((wr.setCell ⟨w2.heap.size, k, none⟩ (.int .u32 (q : Int))).alloc (.cells #[.pointer none, .pointer none, .string ⟨#[]⟩, .string ⟨#[]⟩, .string ⟨#[]⟩, .string ⟨#[]⟩, .int .u8 0, .int .i32 0, .int .i32 0, .int .i32 0, .int .u32 0, .int .u32 0, .int .u16 0, .int .u8 0, .int .u8 0] 141)).heap.size = wr.heap.size + 1 by simp [World.setCell]] at this) ty)
                go_wp2_with (refine Am.wpList_app (o := ⟨some 77, _, _, _, _, _⟩) rfl (.tmp 74) (.tmp 76) #[128, 128] rfl rfl rfl (HAP.out _) ?_; rintro v' w6 ⟨a', c', rfl, HN6⟩)
                go_roundw
                case rel => exact ⟨k + 1, a', c', by omega, by go_num, rfl, HN6⟩
                case measure => simp [intOf]; omega
              | true =>
                go_wp2_with fail
                have hbA : Below (wr.setCell ⟨w2.heap.size, k, none⟩ (.int .u32 (q : Int))).heap.size (wr.setCell ⟨w2.heap.size, k, none⟩ (.int .u32 (q : Int))) ((wr.setCell ⟨w2.heap.size, k, none⟩ (.int .u32 (q : Int))).alloc (.cells #[.pointer none, .pointer none, .string ⟨#[]⟩, .string ⟨#[]⟩, .string ⟨#[]⟩, .string ⟨#[]⟩, .int .u8 0, .int .i32 0, .int .i32 0, .int .i32 0, .int .u32 0, .int .u32 0, .int .u16 0, .int .u8 0, .int .u8 0] 141)) := (Below.refl _ _).alloc (Nat.le_refl _) _
                have hrA : ((wr.setCell ⟨w2.heap.size, k, none⟩ (.int .u32 (q : Int))).alloc (.cells #[.pointer none, .pointer none, .string ⟨#[]⟩, .string ⟨#[]⟩, .string ⟨#[]⟩, .string ⟨#[]⟩, .int .u8 0, .int .i32 0, .int .i32 0, .int .i32 0, .int .u32 0, .int .u32 0, .int .u16 0, .int .u8 0, .int .u8 0] 141)).heap[wr.heap.size]? = some (.cells #[.pointer none, .pointer none, .string ⟨#[]⟩, .string ⟨#[]⟩, .string ⟨#[]⟩, .string ⟨#[]⟩, .int .u8 0, .int .i32 0, .int .i32 0, .int .i32 0, .int .u32 0, .int .u32 0, .int .u16 0, .int .u8 0, .int .u8 0] 141 (0, 0)) := by
                  have := heap_alloc_new (wr.setCell ⟨w2.heap.size, k, none⟩ (.int .u32 (q : Int))) (.cells #[.pointer none, .pointer none, .string ⟨#[]⟩, .string ⟨#[]⟩, .string ⟨#[]⟩, .string ⟨#[]⟩, .int .u8 0, .int .i32 0, .int .i32 0, .int .i32 0, .int .u32 0, .int .u32 0, .int .u16 0, .int .u8 0, .int .u8 0] 141)
                  rwa [show (wr.setCell ⟨w2.heap.size, k, none⟩ (.int .u32 (q : Int))).heap.size = wr.heap.size by simp [World.setCell]] at this
                have hszA : ((wr.setCell ⟨w2.heap.size, k, none⟩ (.int .u32 (q : Int))).alloc (.cells #[.pointer none, .pointer none, .string ⟨#[]⟩, .string ⟨#[]⟩, .string ⟨#[]⟩, .string ⟨#[]⟩, .int .u8 0, .int .i32 0, .int .i32 0, .int .i32 0, .int .u32 0, .int .u32 0, .int .u16 0, .int .u8 0, .int .u8 0] 141)).heap.size = wr.heap.size + 1 := by simp [World.setCell]
                change Calls _ _ _ ((wr.setCell ⟨w2.heap.size, k, none⟩ (.int .u32 (q : Int))).alloc (.cells #[.pointer none, .pointer none, .string ⟨#[]⟩, .string ⟨#[]⟩, .string ⟨#[]⟩, .string ⟨#[]⟩, .int .u8 0, .int .i32 0, .int .i32 0, .int .i32 0, .int .u32 0, .int .u32 0, .int .u16 0, .int .u8 0, .int .u8 0] 141)) _
                obtain ⟨WA, hWA⟩ : ∃ WA, ((wr.setCell ⟨w2.heap.size, k, none⟩ (.int .u32 (q : Int))).alloc (.cells #[.pointer none, .pointer none, .string ⟨#[]⟩, .string ⟨#[]⟩, .string ⟨#[]⟩, .string ⟨#[]⟩, .int .u8 0, .int .i32 0, .int .i32 0, .int .i32 0, .int .u32 0, .int .u32 0, .int .u16 0, .int .u8 0, .int .u8 0] 141)) = WA := ⟨_, rfl⟩
                rw [hWA] at hbA hrA hszA ⊢
                refine (make12 tt HUT.out WA).mono ?_
                rintro e w5 ⟨rfl, hb5⟩
                have hr5 : w5.heap[wr.heap.size]? = some (.cells #[.pointer none, .pointer none, .string ⟨#[]⟩, .string ⟨#[]⟩, .string ⟨#[]⟩, .string ⟨#[]⟩, .int .u8 0, .int .i32 0, .int .i32 0, .int .i32 0, .int .u32 0, .int .u32 0, .int .u16 0, .int .u8 0, .int .u8 0] 141 (0, 0)) := (hb5.out.block _ (by omega)).trans hrA
                have hs5 : (wr.setCell ⟨w2.heap.size, k, none⟩ (.int .u32 (q : Int))).heap.size = wr.heap.size := by simp [World.setCell]
                have HB5 := Lib.hid (hbA.trans (hb5.out.mono (by rw [hs5]; omega)))
                have x0 : w5.cell? ⟨wr.heap.size, 0, none⟩ = some (.pointer none) := by rw [cell_of_row _ _ 0 _ _ _ hr5]; rfl
                have x1 : w5.cell? ⟨wr.heap.size, 1, none⟩ = some (.pointer none) := by rw [cell_of_row _ _ 1 _ _ _ hr5]; rfl
                have x2 : w5.cell? ⟨wr.heap.size, 2, none⟩ = some (.string ⟨#[]⟩) := by rw [cell_of_row _ _ 2 _ _ _ hr5]; rfl
                have x3 : w5.cell? ⟨wr.heap.size, 3, none⟩ = some (.string ⟨#[]⟩) := by rw [cell_of_row _ _ 3 _ _ _ hr5]; rfl
                have x4 : w5.cell? ⟨wr.heap.size, 4, none⟩ = some (.string ⟨#[]⟩) := by rw [cell_of_row _ _ 4 _ _ _ hr5]; rfl
                have x5 : w5.cell? ⟨wr.heap.size, 5, none⟩ = some (.string ⟨#[]⟩) := by rw [cell_of_row _ _ 5 _ _ _ hr5]; rfl
                have x6 : w5.cell? ⟨wr.heap.size, 6, none⟩ = some (.int .u8 0) := by rw [cell_of_row _ _ 6 _ _ _ hr5]; rfl
                have x7 : w5.cell? ⟨wr.heap.size, 7, none⟩ = some (.int .i32 0) := by rw [cell_of_row _ _ 7 _ _ _ hr5]; rfl
                have x8 : w5.cell? ⟨wr.heap.size, 8, none⟩ = some (.int .i32 0) := by rw [cell_of_row _ _ 8 _ _ _ hr5]; rfl
                have x9 : w5.cell? ⟨wr.heap.size, 9, none⟩ = some (.int .i32 0) := by rw [cell_of_row _ _ 9 _ _ _ hr5]; rfl
                have x10 : w5.cell? ⟨wr.heap.size, 10, none⟩ = some (.int .u32 0) := by rw [cell_of_row _ _ 10 _ _ _ hr5]; rfl
                have x11 : w5.cell? ⟨wr.heap.size, 11, none⟩ = some (.int .u32 0) := by rw [cell_of_row _ _ 11 _ _ _ hr5]; rfl
                have x12 : w5.cell? ⟨wr.heap.size, 12, none⟩ = some (.int .u16 0) := by rw [cell_of_row _ _ 12 _ _ _ hr5]; rfl
                have x13 : w5.cell? ⟨wr.heap.size, 13, none⟩ = some (.int .u8 0) := by rw [cell_of_row _ _ 13 _ _ _ hr5]; rfl
                have x14 : w5.cell? ⟨wr.heap.size, 14, none⟩ = some (.int .u8 0) := by rw [cell_of_row _ _ 14 _ _ _ hr5]; rfl
                have y10 := frozen_of_row _ _ 10 _ _ hr5
                have hl5 := Classical.byContradiction (fun hn : ¬ wr.heap.size < w5.heap.size => by rw [Array.getElem?_eq_none (by omega)] at hr5; cases hr5)
                clear hr5 hrA hbA hWA
                have HAP := Lib.hid (fun ty => HK.out.app2 (W := ((w5.setCell ⟨wr.heap.size, 10, none⟩ (.int .u32 (flip tt))).alloc (.cells #[.pointer none, .pointer none, .string ⟨#[]⟩, .string ⟨#[]⟩, .string ⟨#[]⟩, .string ⟨#[]⟩, .int .u8 0, .int .i32 0, .int .i32 0, .int .i32 0, .int .u32 (flip tt), .int .u32 0, .int .u16 0, .int .u8 0, .int .u8 0] 141))) HQ.out hkx hq20 hB3 ((HB5.out.setCell (by rw [hs5]; exact Nat.le_refl _) _).alloc (by rw [hs5]; simp [World.setCell]; omega) _) (rc := #[.pointer none, .pointer none, .string ⟨#[]⟩, .string ⟨#[]⟩, .string ⟨#[]⟩, .string ⟨#[]⟩, .int .u8 0, .int .i32 0, .int .i32 0, .int .i32 0, .int .u32 (flip tt), .int .u32 0, .int .u16 0, .int .u8 0, .int .u8 0]) rfl (by show _ = some (Value.int .u32 (fl (im j k).v (im j k).t)); rw [HZ.out]; rfl) (rone _) (sb := w5.heap.size) (c := 1) (by have := heap_alloc_new (w5.setCell ⟨wr.heap.size, 10, none⟩ (.int .u32 (flip tt))) (.cells #[.pointer none, .pointer none, .string ⟨#[]⟩, .string ⟨#[]⟩, .string ⟨#[]⟩, .string ⟨#[]⟩, .int .u8 0, .int .i32 0, .int .i32 0, .int .i32 0, .int .u32 (flip tt), .int .u32 0, .int .u16 0, .int .u8 0, .int .u8 0] 141); rwa [show (w5.setCell ⟨wr.heap.size, 10, none⟩ (.int .u32 (flip tt))).heap.size = w5.heap.size by simp [World.setCell]] at this) ty)
                clear hs5
                go_wp2_with (refine Am.wpList_app (o := ⟨some 77, _, _, _, _, _⟩) rfl (.tmp 74) (.tmp 76) #[128, 128] rfl rfl rfl (HAP.out _) ?_; rintro v' w6 ⟨a', c', rfl, HN6⟩)
                go_roundw
                case rel => exact ⟨k + 1, a', c', by omega, by go_num, rfl, HN6⟩
                case measure => simp [intOf]; omega
            · have hkz : ¬ (k : Int) < (nkj : Int) := by omega
              have hke : k = nkj := by omega
              have HK2 : Hid (JK wo wo.heap.size (wo.heap.size + 1) ⟨np, nk, im, has, css⟩ j s w2.heap.size nkj wr (.slice ra3 (s + nkj) rc3) xs3) := by rw [hke] at HK; exact HK
              have hbk := HK2.out.bk
              obtain ⟨u0, g0⟩ := blk_ex hbk (o := j * 11) (by show _ < np * 11; omega)
              have z0 := blk_fz hbk (j * 11)
              obtain ⟨u1, g1⟩ := blk_ex hbk (o := j * 11 + 1) (by show _ < np * 11; omega)
              have z1 := blk_fz hbk (j * 11 + 1)
              obtain ⟨u2, g2⟩ := blk_ex hbk (o := j * 11 + 2) (by show _ < np * 11; omega)
              have z2 := blk_fz hbk (j * 11 + 2)
              obtain ⟨u3, g3⟩ := blk_ex hbk (o := j * 11 + 3) (by show _ < np * 11; omega)
              have z3 := blk_fz hbk (j * 11 + 3)
              obtain ⟨u4, g4⟩ := blk_ex hbk (o := j * 11 + 4) (by show _ < np * 11; omega)
              have z4 := blk_fz hbk (j * 11 + 4)
              obtain ⟨u5, g5⟩ := blk_ex hbk (o := j * 11 + 5) (by show _ < np * 11; omega)
              have z5 := blk_fz hbk (j * 11 + 5)
              obtain ⟨u6, g6⟩ := blk_ex hbk (o := j * 11 + 6) (by show _ < np * 11; omega)
              have z6 := blk_fz hbk (j * 11 + 6)
              obtain ⟨u7, g7⟩ := blk_ex hbk (o := j * 11 + 7) (by show _ < np * 11; omega)
              have z7 := blk_fz hbk (j * 11 + 7)
              obtain ⟨u8, g8⟩ := blk_ex hbk (o := j * 11 + 8) (by show _ < np * 11; omega)
              have z8 := blk_fz hbk (j * 11 + 8)
              obtain ⟨u9, g9⟩ := blk_ex hbk (o := j * 11 + 9) (by show _ < np * 11; omega)
              have z9 := blk_fz hbk (j * 11 + 9)
              obtain ⟨u10, g10⟩ := blk_ex hbk (o := j * 11 + 10) (by show _ < np * 11; omega)
              have z10 := blk_fz hbk (j * 11 + 10)
              have hpl := blk_lt hbk
              clear hbk
              go_wp2_with fail
              go_roundw
              case rel =>
                have hst := HK2.out.fin2 HS.out HNK.out hjl
                exact ⟨j + 1, ra3, rc3, by omega, by go_num, by rw [psum, HS.out, HNK.out, hke], Lib.hid ⟨by show _ ≤ (putL wr wo.heap.size (j * 11) (pcells w2.heap.size nkj)).heap.size; rw [put_size]; exact hB3, xs3, hst⟩⟩
              case measure => simp [intOf]; omega
        · have hjz : ¬ (j : Int) < (np : Int) := by omega
          have hje : j = np := by omega
          have HJ2 : Hid (JP wo wo.heap.size (wo.heap.size + 1) ⟨np, nk, im, has, css⟩ np w2 (.slice ra (psum nk np) rc) xs) := by rw [hje] at HJ; exact HJ
          rw [hje]
          have c1 := (HAO.out.below hbo HJ2.out.bl) 1 _ rfl
          have c2 := (HAO.out.below hbo HJ2.out.bl) 2 _ rfl
          have hbw : b < w2.heap.size := Nat.lt_of_lt_of_le hbo (by omega)
          obtain ⟨ZJ, hzJ, hsJ, h63⟩ := reprInfo
          have hobk := blk_below HC.out.bk HJ2.out.bl (blk_lt HC.out.bk)
          have HOBK := Lib.hid hobk
          have hobl := blk_lt hobk
          clear hobk
          cases has with
          | false =>
            go_wp2_with fail
            obtain ⟨k1, k2, k3, k4⟩ := repr_cells (a := .slice (some ⟨wo.heap.size, 0, none⟩) np np) (b := .slice ra (psum nk np) rc) hsJ
            rw [h63] at k4
            have hr1 := heap_alloc_new w2 (.cells ((ZJ.setIfInBounds 20 (.slice (some ⟨wo.heap.size, 0, none⟩) np np)).setIfInBounds 35 (.slice ra (psum nk np) rc)) 180)
            have hb1 : Below w2.heap.size w2 (w2.alloc (.cells ((ZJ.setIfInBounds 20 (.slice (some ⟨wo.heap.size, 0, none⟩) np np)).setIfInBounds 35 (.slice ra (psum nk np) rc)) 180)) := (Below.refl _ _).alloc (Nat.le_refl _) _
            have hz1 : (w2.alloc (.cells ((ZJ.setIfInBounds 20 (.slice (some ⟨wo.heap.size, 0, none⟩) np np)).setIfInBounds 35 (.slice ra (psum nk np) rc)) 180)).heap.size = w2.heap.size + 1 := by simp
            change Calls _ _ _ (w2.alloc (.cells ((ZJ.setIfInBounds 20 (.slice (some ⟨wo.heap.size, 0, none⟩) np np)).setIfInBounds 35 (.slice ra (psum nk np) rc)) 180)) _
            obtain ⟨KK, hKK⟩ : ∃ KK, ((ZJ.setIfInBounds 20 (.slice (some ⟨wo.heap.size, 0, none⟩) np np)).setIfInBounds 35 (.slice ra (psum nk np) rc)) = KK := ⟨_, rfl⟩
            rw [hKK] at k1 k2 k3 k4 hr1 hb1 hz1 ⊢
            obtain ⟨W1, hW1⟩ : ∃ W1, w2.alloc (.cells KK 180) = W1 := ⟨_, rfl⟩
            rw [hW1] at hr1 hb1 hz1 ⊢
            clear hKK hW1 hzJ hsJ h63
            refine (file13 (some ⟨w2.heap.size, 0, none⟩) W1).mono ?_
            rintro e w7 ⟨V, rfl, hV, hb7⟩
            obtain ⟨v1, v2, v3⟩ := hV.out
            have hb27 : Below w2.heap.size w2 w7 := (hb1).trans (hb7.out.mono (hb1).size)
            have HR7 : Hid (Rep w7 w2.heap.size ⟨np, nk, im, false, css⟩) := Lib.hid (HJ2.out.rep2 hb27 (K := KK) ((hb7.out.block _ (Nat.lt_of_lt_of_le (Nat.lt_succ_self _) (by omega))).trans hr1) k1 k2 k3 k4)
            have HB7 := Lib.hid (HJ2.out.bl.trans (hb27.mono (by omega)) |> fun _ => hb27)
            have hth := there_blk (blk_below HOBK.out hb27 hobl) (o := i * 24) (m := 24) (by omega)
            have hsl : (Try.prog.info? 201).map (·.size) = some V.size := by rw [v1]; exact sizeL
            have hth2 : w7.there w.heap.size (i * 24) V.size := by rw [v1]; exact hth
            have HV := Lib.hid v2
            have HV1 := Lib.hid v1
            have hlw7 : w.heap.size < w7.heap.size := Nat.lt_of_lt_of_le hobl hb27.size
            clear hb27 hth v1 v2
            go_wp2_with (refine wpList_store_mid (op := ⟨none, _, _, _, _, _⟩) rfl 201 (.tmp 113) (.tmp 112) rfl w.heap.size (i * 24) V rfl rfl hth2 hsl v3 ?_)
            go_roundw
            case rel =>
              have hst := HC.out.step (W := w7) (V := V.toList) hlt ((HJ2.out.bl.trans (HB7.out.mono (Nat.le_of_lt (blk_lt HJ2.out.bk))))) (by simpa using HV1.out) (by simpa using HV.out) (by rw [HF.out]; exact HR7.out)
              rw [← setCells_put] at hst
              exact ⟨i + 1, by omega, by go_num, Lib.hid hst⟩
            case measure => simp [intOf]; omega
          | true =>
            go_wp2_with fail
            obtain ⟨k1, k2, k3, k4⟩ := repr_cells (a := .slice (some ⟨wo.heap.size, 0, none⟩) np np) (b := .slice ra (psum nk np) rc) hsJ
            rw [h63] at k4
            have hr1 := heap_alloc_new w2 (.cells ((ZJ.setIfInBounds 20 (.slice (some ⟨wo.heap.size, 0, none⟩) np np)).setIfInBounds 35 (.slice ra (psum nk np) rc)) 180)
            have hb1 : Below w2.heap.size w2 (w2.alloc (.cells ((ZJ.setIfInBounds 20 (.slice (some ⟨wo.heap.size, 0, none⟩) np np)).setIfInBounds 35 (.slice ra (psum nk np) rc)) 180)) := (Below.refl _ _).alloc (Nat.le_refl _) _
            have hz1 : (w2.alloc (.cells ((ZJ.setIfInBounds 20 (.slice (some ⟨wo.heap.size, 0, none⟩) np np)).setIfInBounds 35 (.slice ra (psum nk np) rc)) 180)).heap.size = w2.heap.size + 1 := by simp
            change Calls _ _ _ (w2.alloc (.cells ((ZJ.setIfInBounds 20 (.slice (some ⟨wo.heap.size, 0, none⟩) np np)).setIfInBounds 35 (.slice ra (psum nk np) rc)) 180)) _
            obtain ⟨KK, hKK⟩ : ∃ KK, ((ZJ.setIfInBounds 20 (.slice (some ⟨wo.heap.size, 0, none⟩) np np)).setIfInBounds 35 (.slice ra (psum nk np) rc)) = KK := ⟨_, rfl⟩
            rw [hKK] at k1 k2 k3 k4 hr1 hb1 hz1 ⊢
            obtain ⟨W1, hW1⟩ : ∃ W1, w2.alloc (.cells KK 180) = W1 := ⟨_, rfl⟩
            rw [hW1] at hr1 hb1 hz1 ⊢
            clear hKK hW1 hzJ hsJ h63
            refine (make12 css HUC.out W1).mono ?_
            rintro e w5 ⟨rfl, hb5⟩
            have hr5 := (hb5.out.block w2.heap.size (by omega)).trans hr1
            have hb25 := hb1.trans (hb5.out.mono hb1.size)
            have hs5 : w2.heap.size < w5.heap.size := Nat.lt_of_lt_of_le (by omega) hb5.out.size
            have x63 : w5.cell? ⟨w2.heap.size, 63, none⟩ = some (.int .u32 (fl false css)) := by rw [cell_of_row _ _ 63 _ _ _ hr5, k4]; rfl
            have y63 := frozen_of_row _ _ 63 _ _ hr5
            have hr6 : (w5.setCell ⟨w2.heap.size, 63, none⟩ (.int .u32 (flip css))).heap[w2.heap.size]? = some (.cells (KK.setIfInBounds 63 (.int .u32 (flip css))) 180 (0, 0)) := heap_setCell_same _ _ _ _ _ _ hr5
            have hb26 : Below w2.heap.size w2 (w5.setCell ⟨w2.heap.size, 63, none⟩ (.int .u32 (flip css))) := hb25.setCell (Nat.le_refl _) _
            obtain ⟨m1, m2, m3, m4⟩ := repr_set (v := .int .u32 (flip css)) k1
            rw [k2] at m2
            rw [k3] at m3
            clear hr5 hb25
            go_wp2_with fail
            refine (file13 (some ⟨w2.heap.size, 0, none⟩) (w5.setCell ⟨w2.heap.size, 63, none⟩ (.int .u32 (flip css)))).mono ?_
            rintro e w7 ⟨V, rfl, hV, hb7⟩
            obtain ⟨v1, v2, v3⟩ := hV.out
            have hb27 : Below w2.heap.size w2 w7 := (hb26).trans (hb7.out.mono (hb26).size)
            have HR7 : Hid (Rep w7 w2.heap.size ⟨np, nk, im, true, css⟩) := Lib.hid (HJ2.out.rep2 hb27 (K := KK.setIfInBounds 63 (.int .u32 (flip css))) ((hb7.out.block _ (Nat.lt_of_lt_of_le (Nat.lt_succ_self _) (by simp [World.setCell]; omega))).trans hr6) m1 m2 m3 m4)
            have HB7 := Lib.hid (HJ2.out.bl.trans (hb27.mono (by omega)) |> fun _ => hb27)
            have hth := there_blk (blk_below HOBK.out hb27 hobl) (o := i * 24) (m := 24) (by omega)
            have hsl : (Try.prog.info? 201).map (·.size) = some V.size := by rw [v1]; exact sizeL
            have hth2 : w7.there w.heap.size (i * 24) V.size := by rw [v1]; exact hth
            have HV := Lib.hid v2
            have HV1 := Lib.hid v1
            have hlw7 : w.heap.size < w7.heap.size := Nat.lt_of_lt_of_le hobl hb27.size
            clear hb27 hth v1 v2
            go_wp2_with (refine wpList_store_mid (op := ⟨none, _, _, _, _, _⟩) rfl 201 (.tmp 113) (.tmp 112) rfl w.heap.size (i * 24) V rfl rfl hth2 hsl v3 ?_)
            go_roundw
            case rel =>
              have hst := HC.out.step (W := w7) (V := V.toList) hlt ((HJ2.out.bl.trans (HB7.out.mono (Nat.le_of_lt (blk_lt HJ2.out.bk))))) (by simpa using HV1.out) (by simpa using HV.out) (by rw [HF.out]; exact HR7.out)
              rw [← setCells_put] at hst
              exact ⟨i + 1, by omega, by go_num, Lib.hid hst⟩
            case measure => simp [intOf]; omega
    · have hiz : ¬ (i : Int) < (n : Int) := by omega
      obtain rfl : i = n := by omega
      go_wp2_with fail
      go_ret
      exact ⟨_, rfl, Lib.hid ⟨HC.out.bk, HC.out.at_⟩, Lib.hid HC.out.bl⟩
end Go.Proofs.Ytfjjokophgkifaa.Aux
