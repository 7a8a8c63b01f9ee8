/- Contracts of functions that the law of this seat reaches, and plain facts; no condition. -/
import Derived.Test.YtogacjjgfpkdfaaProg
import Derived.WalkKit
import Derived.ProofKit
import Derived.OpenShut
import Derived.ShutString
import Derived.Test.YtogacjjgfpkdfaaAid
import Derived.Test.YtogacjjgfpkdfaaFl
import Derived.Test.YtogacjjgfpkdfaaStr
import Derived.Test.YtogacjjgfpkdfaaPb
import Derived.Test.YtogacjjgfpkdfaaQd
import Derived.Test.YtogacjjgfpkdfaaAm
import Derived.Test.YtogacjjgfpkdfaaMp
import Derived.Test.YtogacjjgfpkdfaaM
import Derived.Test.YtogacjjgfpkdfaaAid
import Derived.Maps.RangeRun
import Derived.Carry
import Derived.Laws.IdiomRangeMap
import Derived.ArgAppend
import Derived.Maps.Own
import Derived.WalkSmall
import Derived.WalkSpells
import Derived.Laws.Externs
import Derived.WalkLawsBesides
import Derived.LoopTactic
import Derived.Deep.CutBlock
import Derived.Deep.DeepCutAuto
import Derived.IntWalk
import Derived.Outline
import Derived.Deep.QuietTactic
import Derived.BigQuiet
import Derived.RegionTactic
import Derived.Deep.RegionHeld3
import Derived.Deep.MidRow
import Derived.StillTailTactics
import Derived.BigRegion
import Derived.Laws.OwnMore
import Derived.Laws.Rows
namespace Go.Proofs.Ytogacjjgfpkdfaa.Aux
open Go.ChangeShapes Go.WideShapes Go.ChangeAt Go.RowKit
open Go.ChangeMaps (open_string shut_string)
set_option linter.unusedVariables false
set_option linter.unusedSimpArgs false
open Fl Str Pb Qd Am Mp PlainAid Aux
open Go.ChangeMaps
set_option maxRecDepth 100000 in
set_option maxHeartbeats 40000000 in
theorem conv11 (a0 : Option Addr) (m c0 : Nat) (xs0 : List Value) (kind : Int) (ab n : Nat) (M : Nat → MD) (B : Nat) (w : World) (hown : w.ownsRow B 37 8 (.slice a0 m c0) m xs0) (hpk : PK w (.slice a0 m c0) xs0) (hB : B ≤ w.heap.size) (h : AMsgs w ab n M) (hm20 : m ≤ 1048576) (hn20 : n ≤ 1048576) (hnl : ∀ i, i < n → (M i).nl ≤ 1048576) :
    Calls Try.prog 11 #[.slice a0 m c0, .int .u8 kind, .slice (some ⟨ab, 0, none⟩) n n] w (CV w B (.slice a0 m c0) m xs0 M n kind) := by
  have HA := Lib.hid h
  have HNL := Lib.hid hnl
  have HSEP := Lib.hid (sep_own hown)
  have hl0 := own_len hown
  have HO := Lib.hid hown
  have H0 : Hid (∃ ys, KO w B (.slice a0 m c0) m xs0 M kind 0 w (.slice a0 (m + 0) c0) ys) := Lib.hid ⟨[], ⟨Chg.refl _ _, by rw [List.append_nil]; exact hown, .inl rfl, rfl, fun k hk => absurd hk (Nat.not_lt_zero _), hpk⟩⟩
  clear hnl h hown hpk
  go_enter Try.func11, Try.ntmps11
  go_wp2_with fail
  go_loopw [0, 14] (fun s0 s14 wr => ∃ (i : Nat) (a : Option Addr) (c : Nat), i ≤ n ∧ s14 = .int .i64 i ∧ s0 = .slice a (m + i) c ∧ Hid (∃ ys, KO w B (.slice a0 m c0) m xs0 M kind i wr (.slice a (m + i) c) ys)) (fun _ s14 _ => n - (intOf s14).toNat)
  case atStart => exact ⟨0, a0, c0, by omega, rfl, rfl, H0⟩
  case round =>
    clear H0
    obtain ⟨i, a, c, hi, rfl, rfl, HC0⟩ := hrel
    obtain ⟨ys, hC0⟩ := HC0.out
    have HC := Lib.hid hC0
    clear hC0 HC0
    by_cases hlt : i < n
    · have hiz : (i : Int) < (n : Int) := by omega
      obtain ⟨wo, hwo⟩ : ∃ wo, wo = wr := ⟨_, rfl⟩
      rw [← hwo] at HC ⊢
      clear hwo
      have HAo := Lib.hid (amsgs_chg HC.out.ch HSEP.out HA.out (by decide) (by decide) (by decide))
      obtain ⟨p, na, nc, hA, hL, hN⟩ := HAo.out.2 i hlt
      have habo := blk_lt HAo.out.1
      obtain ⟨mm, hm⟩ : ∃ mm, M i = mm := ⟨_, rfl⟩
      have hnl := HNL.out i hlt
      rw [hm] at hA hN hL hnl
      obtain ⟨id, plug, text, loc, nl, nd⟩ := mm
      have g0 := hA 0 _ rfl
      rw [Nat.add_zero] at g0
      have g1 := hA 1 _ rfl
      have g2 := hA 2 _ rfl
      have g3 := hA 3 _ rfl
      have g4 := hA 4 _ rfl
      have g5 := hA 5 _ rfl
      have hnl20 : nl ≤ 1048576 := hnl
      have HM := Lib.hid hm
      have HN0 := Lib.hid hN
      have HL := Lib.hid hL
      clear hA hm hnl hN hL HAo
      go_wp2_with fail
      obtain ⟨W, hW⟩ : ∃ W, wo.alloc (.cells #[.string id, .string plug, .string text, .pointer p, .slice na nl nc, .nilIface] 52) = W := ⟨_, rfl⟩
      have hrow : W.heap[wo.heap.size]? = some (.cells #[.string id, .string plug, .string text, .pointer p, .slice na nl nc, .nilIface] 52 (0, 0)) := by rw [← hW]; exact heap_alloc_new _ _
      have HBW : Hid (Below wo.heap.size wo W) := Lib.hid (by rw [← hW]; exact (Below.refl _ _).alloc (Nat.le_refl _) _)
      have hmW : wo.heap.size < W.heap.size := by rw [← hW]; simp
      change Code.wp _ _ _ _ (wo.alloc (.cells #[.string id, .string plug, .string text, .pointer p, .slice na nl nc, .nilIface] 52))
      rw [hW]
      have HROW := Lib.hid hrow
      have HNW := Lib.hid (anotes_below HN0.out HBW.out)
      have HLW := Lib.hid (HL.out.below HBW.out)
      have HCW := Lib.hid (HC.out.below HBW.out)
      clear hW hrow HN0 HL g0 g1 g2 g3 g4 g5
      obtain ⟨mb, hmb⟩ : ∃ mb, mb = wo.heap.size := ⟨_, rfl⟩
      have hneM := own_ne HC.out.own (Nat.le_refl _)
      rw [← hmb] at HROW hmW hneM ⊢
      clear hmb
      go_loopw [9, 21] (fun s9 s21 w2 => ∃ (j : Nat) (a : Option Addr) (c : Nat), j ≤ nl ∧ s21 = .int .i64 j ∧ s9 = .slice a j c ∧ Hid (∃ xs, IN W nd j w2 (.slice a j c) xs)) (fun _ s21 _ => nl - (intOf s21).toNat)
      case atStart => exact ⟨0, none, 0, by omega, rfl, rfl, Lib.hid ⟨[], ⟨Below.refl _ _, World.ownsRow_nil _ _ _ _, fun _ => rfl, fun k hk => absurd hk (Nat.not_lt_zero _)⟩⟩⟩
      case round =>
        obtain ⟨j, a9, c9, hj, rfl, rfl, HI0⟩ := hrel
        obtain ⟨xs, hI0⟩ := HI0.out
        have HI := Lib.hid hI0
        clear hI0 HI0
        by_cases hjl : j < nl
        · have hjz : (j : Int) < (nl : Int) := by omega
          obtain ⟨b2, hy, hbk, hAt⟩ : ∃ b2, na = some ⟨b2, 0, none⟩ ∧ Blk W b2 50 (nl * 2) ∧ ∀ i, i < nl → ∃ p, At W b2 (i * 2) [.string (nd i).text, .pointer p] ∧ ALoc W (.pointer p) (nd i).loc.opt := by
            rcases HNW.out with ⟨_, e⟩ | q
            · omega
            · exact q
          subst hy
          obtain ⟨p2, hq1, hq2⟩ := hAt j hjl
          have hr1 := hq1.below (blk_lt hbk) HI.out.bl
          have e0 := hr1 0 _ rfl
          rw [Nat.add_zero] at e0
          have e1 := hr1 1 _ rfl
          have HL2 := Lib.hid (hq2.below HI.out.bl)
          clear hAt hbk hq1 hq2 hr1
          go_wp2_with fail
          obtain ⟨W3, hW3⟩ : ∃ W3, wr.alloc (.cells #[.string (nd j).text, .pointer p2] 50) = W3 := ⟨_, rfl⟩
          have hrow3 : W3.heap[wr.heap.size]? = some (.cells #[.string (nd j).text, .pointer p2] 50 (0, 0)) := by rw [← hW3]; exact heap_alloc_new _ _
          have HB3 : Hid (Below wr.heap.size wr W3) := Lib.hid (by rw [← hW3]; exact (Below.refl _ _).alloc (Nat.le_refl _) _)
          have hn3 : wr.heap.size < W3.heap.size := by rw [← hW3]; simp
          change Code.wp _ _ _ _ (wr.alloc (.cells #[.string (nd j).text, .pointer p2] 50))
          rw [hW3]
          have HL3 := Lib.hid (HL2.out.below HB3.out)
          have HI3 := Lib.hid (HI.out.below HB3.out)
          have hne : ¬ (Value.slice a9 j c9).ownBlock = some wr.heap.size := own_ne HI.out.own (Nat.le_refl _)
          have t0 : W3.cell? ⟨wr.heap.size, 0, none⟩ = some (.string (nd j).text) := by rw [cell_of_row _ _ 0 _ _ _ hrow3]; rfl
          have t1 : W3.cell? ⟨wr.heap.size, 1, none⟩ = some (.pointer p2) := by rw [cell_of_row _ _ 1 _ _ _ hrow3]; rfl
          obtain ⟨nb, hnb⟩ : ∃ nb, nb = wr.heap.size := ⟨_, rfl⟩
          rw [← hnb] at hn3 hne t0 t1 ⊢
          clear hnb hrow3 hW3 e0 e1
          go_region_held3 (fun w' => w'.cell? ⟨nb, 0, none⟩ = some (.string (nd j).text) ∧ w'.cell? ⟨nb, 1, none⟩ = some (.pointer p2))
            (first | with_reducible exact ⟨cell_dr t0, cell_dr t1⟩ | with_reducible exact HS5.out | with_reducible exact HS6.out | (obtain ⟨z0, z1⟩ := HS5.out; with_reducible exact ⟨cell_al z0, cell_al z1⟩))
            (first
              | (go_at_call 14
                 refine (conv14 (nd j).loc.opt (.pointer p2) _ (show ALoc W3.drew _ _ from HL3.out)).mono ?_
                 rintro e w5 ⟨v, rfl, hv5, hb5, _⟩
                 obtain ⟨q5, rfl⟩ := iloc_ptr hv5.out
                 have HI5 := Lib.hid (HI3.out.below (below_of_drew hb5.out))
                 have HS5 : Hid ((fun w' => w'.cell? ⟨nb, 0, none⟩ = some (.string (nd j).text) ∧ w'.cell? ⟨nb, 1, none⟩ = some (.pointer p2)) w5) := Lib.hid ⟨(hb5.out.cell (p := ⟨nb, 0, none⟩) (by simpa using hn3)).trans t0, (hb5.out.cell (p := ⟨nb, 1, none⟩) (by simpa using hn3)).trans t1⟩
                 have HB5 := Lib.hid ((Below.refl w5.heap.size w5).alloc (Nat.le_refl _) (.cells #[.nilIface, .pointer q5, .string (nd j).text, .bool false] 35))
                 have HAP := Lib.hid (fun ty => (HI5.out.below HB5.out).app (hv5.out.below HB5.out) (c := 1) (heap_alloc_new w5 (.cells #[.nilIface, .pointer q5, .string (nd j).text, .bool false] 35)) (by omega) ty))
              | (refine step_app rfl _ _ #[32, 32] rfl rfl rfl (HAP.out _) ?_
                 rintro v' w6 ⟨a', c', rfl, hc6, HN6⟩
                 have HS6 : Hid ((fun w' => w'.cell? ⟨nb, 0, none⟩ = some (.string (nd j).text) ∧ w'.cell? ⟨nb, 1, none⟩ = some (.pointer p2)) w6) := Lib.hid (by obtain ⟨z0, z1⟩ := HS5.out; exact ⟨hc6.out.cell (cell_al z0) hne, hc6.out.cell (cell_al z1) hne⟩)))
          go_wp2_with fail
          go_roundw
          case rel => exact ⟨j + 1, a', c', by omega, by go_num, rfl, HN6⟩
          case measure => simp [intOf]; omega
        · have hjz : ¬ (j : Int) < (nl : Int) := by omega
          have hje : j = nl := by omega
          have HI2 : Hid (IN W nd nl wr (.slice a9 nl c9) xs) := Lib.hid (by rw [hje] at HI; exact HI.out)
          have HNr := Lib.hid HI2.out.fin
          have HLr := Lib.hid (HLW.out.below HI2.out.bl)
          have HKr := Lib.hid (HCW.out.below HI2.out.bl)
          have hmr : mb < wr.heap.size := Nat.lt_of_lt_of_le hmW HI2.out.bl.size
          have hrr : wr.heap[mb]? = some (.cells #[.string id, .string plug, .string text, .pointer p, .slice na nl nc, .nilIface] 52 (0, 0)) := (HI2.out.bl.block mb hmW).trans HROW.out
          have hxj : (Value.slice a9 j c9) = .slice a9 nl c9 := by rw [hje]
          rw [hxj]
          have x0 : wr.cell? ⟨mb, 0, none⟩ = some (.string id) := by rw [cell_of_row _ _ 0 _ _ _ hrr]; rfl
          have x1 : wr.cell? ⟨mb, 1, none⟩ = some (.string plug) := by rw [cell_of_row _ _ 1 _ _ _ hrr]; rfl
          have x2 : wr.cell? ⟨mb, 2, none⟩ = some (.string text) := by rw [cell_of_row _ _ 2 _ _ _ hrr]; rfl
          have x3 : wr.cell? ⟨mb, 3, none⟩ = some (.pointer p) := by rw [cell_of_row _ _ 3 _ _ _ hrr]; rfl
          have x5 : wr.cell? ⟨mb, 5, none⟩ = some (.nilIface) := by rw [cell_of_row _ _ 5 _ _ _ hrr]; rfl
          clear hrr hxj
          go_wp2_with fail
          go_region_held3 (fun w' => w'.cell? ⟨mb, 0, none⟩ = some (.string id) ∧ w'.cell? ⟨mb, 1, none⟩ = some (.string plug) ∧ w'.cell? ⟨mb, 2, none⟩ = some (.string text) ∧ w'.cell? ⟨mb, 3, none⟩ = some (.pointer p) ∧ w'.cell? ⟨mb, 5, none⟩ = some (.nilIface))
            (first | with_reducible exact ⟨cell_dr x0, cell_dr x1, cell_dr x2, cell_dr x3, cell_dr x5⟩ | with_reducible exact HS5.out | with_reducible exact HS7.out | with_reducible exact HS8.out | (obtain ⟨z0, z1, z2, z3, z5⟩ := HS7.out; with_reducible exact ⟨cell_al z0, cell_al z1, cell_al z2, cell_al z3, cell_al z5⟩))
            (first
              | (go_at_call 15
                 refine (max15 id wr.drew).mono ?_
                 rintro e w5 ⟨rfl, hb5⟩
                 have HB5 := Lib.hid (below_of_drew hb5.out)
                 have HS5 : Hid ((fun w' => w'.cell? ⟨mb, 0, none⟩ = some (.string id) ∧ w'.cell? ⟨mb, 1, none⟩ = some (.string plug) ∧ w'.cell? ⟨mb, 2, none⟩ = some (.string text) ∧ w'.cell? ⟨mb, 3, none⟩ = some (.pointer p) ∧ w'.cell? ⟨mb, 5, none⟩ = some (.nilIface)) w5) := Lib.hid ⟨(HB5.out.cell (p := ⟨mb, 0, none⟩) (by simpa using hmr)).trans x0, (HB5.out.cell (p := ⟨mb, 1, none⟩) (by simpa using hmr)).trans x1, (HB5.out.cell (p := ⟨mb, 2, none⟩) (by simpa using hmr)).trans x2, (HB5.out.cell (p := ⟨mb, 3, none⟩) (by simpa using hmr)).trans x3, (HB5.out.cell (p := ⟨mb, 5, none⟩) (by simpa using hmr)).trans x5⟩)
              | (go_at_call 14
                 refine (conv14 loc.opt (.pointer p) _ (show ALoc wr.drew _ _ from HLr.out)).mono ?_
                 rintro e w5 ⟨v, rfl, hv5, hb5, _⟩
                 obtain ⟨q7, rfl⟩ := iloc_ptr hv5.out
                 have HB5 := Lib.hid (below_of_drew hb5.out)
                 have HS5 : Hid ((fun w' => w'.cell? ⟨mb, 0, none⟩ = some (.string id) ∧ w'.cell? ⟨mb, 1, none⟩ = some (.string plug) ∧ w'.cell? ⟨mb, 2, none⟩ = some (.string text) ∧ w'.cell? ⟨mb, 3, none⟩ = some (.pointer p) ∧ w'.cell? ⟨mb, 5, none⟩ = some (.nilIface)) w5) := Lib.hid ⟨(HB5.out.cell (p := ⟨mb, 0, none⟩) (by simpa using hmr)).trans x0, (HB5.out.cell (p := ⟨mb, 1, none⟩) (by simpa using hmr)).trans x1, (HB5.out.cell (p := ⟨mb, 2, none⟩) (by simpa using hmr)).trans x2, (HB5.out.cell (p := ⟨mb, 3, none⟩) (by simpa using hmr)).trans x3, (HB5.out.cell (p := ⟨mb, 5, none⟩) (by simpa using hmr)).trans x5⟩)
              | (go_at_call 14
                 refine (conv14 loc.opt (.pointer p) w5 (HLr.out.below HB5.out)).mono ?_
                 rintro e w7 ⟨v, rfl, hv7, hb7, _⟩
                 obtain ⟨q7, rfl⟩ := iloc_ptr hv7.out
                 have HB7 := Lib.hid (HB5.out.trans (hb7.out.mono HB5.out.size))
                 have HS7 : Hid ((fun w' => w'.cell? ⟨mb, 0, none⟩ = some (.string id) ∧ w'.cell? ⟨mb, 1, none⟩ = some (.string plug) ∧ w'.cell? ⟨mb, 2, none⟩ = some (.string text) ∧ w'.cell? ⟨mb, 3, none⟩ = some (.pointer p) ∧ w'.cell? ⟨mb, 5, none⟩ = some (.nilIface)) w7) := Lib.hid ⟨(HB7.out.cell (p := ⟨mb, 0, none⟩) (by simpa using hmr)).trans x0, (HB7.out.cell (p := ⟨mb, 1, none⟩) (by simpa using hmr)).trans x1, (HB7.out.cell (p := ⟨mb, 2, none⟩) (by simpa using hmr)).trans x2, (HB7.out.cell (p := ⟨mb, 3, none⟩) (by simpa using hmr)).trans x3, (HB7.out.cell (p := ⟨mb, 5, none⟩) (by simpa using hmr)).trans x5⟩
                 have HB8 := Lib.hid ((Below.refl w7.heap.size w7).alloc (Nat.le_refl _) (.cells #[.slice a9 nl c9, .string plug, .nilIface, .pointer q7, .string text, .bool false, .int .u8 kind, .int .u8 (mx id : Nat)] 37))
                 have HAP := Lib.hid (fun ty => ((HKr.out.below HB7.out).below HB8.out).app2 HM.out hB hm20 (by omega) hl0 (hv7.out.below HB8.out) (inotes_below (inotes_below HNr.out HB7.out) HB8.out) (c := 1) (heap_alloc_new w7 (.cells #[.slice a9 nl c9, .string plug, .nilIface, .pointer q7, .string text, .bool false, .int .u8 kind, .int .u8 (mx id : Nat)] 37)) ty))
              | (go_at_call 15
                 refine (max15 id w5).mono ?_
                 rintro e w7 ⟨rfl, hb7⟩
                 have HB7 := Lib.hid (HB5.out.trans (hb7.out.mono HB5.out.size))
                 have HS7 : Hid ((fun w' => w'.cell? ⟨mb, 0, none⟩ = some (.string id) ∧ w'.cell? ⟨mb, 1, none⟩ = some (.string plug) ∧ w'.cell? ⟨mb, 2, none⟩ = some (.string text) ∧ w'.cell? ⟨mb, 3, none⟩ = some (.pointer p) ∧ w'.cell? ⟨mb, 5, none⟩ = some (.nilIface)) w7) := Lib.hid ⟨(HB7.out.cell (p := ⟨mb, 0, none⟩) (by simpa using hmr)).trans x0, (HB7.out.cell (p := ⟨mb, 1, none⟩) (by simpa using hmr)).trans x1, (HB7.out.cell (p := ⟨mb, 2, none⟩) (by simpa using hmr)).trans x2, (HB7.out.cell (p := ⟨mb, 3, none⟩) (by simpa using hmr)).trans x3, (HB7.out.cell (p := ⟨mb, 5, none⟩) (by simpa using hmr)).trans x5⟩
                 have HB8 := Lib.hid ((Below.refl w7.heap.size w7).alloc (Nat.le_refl _) (.cells #[.slice a9 nl c9, .string plug, .nilIface, .pointer q7, .string text, .bool false, .int .u8 kind, .int .u8 (mx id : Nat)] 37))
                 have HAP := Lib.hid (fun ty => ((HKr.out.below HB7.out).below HB8.out).app2 HM.out hB hm20 (by omega) hl0 ((hv5.out.below hb7.out).below HB8.out) (inotes_below (inotes_below HNr.out HB7.out) HB8.out) (c := 1) (heap_alloc_new w7 (.cells #[.slice a9 nl c9, .string plug, .nilIface, .pointer q7, .string text, .bool false, .int .u8 kind, .int .u8 (mx id : Nat)] 37)) ty))
              | (refine step_app rfl _ _ #[27, 27] rfl rfl rfl (HAP.out _) ?_
                 rintro v' w8 ⟨a', c', rfl, hc8, HN8⟩
                 have HS8 : Hid ((fun w' => w'.cell? ⟨mb, 0, none⟩ = some (.string id) ∧ w'.cell? ⟨mb, 1, none⟩ = some (.string plug) ∧ w'.cell? ⟨mb, 2, none⟩ = some (.string text) ∧ w'.cell? ⟨mb, 3, none⟩ = some (.pointer p) ∧ w'.cell? ⟨mb, 5, none⟩ = some (.nilIface)) w8) := Lib.hid (by obtain ⟨z0, z1, z2, z3, z5⟩ := HS7.out; exact ⟨hc8.out.cell (cell_al z0) hneM, hc8.out.cell (cell_al z1) hneM, hc8.out.cell (cell_al z2) hneM, hc8.out.cell (cell_al z3) hneM, hc8.out.cell (cell_al z5) hneM⟩)))
          all_goals (
            go_wp2_with fail
            go_roundw
            case rel => exact ⟨i + 1, a', c', by omega, by go_num, rfl, HN8⟩
            case measure => simp [intOf]; omega)
    · have hiz : ¬ (i : Int) < (n : Int) := by omega
      have hin : i = n := by omega
      subst hin
      go_wp2_with fail
      go_ret
      exact ⟨a, c, rfl, Lib.hid ⟨ys, HC.out⟩⟩
end Go.Proofs.Ytogacjjgfpkdfaa.Aux
