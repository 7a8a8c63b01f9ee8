/- Contracts of functions that the law of this seat reaches, and plain facts; no condition. -/
import Derived.Test.YtiocceoogapkcaaProg
import Derived.WalkKit
import Derived.ProofKit
import Derived.OpenShut
import Derived.ShutString
import Derived.Test.YtiocceoogapkcaaAid
import Derived.Test.YtiocceoogapkcaaI
import Derived.Sort.LotA
import Derived.Sort.LotB
import Derived.Sort.LotC
import Derived.Sort.LotD3
import Derived.ArgAppend
import Derived.WalkSmall
import Derived.WalkSpells
import Derived.LoopTactic
import Derived.Deep.LoopGhost
import Derived.Deep.CutBlock
import Derived.Deep.DeepCutAuto
import Derived.IntWalk
import Derived.Outline
import Derived.Deep.QuietTactic
import Derived.BigQuiet
import Derived.RegionTactic
import Derived.StillTailTactics
import Derived.Shelf.Small.Bits
import Derived.Shelf.Lays
import Derived.Laws.BitsAllLaws
import Derived.Laws.BitsLemmas
import Derived.BigRegion
import Derived.Laws.OwnMore
import Derived.Laws.Rows
namespace Go.Proofs.Ytiocceoogapkcaa.Aux
open Go.ChangeShapes Go.WideShapes Go.ChangeAt Go.RowKit
open Go.ChangeMaps (open_string shut_string)
set_option linter.unusedVariables false
set_option linter.unusedSimpArgs false
open Fl Str Pb Qd PlainAid Aux
open Go.Sort (swp)
section
variable {g : Nat → ByteArray} {f : Nat → Int} {blk : Nat} {w w' W0 : World} {d : Array Nat}
/-- While the patterns are broken: the random number lies in block xb. -/
def XV (g : Nat → ByteArray) (f : Nat → Int) (blk : Nat) (W0 : World) (d : Array Nat) (xb : Nat) (z : Int) (w : World) : Prop := SX g f blk W0 d w ∧ W0.heap.size ≤ xb ∧ w.cell? ⟨xb, 0, none⟩ = some (.int .u64 z) ∧ w.frozen? ⟨xb, 0, none⟩ = false
theorem xv_nx {xb : Nat} {z r : Int} (h : XV g f blk W0 d xb z w) (hb : blk < W0.heap.size) (hc : w'.cell? ⟨xb, 0, none⟩ = some (.int .u64 r)) (hf : w'.frozen? ⟨xb, 0, none⟩ = false) (hg : Chg (fun k => k = xb) w w') : XV g f blk W0 d xb r w' := by
  obtain ⟨⟨h1, h1'⟩, h2, h3, h4⟩ := h
  exact ⟨⟨h1.chg hg (by omega), h1'.transN hg (fun i hi e => by omega)⟩, h2, hc, hf⟩
theorem xv_swap {xb : Nat} {z : Int} (h : XV g f blk W0 d xb z w) (hb : blk < W0.heap.size) (i j : Nat) (zi zj : Int) (hi : i < 64) (hj : j < 64) (ei : zi = (i : Int)) (ej : zj = (j : Int)) : Calls Try.prog 54 #[.slice (some ⟨blk, 0, none⟩) 64 64, .int .i64 zi, .int .i64 zj] w fun e w' => e = .returned (.tuple #[]) ∧ Hid (XV g f blk W0 (swp d i j) xb z w') := by
  obtain ⟨h1, h2, h3, h4⟩ := h
  have hx : xb < w.heap.size := World.block_lt_of_cell? w _ h3
  refine (sx_swapZ (SX.start h1.1) i j zi zj hi hj ei ej).mono ?_
  rintro e w' ⟨rfl, hs⟩
  exact ⟨rfl, Lib.hid ⟨h1.trans hs.out, h2, hs.out.2.cell h3 (show ¬ xb = blk by omega), (hs.out.2.frozen (a := ⟨xb, 0, none⟩) hx (show ¬ xb = blk by omega)).trans h4⟩⟩
theorem xv_start (h : St g f blk w d) (z : Int) : XV g f blk w d w.heap.size z (w.alloc (.cells #[.int .u64 z] 72)) := by
  have hb : Below w.heap.size w (w.alloc (.cells #[.int .u64 z] 72)) := (Below.refl _ _).alloc (Nat.le_refl _) _
  have hr := heap_alloc_new w (.cells #[.int .u64 z] 72)
  exact ⟨(SX.start h).below hb, Nat.le_refl _, by rw [cell_of_row _ _ 0 _ _ _ hr]; rfl, frozen_of_row _ _ _ _ _ hr⟩
theorem xv_size {xb : Nat} {z : Int} (h : XV g f blk W0 d xb z w) : xb < w.heap.size := World.block_lt_of_cell? w _ h.2.2.1
theorem wraps_u64 (n : Int) (h₀ : 0 ≤ n) (h₁ : n < 2 ^ 64) : IntKind.u64.wrap n = n := by rw [IntKind.wrap_u64]; omega
/-- What breakPatterns leaves: a permutation. -/
def Bp (g : Nat → ByteArray) (f : Nat → Int) (blk : Nat) (w : World) (d : Array Nat) (a b : Nat) (e : Ending) (w' : World) : Prop := e = .returned (.tuple #[]) ∧ ∃ d', Hid (Sort.PermIn a b d d') ∧ Hid (SX g f blk w d' w')
set_option maxRecDepth 100000 in
set_option maxHeartbeats 8000000 in
theorem brk16 {a b L : Nat} (h : St g f blk w d) (hL : a + L = b) (h12 : 12 < L) (hb : b ≤ 64) (hm1 : 16 ≤ 2 * L) (hm2 : L < 16) : Calls Try.prog 23 #[.iface 35 (.slice (some ⟨blk, 0, none⟩) 64 64), .int .i64 a, .int .i64 b] w (Bp g f blk w d a b) := by
  have hbl := h.lt
  have mS := mSwap blk
  obtain ⟨q, hq⟩ : ∃ q : Nat, q = L / 4 := ⟨_, rfl⟩
  have eL : (b : Int) - (a : Int) = (L : Int) := by omega
  have eq : (L : Int) / 4 = (q : Int) := by omega
  have b1 : 3 ≤ q := by omega
  have b2 : 4 * q ≤ L := by omega
  have eu : IntKind.u64.wrap (L : Int) = (L : Int) := by rw [IntKind.wrap_u64]; omega
  have HP := Lib.hid (pow31 L (by omega) (by omega))
  have hds : Hid (d.size = 64) := Lib.hid h.1
  have HX := Lib.hid (xv_start h (L : Int))
  have hLz : 8 ≤ (L : Int) := by omega
  clear hq h
  go_enter Try.func23, Try.ntmps23
  go_wp2_with fail
  refine (HP.out _).mono ?_
  rintro e w0 ⟨m, rfl, rfl, hm⟩
  obtain rfl : m = 16 := by omega
  clear HP hm
  go_wp2_with fail
  go_loopg [9] 3 (fun k s9 wr => ∃ (t : Nat) (dk : Array Nat) (z : Int), s9 = .int .i64 ((a : Int) + (q : Int) * 2 - 1 + (t : Int)) ∧ t ≤ 3 ∧ 3 - t ≤ k ∧ Hid (XV g f blk w dk w.heap.size z wr) ∧ Hid (Sort.PermIn a b d dk))
  case atStart => exact ⟨0, d, (L : Int), by simp, by omega, by omega, HX, Lib.hid (Sort.permIn_refl d a b)⟩
  case round =>
    obtain ⟨t, dk, z, rfl, ht, hk, HV, HPm⟩ := hrel
    by_cases h3 : t ≤ 2
    · have hz3 : (a : Int) + (q : Int) * 2 - 1 + (t : Int) ≤ (a : Int) + (q : Int) * 2 + 1 := by omega
      obtain ⟨_, _, hc, hf⟩ := HV.out
      have HN := Lib.hid (next32 w.heap.size z wr hc hf)
      clear hc hf
      go_wp2_with fail
      refine HN.out.mono ?_
      rintro e w1 ⟨r, rfl, r0, r1, rc, rf, rg⟩
      have HV1 := Lib.hid (xv_nx HV.out hbl rc rf rg)
      obtain ⟨o, ho⟩ : ∃ o : Nat, r % 16 = (o : Int) := ⟨(r % 16).toNat, by omega⟩
      have em : bits .and .u64 r 15 = (o : Int) := (bits_mask .u64 64 (by decide) wraps_u64 4 (by decide) r r0 (by omega)).trans ho
      have ho2 : o < 16 := by omega
      clear rc rf rg ho r0 r1
      have fin : ∀ x : Nat, x < L → ∃ dk', Hid (Sort.PermIn a b d dk') ∧ ∀ zx : Int, zx = (x : Int) → Hid (Calls Try.prog 54 #[.slice (some ⟨blk, 0, none⟩) 64 64, .int .i64 ((a : Int) + (q : Int) * 2 - 1 + (t : Int)), .int .i64 ((a : Int) + zx)] w1 fun e w' => e = .returned (.tuple #[]) ∧ Hid (XV g f blk w dk' w.heap.size r w')) := fun x hx => by
        have hsz : dk.size = 64 := HV.out.1.1.1
        refine ⟨swp dk (a + q * 2 - 1 + t) (a + x), Lib.hid (Sort.permIn_trans _ _ _ a b HPm.out (Sort.swp_permIn dk a b _ _ (by omega) (by omega) (by omega) (by omega) (by omega))), fun zx ex => Lib.hid ?_⟩
        exact xv_swap HV1.out hbl _ _ _ _ (by omega) (by omega) (by omega) (by omega)
      have HFN := Lib.hid fin
      clear fin
      by_cases hge : L ≤ o
      · have hgz : (L : Int) ≤ (o : Int) := by omega
        obtain ⟨dk', HP2, hsw⟩ := HFN.out (o - L) (by omega)
        have HSW := hsw ((o : Int) - (L : Int)) (by omega)
        clear hsw
        go_wp2_with (go_at_call 54; refine HSW.out.mono ?_; rintro e w2 ⟨rfl, HV2⟩)
        go_roundg (2 - t)
        case rel => exact ⟨t + 1, dk', r, by congr 1; omega, by omega, by omega, HV2, HP2⟩
        case measure => omega
      · have hgz : ¬ (L : Int) ≤ (o : Int) := by omega
        obtain ⟨dk', HP2, hsw⟩ := HFN.out o (by omega)
        have HSW := hsw (o : Int) rfl
        clear hsw
        go_wp2_with (go_at_call 54; refine HSW.out.mono ?_; rintro e w2 ⟨rfl, HV2⟩)
        go_roundg (2 - t)
        case rel => exact ⟨t + 1, dk', r, by congr 1; omega, by omega, by omega, HV2, HP2⟩
        case measure => omega
    · have hz3 : ¬ (a : Int) + (q : Int) * 2 - 1 + (t : Int) ≤ (a : Int) + (q : Int) * 2 + 1 := by omega
      go_wp2_with fail
      go_end0
      exact ⟨rfl, dk, HPm, Lib.hid HV.out.1⟩
set_option maxRecDepth 100000 in
set_option maxHeartbeats 8000000 in
theorem brk32 {a b L : Nat} (h : St g f blk w d) (hL : a + L = b) (h12 : 12 < L) (hb : b ≤ 64) (hm1 : 32 ≤ 2 * L) (hm2 : L < 32) : Calls Try.prog 23 #[.iface 35 (.slice (some ⟨blk, 0, none⟩) 64 64), .int .i64 a, .int .i64 b] w (Bp g f blk w d a b) := by
  have hbl := h.lt
  have mS := mSwap blk
  obtain ⟨q, hq⟩ : ∃ q : Nat, q = L / 4 := ⟨_, rfl⟩
  have eL : (b : Int) - (a : Int) = (L : Int) := by omega
  have eq : (L : Int) / 4 = (q : Int) := by omega
  have b1 : 3 ≤ q := by omega
  have b2 : 4 * q ≤ L := by omega
  have eu : IntKind.u64.wrap (L : Int) = (L : Int) := by rw [IntKind.wrap_u64]; omega
  have HP := Lib.hid (pow31 L (by omega) (by omega))
  have hds : Hid (d.size = 64) := Lib.hid h.1
  have HX := Lib.hid (xv_start h (L : Int))
  have hLz : 8 ≤ (L : Int) := by omega
  clear hq h
  go_enter Try.func23, Try.ntmps23
  go_wp2_with fail
  refine (HP.out _).mono ?_
  rintro e w0 ⟨m, rfl, rfl, hm⟩
  obtain rfl : m = 32 := by omega
  clear HP hm
  go_wp2_with fail
  go_loopg [9] 3 (fun k s9 wr => ∃ (t : Nat) (dk : Array Nat) (z : Int), s9 = .int .i64 ((a : Int) + (q : Int) * 2 - 1 + (t : Int)) ∧ t ≤ 3 ∧ 3 - t ≤ k ∧ Hid (XV g f blk w dk w.heap.size z wr) ∧ Hid (Sort.PermIn a b d dk))
  case atStart => exact ⟨0, d, (L : Int), by simp, by omega, by omega, HX, Lib.hid (Sort.permIn_refl d a b)⟩
  case round =>
    obtain ⟨t, dk, z, rfl, ht, hk, HV, HPm⟩ := hrel
    by_cases h3 : t ≤ 2
    · have hz3 : (a : Int) + (q : Int) * 2 - 1 + (t : Int) ≤ (a : Int) + (q : Int) * 2 + 1 := by omega
      obtain ⟨_, _, hc, hf⟩ := HV.out
      have HN := Lib.hid (next32 w.heap.size z wr hc hf)
      clear hc hf
      go_wp2_with fail
      refine HN.out.mono ?_
      rintro e w1 ⟨r, rfl, r0, r1, rc, rf, rg⟩
      have HV1 := Lib.hid (xv_nx HV.out hbl rc rf rg)
      obtain ⟨o, ho⟩ : ∃ o : Nat, r % 32 = (o : Int) := ⟨(r % 32).toNat, by omega⟩
      have em : bits .and .u64 r 31 = (o : Int) := (bits_mask .u64 64 (by decide) wraps_u64 5 (by decide) r r0 (by omega)).trans ho
      have ho2 : o < 32 := by omega
      clear rc rf rg ho r0 r1
      have fin : ∀ x : Nat, x < L → ∃ dk', Hid (Sort.PermIn a b d dk') ∧ ∀ zx : Int, zx = (x : Int) → Hid (Calls Try.prog 54 #[.slice (some ⟨blk, 0, none⟩) 64 64, .int .i64 ((a : Int) + (q : Int) * 2 - 1 + (t : Int)), .int .i64 ((a : Int) + zx)] w1 fun e w' => e = .returned (.tuple #[]) ∧ Hid (XV g f blk w dk' w.heap.size r w')) := fun x hx => by
        have hsz : dk.size = 64 := HV.out.1.1.1
        refine ⟨swp dk (a + q * 2 - 1 + t) (a + x), Lib.hid (Sort.permIn_trans _ _ _ a b HPm.out (Sort.swp_permIn dk a b _ _ (by omega) (by omega) (by omega) (by omega) (by omega))), fun zx ex => Lib.hid ?_⟩
        exact xv_swap HV1.out hbl _ _ _ _ (by omega) (by omega) (by omega) (by omega)
      have HFN := Lib.hid fin
      clear fin
      by_cases hge : L ≤ o
      · have hgz : (L : Int) ≤ (o : Int) := by omega
        obtain ⟨dk', HP2, hsw⟩ := HFN.out (o - L) (by omega)
        have HSW := hsw ((o : Int) - (L : Int)) (by omega)
        clear hsw
        go_wp2_with (go_at_call 54; refine HSW.out.mono ?_; rintro e w2 ⟨rfl, HV2⟩)
        go_roundg (2 - t)
        case rel => exact ⟨t + 1, dk', r, by congr 1; omega, by omega, by omega, HV2, HP2⟩
        case measure => omega
      · have hgz : ¬ (L : Int) ≤ (o : Int) := by omega
        obtain ⟨dk', HP2, hsw⟩ := HFN.out o (by omega)
        have HSW := hsw (o : Int) rfl
        clear hsw
        go_wp2_with (go_at_call 54; refine HSW.out.mono ?_; rintro e w2 ⟨rfl, HV2⟩)
        go_roundg (2 - t)
        case rel => exact ⟨t + 1, dk', r, by congr 1; omega, by omega, by omega, HV2, HP2⟩
        case measure => omega
    · have hz3 : ¬ (a : Int) + (q : Int) * 2 - 1 + (t : Int) ≤ (a : Int) + (q : Int) * 2 + 1 := by omega
      go_wp2_with fail
      go_end0
      exact ⟨rfl, dk, HPm, Lib.hid HV.out.1⟩
set_option maxRecDepth 100000 in
set_option maxHeartbeats 8000000 in
theorem brk64 {a b L : Nat} (h : St g f blk w d) (hL : a + L = b) (h12 : 12 < L) (hb : b ≤ 64) (hm1 : 64 ≤ 2 * L) (hm2 : L < 64) : Calls Try.prog 23 #[.iface 35 (.slice (some ⟨blk, 0, none⟩) 64 64), .int .i64 a, .int .i64 b] w (Bp g f blk w d a b) := by
  have hbl := h.lt
  have mS := mSwap blk
  obtain ⟨q, hq⟩ : ∃ q : Nat, q = L / 4 := ⟨_, rfl⟩
  have eL : (b : Int) - (a : Int) = (L : Int) := by omega
  have eq : (L : Int) / 4 = (q : Int) := by omega
  have b1 : 3 ≤ q := by omega
  have b2 : 4 * q ≤ L := by omega
  have eu : IntKind.u64.wrap (L : Int) = (L : Int) := by rw [IntKind.wrap_u64]; omega
  have HP := Lib.hid (pow31 L (by omega) (by omega))
  have hds : Hid (d.size = 64) := Lib.hid h.1
  have HX := Lib.hid (xv_start h (L : Int))
  have hLz : 8 ≤ (L : Int) := by omega
  clear hq h
  go_enter Try.func23, Try.ntmps23
  go_wp2_with fail
  refine (HP.out _).mono ?_
  rintro e w0 ⟨m, rfl, rfl, hm⟩
  obtain rfl : m = 64 := by omega
  clear HP hm
  go_wp2_with fail
  go_loopg [9] 3 (fun k s9 wr => ∃ (t : Nat) (dk : Array Nat) (z : Int), s9 = .int .i64 ((a : Int) + (q : Int) * 2 - 1 + (t : Int)) ∧ t ≤ 3 ∧ 3 - t ≤ k ∧ Hid (XV g f blk w dk w.heap.size z wr) ∧ Hid (Sort.PermIn a b d dk))
  case atStart => exact ⟨0, d, (L : Int), by simp, by omega, by omega, HX, Lib.hid (Sort.permIn_refl d a b)⟩
  case round =>
    obtain ⟨t, dk, z, rfl, ht, hk, HV, HPm⟩ := hrel
    by_cases h3 : t ≤ 2
    · have hz3 : (a : Int) + (q : Int) * 2 - 1 + (t : Int) ≤ (a : Int) + (q : Int) * 2 + 1 := by omega
      obtain ⟨_, _, hc, hf⟩ := HV.out
      have HN := Lib.hid (next32 w.heap.size z wr hc hf)
      clear hc hf
      go_wp2_with fail
      refine HN.out.mono ?_
      rintro e w1 ⟨r, rfl, r0, r1, rc, rf, rg⟩
      have HV1 := Lib.hid (xv_nx HV.out hbl rc rf rg)
      obtain ⟨o, ho⟩ : ∃ o : Nat, r % 64 = (o : Int) := ⟨(r % 64).toNat, by omega⟩
      have em : bits .and .u64 r 63 = (o : Int) := (bits_mask .u64 64 (by decide) wraps_u64 6 (by decide) r r0 (by omega)).trans ho
      have ho2 : o < 64 := by omega
      clear rc rf rg ho r0 r1
      have fin : ∀ x : Nat, x < L → ∃ dk', Hid (Sort.PermIn a b d dk') ∧ ∀ zx : Int, zx = (x : Int) → Hid (Calls Try.prog 54 #[.slice (some ⟨blk, 0, none⟩) 64 64, .int .i64 ((a : Int) + (q : Int) * 2 - 1 + (t : Int)), .int .i64 ((a : Int) + zx)] w1 fun e w' => e = .returned (.tuple #[]) ∧ Hid (XV g f blk w dk' w.heap.size r w')) := fun x hx => by
        have hsz : dk.size = 64 := HV.out.1.1.1
        refine ⟨swp dk (a + q * 2 - 1 + t) (a + x), Lib.hid (Sort.permIn_trans _ _ _ a b HPm.out (Sort.swp_permIn dk a b _ _ (by omega) (by omega) (by omega) (by omega) (by omega))), fun zx ex => Lib.hid ?_⟩
        exact xv_swap HV1.out hbl _ _ _ _ (by omega) (by omega) (by omega) (by omega)
      have HFN := Lib.hid fin
      clear fin
      by_cases hge : L ≤ o
      · have hgz : (L : Int) ≤ (o : Int) := by omega
        obtain ⟨dk', HP2, hsw⟩ := HFN.out (o - L) (by omega)
        have HSW := hsw ((o : Int) - (L : Int)) (by omega)
        clear hsw
        go_wp2_with (go_at_call 54; refine HSW.out.mono ?_; rintro e w2 ⟨rfl, HV2⟩)
        go_roundg (2 - t)
        case rel => exact ⟨t + 1, dk', r, by congr 1; omega, by omega, by omega, HV2, HP2⟩
        case measure => omega
      · have hgz : ¬ (L : Int) ≤ (o : Int) := by omega
        obtain ⟨dk', HP2, hsw⟩ := HFN.out o (by omega)
        have HSW := hsw (o : Int) rfl
        clear hsw
        go_wp2_with (go_at_call 54; refine HSW.out.mono ?_; rintro e w2 ⟨rfl, HV2⟩)
        go_roundg (2 - t)
        case rel => exact ⟨t + 1, dk', r, by congr 1; omega, by omega, by omega, HV2, HP2⟩
        case measure => omega
    · have hz3 : ¬ (a : Int) + (q : Int) * 2 - 1 + (t : Int) ≤ (a : Int) + (q : Int) * 2 + 1 := by omega
      go_wp2_with fail
      go_end0
      exact ⟨rfl, dk, HPm, Lib.hid HV.out.1⟩
set_option maxRecDepth 100000 in
set_option maxHeartbeats 8000000 in
theorem brk128 {a b L : Nat} (h : St g f blk w d) (hL : a + L = b) (h12 : 12 < L) (hb : b ≤ 64) (hm1 : 128 ≤ 2 * L) (hm2 : L < 128) : Calls Try.prog 23 #[.iface 35 (.slice (some ⟨blk, 0, none⟩) 64 64), .int .i64 a, .int .i64 b] w (Bp g f blk w d a b) := by
  have hbl := h.lt
  have mS := mSwap blk
  obtain ⟨q, hq⟩ : ∃ q : Nat, q = L / 4 := ⟨_, rfl⟩
  have eL : (b : Int) - (a : Int) = (L : Int) := by omega
  have eq : (L : Int) / 4 = (q : Int) := by omega
  have b1 : 3 ≤ q := by omega
  have b2 : 4 * q ≤ L := by omega
  have eu : IntKind.u64.wrap (L : Int) = (L : Int) := by rw [IntKind.wrap_u64]; omega
  have HP := Lib.hid (pow31 L (by omega) (by omega))
  have hds : Hid (d.size = 64) := Lib.hid h.1
  have HX := Lib.hid (xv_start h (L : Int))
  have hLz : 8 ≤ (L : Int) := by omega
  clear hq h
  go_enter Try.func23, Try.ntmps23
  go_wp2_with fail
  refine (HP.out _).mono ?_
  rintro e w0 ⟨m, rfl, rfl, hm⟩
  obtain rfl : m = 128 := by omega
  clear HP hm
  go_wp2_with fail
  go_loopg [9] 3 (fun k s9 wr => ∃ (t : Nat) (dk : Array Nat) (z : Int), s9 = .int .i64 ((a : Int) + (q : Int) * 2 - 1 + (t : Int)) ∧ t ≤ 3 ∧ 3 - t ≤ k ∧ Hid (XV g f blk w dk w.heap.size z wr) ∧ Hid (Sort.PermIn a b d dk))
  case atStart => exact ⟨0, d, (L : Int), by simp, by omega, by omega, HX, Lib.hid (Sort.permIn_refl d a b)⟩
  case round =>
    obtain ⟨t, dk, z, rfl, ht, hk, HV, HPm⟩ := hrel
    by_cases h3 : t ≤ 2
    · have hz3 : (a : Int) + (q : Int) * 2 - 1 + (t : Int) ≤ (a : Int) + (q : Int) * 2 + 1 := by omega
      obtain ⟨_, _, hc, hf⟩ := HV.out
      have HN := Lib.hid (next32 w.heap.size z wr hc hf)
      clear hc hf
      go_wp2_with fail
      refine HN.out.mono ?_
      rintro e w1 ⟨r, rfl, r0, r1, rc, rf, rg⟩
      have HV1 := Lib.hid (xv_nx HV.out hbl rc rf rg)
      obtain ⟨o, ho⟩ : ∃ o : Nat, r % 128 = (o : Int) := ⟨(r % 128).toNat, by omega⟩
      have em : bits .and .u64 r 127 = (o : Int) := (bits_mask .u64 64 (by decide) wraps_u64 7 (by decide) r r0 (by omega)).trans ho
      have ho2 : o < 128 := by omega
      clear rc rf rg ho r0 r1
      have fin : ∀ x : Nat, x < L → ∃ dk', Hid (Sort.PermIn a b d dk') ∧ ∀ zx : Int, zx = (x : Int) → Hid (Calls Try.prog 54 #[.slice (some ⟨blk, 0, none⟩) 64 64, .int .i64 ((a : Int) + (q : Int) * 2 - 1 + (t : Int)), .int .i64 ((a : Int) + zx)] w1 fun e w' => e = .returned (.tuple #[]) ∧ Hid (XV g f blk w dk' w.heap.size r w')) := fun x hx => by
        have hsz : dk.size = 64 := HV.out.1.1.1
        refine ⟨swp dk (a + q * 2 - 1 + t) (a + x), Lib.hid (Sort.permIn_trans _ _ _ a b HPm.out (Sort.swp_permIn dk a b _ _ (by omega) (by omega) (by omega) (by omega) (by omega))), fun zx ex => Lib.hid ?_⟩
        exact xv_swap HV1.out hbl _ _ _ _ (by omega) (by omega) (by omega) (by omega)
      have HFN := Lib.hid fin
      clear fin
      by_cases hge : L ≤ o
      · have hgz : (L : Int) ≤ (o : Int) := by omega
        obtain ⟨dk', HP2, hsw⟩ := HFN.out (o - L) (by omega)
        have HSW := hsw ((o : Int) - (L : Int)) (by omega)
        clear hsw
        go_wp2_with (go_at_call 54; refine HSW.out.mono ?_; rintro e w2 ⟨rfl, HV2⟩)
        go_roundg (2 - t)
        case rel => exact ⟨t + 1, dk', r, by congr 1; omega, by omega, by omega, HV2, HP2⟩
        case measure => omega
      · have hgz : ¬ (L : Int) ≤ (o : Int) := by omega
        obtain ⟨dk', HP2, hsw⟩ := HFN.out o (by omega)
        have HSW := hsw (o : Int) rfl
        clear hsw
        go_wp2_with (go_at_call 54; refine HSW.out.mono ?_; rintro e w2 ⟨rfl, HV2⟩)
        go_roundg (2 - t)
        case rel => exact ⟨t + 1, dk', r, by congr 1; omega, by omega, by omega, HV2, HP2⟩
        case measure => omega
    · have hz3 : ¬ (a : Int) + (q : Int) * 2 - 1 + (t : Int) ≤ (a : Int) + (q : Int) * 2 + 1 := by omega
      go_wp2_with fail
      go_end0
      exact ⟨rfl, dk, HPm, Lib.hid HV.out.1⟩
theorem brk23 {a b : Nat} (h : St g f blk w d) (h12 : a + 12 < b) (hb : b ≤ 64) : Calls Try.prog 23 #[.iface 35 (.slice (some ⟨blk, 0, none⟩) 64 64), .int .i64 a, .int .i64 b] w (Bp g f blk w d a b) := by
  by_cases h1 : b - a < 16
  · exact brk16 (L := b - a) h (by omega) (by omega) hb (by omega) (by omega)
  by_cases h2 : b - a < 32
  · exact brk32 (L := b - a) h (by omega) (by omega) hb (by omega) (by omega)
  by_cases h3 : b - a < 64
  · exact brk64 (L := b - a) h (by omega) (by omega) hb (by omega) (by omega)
  · exact brk128 (L := b - a) h (by omega) (by omega) hb (by omega) (by omega)
end
end Go.Proofs.Ytiocceoogapkcaa.Aux
