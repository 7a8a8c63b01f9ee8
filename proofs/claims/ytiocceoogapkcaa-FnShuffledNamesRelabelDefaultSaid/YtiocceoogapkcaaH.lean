/- Contracts of functions that the law of this seat reaches, and plain facts; no condition. -/
import Derived.Test.YtiocceoogapkcaaProg
import Derived.WalkKit
import Derived.ProofKit
import Derived.OpenShut
import Derived.ShutString
import Derived.Test.YtiocceoogapkcaaAid
import Derived.Test.YtiocceoogapkcaaG
import Derived.Sort.LotA
import Derived.Sort.LotB
import Derived.Sort.LotC
import Derived.Sort.LotD3
import Derived.ArgAppend
import Derived.WalkSmall
import Derived.WalkSpells
import Derived.LoopTactic
import Derived.Deep.LoopGhost
import Derived.Deep.CutBlock
import Derived.Deep.DeepCutAuto
import Derived.IntWalk
import Derived.Outline
import Derived.Deep.QuietTactic
import Derived.BigQuiet
import Derived.RegionTactic
import Derived.StillTailTactics
import Derived.Shelf.Small.Bits
import Derived.Shelf.Lays
import Derived.Laws.BitsAllLaws
import Derived.Laws.BitsLemmas
import Derived.BigRegion
import Derived.Laws.OwnMore
import Derived.Laws.Rows
namespace Go.Proofs.Ytiocceoogapkcaa.Aux
open Go.ChangeShapes Go.WideShapes Go.ChangeAt Go.RowKit
open Go.ChangeMaps (open_string shut_string)
set_option linter.unusedVariables false
set_option linter.unusedSimpArgs false
open Fl Str Pb Qd PlainAid Aux
open Go.Sort (swp)
section
variable {g : Nat → ByteArray} {f : Nat → Int} {blk : Nat} {w w' W0 : World} {d : Array Nat}
/-- While the pivot is chosen: the array as it was, the counter in block cb. -/
def PV (g : Nat → ByteArray) (f : Nat → Int) (blk : Nat) (W0 : World) (d : Array Nat) (cb s : Nat) (w : World) : Prop := SX g f blk W0 d w ∧ W0.heap.size ≤ cb ∧ cb < w.heap.size ∧ w.cell? ⟨cb, 0, none⟩ = some (.int .i64 (s : Int)) ∧ w.frozen? ⟨cb, 0, none⟩ = false
theorem pv_below {cb s : Nat} (h : PV g f blk W0 d cb s w) (hb : Below w.heap.size w w') : PV g f blk W0 d cb s w' := by
  obtain ⟨h1, h2, h3, h4, h5⟩ := h
  exact ⟨h1.below hb, h2, Nat.lt_of_lt_of_le h3 hb.size, (hb.cell (p := ⟨cb, 0, none⟩) h3).trans h4, (hb.frozen (p := ⟨cb, 0, none⟩) h3).trans h5⟩
theorem pv_less {cb s : Nat} (h : PV g f blk W0 d cb s w) (i j : Nat) (hi : i < 64) (hj : j < 64) : Calls Try.prog 53 #[.slice (some ⟨blk, 0, none⟩) 64 64, .int .i64 i, .int .i64 j] w fun e w' => e = .returned (.bool (ltF f d[i]! d[j]!)) ∧ Hid (PV g f blk W0 d cb s w') := by
  obtain ⟨q0, q1, q2⟩ := h.1.1.cells hi
  obtain ⟨q3, q4, q5⟩ := h.1.1.cells hj
  refine (less53x w blk i j hi hj _ _ _ _ _ _ h.1.1.lt q0 q1 q2 q3 q4 q5 (ltF f d[i]! d[j]!) (by simp [ltF])).mono ?_
  rintro e w' ⟨rfl, hb⟩
  exact ⟨rfl, Lib.hid (pv_below h hb)⟩
theorem pv_ne {cb s : Nat} (h : PV g f blk W0 d cb s w) (hb : blk < W0.heap.size) : cb ≠ blk := by have := h.2.1; omega
theorem pv_set {cb s : Nat} (h : PV g f blk W0 d cb s w) (hb : blk < W0.heap.size) (s' : Nat) : PV g f blk W0 d cb s' (w.setCell ⟨cb, 0, none⟩ (.int .i64 (s' : Int))) := by
  have hne := pv_ne h hb
  obtain ⟨⟨h1, h1'⟩, h2, h3, h4, h5⟩ := h
  have hc : Chg (fun k => k = cb) w (w.setCell ⟨cb, 0, none⟩ (.int .i64 (s' : Int))) := Chg.setCell (S := fun k => k = cb) (Chg.refl _ _) (.inl rfl) _
  refine ⟨⟨h1.chg hc (fun e => hne e.symm), h1'.transN hc (fun i hi e => by omega)⟩, h2, by simpa [World.setCell] using h3, World.cell?_setCell_same _ _ _ (by rw [h4]), by simpa using h5⟩
/-- Two places out of a range, the counter moved on. -/
def O2 (g : Nat → ByteArray) (f : Nat → Int) (blk : Nat) (W0 : World) (d : Array Nat) (cb s lo hi : Nat) (e : Ending) (w' : World) : Prop := ∃ x y s' : Nat, e = .returned (.tuple #[.int .i64 (x : Int), .int .i64 (y : Int)]) ∧ lo ≤ x ∧ x < hi ∧ lo ≤ y ∧ y < hi ∧ s' ≤ s + 1 ∧ Hid (PV g f blk W0 d cb s' w')
set_option maxHeartbeats 4000000 in
theorem order35 {cb s lo hi i j : Nat} (h : PV g f blk W0 d cb s w) (hb : blk < W0.heap.size) (hs : s ≤ 100) (h64 : hi ≤ 64) (h1 : lo ≤ i) (h2 : i < hi) (h3 : lo ≤ j) (h4 : j < hi) :
    Calls Try.prog 35 #[.iface 35 (.slice (some ⟨blk, 0, none⟩) 64 64), .int .i64 i, .int .i64 j, .pointer (some ⟨cb, 0, none⟩)] w (O2 g f blk W0 d cb s lo hi) := by
  have mL := mLess blk
  have hl := pv_less h j i (by omega) (by omega)
  have HSET := Lib.hid (fun (w1 : World) (hp : PV g f blk W0 d cb s w1) => pv_set hp hb (s + 1))
  cases hbv : ltF f d[j]! d[i]! with
  | true =>
    rw [hbv] at hl
    have HL := Lib.hid hl
    clear hl hbv h
    go_enter Try.func35, Try.ntmps35
    go_wp2_with (go_at_call 53; refine HL.out.mono ?_; rintro e w1 ⟨rfl, HP⟩; obtain ⟨_, _, hcl, hc, hf⟩ := HP.out)
    go_ret2
    exact ⟨j, i, s + 1, rfl, h3, h4, h1, h2, Nat.le_refl _, Lib.hid (by have := HSET.out w1 HP.out; rw [show ((s + 1 : Nat) : Int) = (s : Int) + 1 by omega] at this; exact this)⟩
  | false =>
    rw [hbv] at hl
    have HL := Lib.hid hl
    clear hl hbv h
    go_enter Try.func35, Try.ntmps35
    go_wp2_with (go_at_call 53; refine HL.out.mono ?_; rintro e w1 ⟨rfl, HP⟩)
    go_ret2
    exact ⟨i, j, s, rfl, h1, h2, h3, h4, by omega, HP⟩
/-- A place out of a range, the counter moved on. -/
def O1 (g : Nat → ByteArray) (f : Nat → Int) (blk : Nat) (W0 : World) (d : Array Nat) (cb s lo hi : Nat) (e : Ending) (w' : World) : Prop := ∃ x s' : Nat, e = .returned (.int .i64 (x : Int)) ∧ lo ≤ x ∧ x < hi ∧ s' ≤ s + 3 ∧ Hid (PV g f blk W0 d cb s' w')
set_option maxHeartbeats 4000000 in
theorem med34 {cb s lo hi : Nat} (i j k : Nat) (zi zj zk : Int) (ei : zi = (i : Int)) (ej : zj = (j : Int)) (ek : zk = (k : Int)) (h : PV g f blk W0 d cb s w) (hb : blk < W0.heap.size) (hs : s ≤ 90) (h64 : hi ≤ 64) (h1 : lo ≤ i) (h2 : i < hi) (h3 : lo ≤ j) (h4 : j < hi) (h5 : lo ≤ k) (h6 : k < hi) :
    Calls Try.prog 34 #[.iface 35 (.slice (some ⟨blk, 0, none⟩) 64 64), .int .i64 zi, .int .i64 zj, .int .i64 zk, .pointer (some ⟨cb, 0, none⟩)] w (O1 g f blk W0 d cb s lo hi) := by
  subst ei; subst ej; subst ek
  have A1 := Lib.hid (order35 h hb (by omega) h64 h1 h2 h3 h4)
  clear h
  go_enter Try.func34, Try.ntmps34
  go_wp2_with (have A0 := A1; clear A1; go_at_call 35; refine A0.out.mono ?_; clear A0; rintro e w1 ⟨x, y, s1, rfl, x1, x2, y1, y2, hs1, HP1⟩; have A2 := Lib.hid (order35 HP1.out hb (by omega) h64 y1 y2 h5 h6))
  go_wp2_with (have A0 := A2; clear A2; go_at_call 35; refine A0.out.mono ?_; clear A0; rintro e w2 ⟨x', y', s2, rfl, x3, x4, y3, y4, hs2, HP2⟩; have A3 := Lib.hid (order35 HP2.out hb (by omega) h64 x1 x2 x3 x4))
  go_wp2_with (have A0 := A3; clear A3; go_at_call 35; refine A0.out.mono ?_; clear A0; rintro e w3 ⟨x5, y5, s3, rfl, x6, x7, y6, y7, hs3, HP3⟩)
  go_ret
  exact ⟨y5, s3, rfl, y6, y7, by omega, HP3⟩
set_option maxHeartbeats 4000000 in
theorem adj33 {cb s lo hi : Nat} (i : Nat) (zi : Int) (ei : zi = (i : Int)) (h : PV g f blk W0 d cb s w) (hb : blk < W0.heap.size) (hs : s ≤ 90) (h64 : hi ≤ 64) (h1 : lo + 1 ≤ i) (h2 : i + 1 < hi) :
    Calls Try.prog 33 #[.iface 35 (.slice (some ⟨blk, 0, none⟩) 64 64), .int .i64 zi, .pointer (some ⟨cb, 0, none⟩)] w (O1 g f blk W0 d cb s lo hi) := by
  subst ei
  have A1 := Lib.hid (med34 (lo := lo) (hi := hi) (i - 1) i (i + 1) ((i : Int) - 1) (i : Int) ((i : Int) + 1) (by omega) rfl (by omega) h hb hs h64 (by omega) (by omega) (by omega) (by omega) (by omega) h2)
  clear h
  go_enter Try.func33, Try.ntmps33
  go_wp2_with (go_at_call 34; refine A1.out.mono ?_; rintro e w1 ⟨x, s1, rfl, x1, x2, hs1, HP1⟩)
  go_ret
  exact ⟨x, s1, rfl, x1, x2, hs1, HP1⟩
/-- What choosePivot hands back. -/
def Cp (g : Nat → ByteArray) (f : Nat → Int) (blk : Nat) (W0 : World) (d : Array Nat) (a b : Nat) (e : Ending) (w' : World) : Prop := ∃ (p : Nat) (hn : Int), e = .returned (.tuple #[.int .i64 (p : Int), .int .i64 hn]) ∧ a ≤ p ∧ p < b ∧ 0 ≤ hn ∧ hn ≤ 2 ∧ Hid (SX g f blk W0 d w')
theorem pv_start (h : St g f blk w d) : PV g f blk w d w.heap.size 0 (w.alloc (.cells #[.int .i64 0] 3)) := by
  have hb : Below w.heap.size w (w.alloc (.cells #[.int .i64 0] 3)) := (Below.refl _ _).alloc (Nat.le_refl _) _
  have hr := heap_alloc_new w (.cells #[.int .i64 0] 3)
  exact ⟨(SX.start h).below hb, Nat.le_refl _, by simp, by rw [cell_of_row _ _ 0 _ _ _ hr]; rfl, frozen_of_row _ _ _ _ _ hr⟩
set_option maxRecDepth 100000 in
set_option maxHeartbeats 8000000 in
theorem pivot24 {a b : Nat} (h : St g f blk w d) (h1 : a + 12 < b) (hb : b ≤ 64) : Calls Try.prog 24 #[.iface 35 (.slice (some ⟨blk, 0, none⟩) 64 64), .int .i64 a, .int .i64 b] w (Cp g f blk w d a b) := by
  have hbl := h.lt
  obtain ⟨L, hL⟩ : ∃ L : Nat, L = b - a := ⟨_, rfl⟩
  obtain ⟨q, hq⟩ : ∃ q : Nat, q = L / 4 := ⟨_, rfl⟩
  have eL : (b : Int) - (a : Int) = (L : Int) := by omega
  have eq : (L : Int) / 4 = (q : Int) := by omega
  have b1 : 3 ≤ q := by omega
  have b2 : 4 * q ≤ L := by omega
  have b3 : a + L ≤ 64 := by omega
  have b4 : a + L = b := by omega
  have HP := Lib.hid (pv_start h)
  have hLz : 8 ≤ (L : Int) := by omega
  clear hL hq h
  by_cases h50 : 50 ≤ (L : Int)
  · have A1 := Lib.hid (adj33 (lo := a) (hi := b) (a + q) ((a : Int) + (q : Int)) (by omega) HP.out hbl (by omega) hb (by omega) (by omega))
    go_enter Try.func24, Try.ntmps24
    go_wp2_with (have A0 := A1; clear A1; go_at_call 33; refine A0.out.mono ?_; clear A0; rintro e w1 ⟨x1, s1, rfl, l1, r1, hs1, HP1⟩; have A2 := Lib.hid (adj33 (lo := a) (hi := b) (a + q * 2) ((a : Int) + (q : Int) * 2) (by omega) HP1.out hbl (by omega) hb (by omega) (by omega)))
    go_wp2_with (have A0 := A2; clear A2; go_at_call 33; refine A0.out.mono ?_; clear A0; rintro e w2 ⟨x2, s2, rfl, l2, r2, hs2, HP2⟩; have A3 := Lib.hid (adj33 (lo := a) (hi := b) (a + q * 3) ((a : Int) + (q : Int) * 3) (by omega) HP2.out hbl (by omega) hb (by omega) (by omega)))
    go_wp2_with (have A0 := A3; clear A3; go_at_call 33; refine A0.out.mono ?_; clear A0; rintro e w3 ⟨x3, s3, rfl, l3, r3, hs3, HP3⟩; have A4 := Lib.hid (med34 (lo := a) (hi := b) x1 x2 x3 _ _ _ rfl rfl rfl HP3.out hbl (by omega) hb l1 r1 l2 r2 l3 r3))
    go_wp2_with (have A0 := A4; clear A4; go_at_call 34; refine A0.out.mono ?_; clear A0; rintro e w4 ⟨x4, s4, rfl, l4, r4, hs4, HP4⟩; obtain ⟨_, _, hcl, hc, hf⟩ := HP4.out)
    all_goals go_ret2
    all_goals exact ⟨x4, _, rfl, l4, r4, by omega, by omega, Lib.hid HP4.out.1⟩
  · have A4 := Lib.hid (med34 (lo := a) (hi := b) (a + q) (a + q * 2) (a + q * 3) ((a : Int) + (q : Int)) ((a : Int) + (q : Int) * 2) ((a : Int) + (q : Int) * 3) (by omega) (by omega) (by omega) HP.out hbl (by omega) hb (by omega) (by omega) (by omega) (by omega) (by omega) (by omega))
    go_enter Try.func24, Try.ntmps24
    go_wp2_with (have A0 := A4; clear A4; go_at_call 34; refine A0.out.mono ?_; clear A0; rintro e w4 ⟨x4, s4, rfl, l4, r4, hs4, HP4⟩; obtain ⟨_, _, hcl, hc, hf⟩ := HP4.out)
    all_goals go_ret2
    all_goals exact ⟨x4, _, rfl, l4, r4, by omega, by omega, Lib.hid HP4.out.1⟩
end
end Go.Proofs.Ytiocceoogapkcaa.Aux
