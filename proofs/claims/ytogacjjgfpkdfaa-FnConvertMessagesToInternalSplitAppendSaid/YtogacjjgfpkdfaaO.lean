/- Contracts of functions that the law of this seat reaches, and plain facts; no condition. -/
import Derived.Test.YtogacjjgfpkdfaaProg
import Derived.WalkKit
import Derived.ProofKit
import Derived.OpenShut
import Derived.ShutString
import Derived.Test.YtogacjjgfpkdfaaAid
import Derived.Test.YtogacjjgfpkdfaaFl
import Derived.Test.YtogacjjgfpkdfaaStr
import Derived.Test.YtogacjjgfpkdfaaPb
import Derived.Test.YtogacjjgfpkdfaaQd
import Derived.Test.YtogacjjgfpkdfaaAm
import Derived.Test.YtogacjjgfpkdfaaMp
import Derived.Test.YtogacjjgfpkdfaaN
import Derived.Test.YtogacjjgfpkdfaaAid
import Derived.Maps.RangeRun
import Derived.Carry
import Derived.Laws.IdiomRangeMap
import Derived.ArgAppend
import Derived.Maps.Own
import Derived.WalkSmall
import Derived.WalkSpells
import Derived.Laws.Externs
import Derived.WalkLawsBesides
import Derived.LoopTactic
import Derived.Deep.CutBlock
import Derived.Deep.DeepCutAuto
import Derived.IntWalk
import Derived.Outline
import Derived.Deep.QuietTactic
import Derived.BigQuiet
import Derived.RegionTactic
import Derived.Deep.RegionHeld3
import Derived.Deep.MidRow
import Derived.StillTailTactics
import Derived.BigRegion
import Derived.Laws.OwnMore
import Derived.Laws.Rows
namespace Go.Proofs.Ytogacjjgfpkdfaa.Aux
open Go.ChangeShapes Go.WideShapes Go.ChangeAt Go.RowKit
open Go.ChangeMaps (open_string shut_string)
set_option linter.unusedVariables false
set_option linter.unusedSimpArgs false
open Fl Str Pb Qd Am Mp PlainAid Aux
open Go.ChangeMaps
/-- The answer true; nothing old changes. -/
def TB (w : World) (e : Ending) (w' : World) : Prop := e = .returned (.bool true) ∧ Hid (Below w.heap.size w w')
theorem inotes_slice {w : World} {nv : Value} {n : Nat} {nd : Nat → NoteD} (h : INotes w nv n nd) : ∃ a c, nv = .slice a n c ∧ (a = none → c = 0 ∧ n = 0) ∧ (n = 0 → a = none) := by
  rcases h with ⟨rfl, rfl⟩ | ⟨b, cap, cur, h0, rfl, _⟩
  · exact ⟨_, _, rfl, (fun _ => ⟨rfl, rfl⟩), (fun _ => rfl)⟩
  · exact ⟨_, _, rfl, (fun e => by cases e), (fun e => by omega)⟩

set_option maxRecDepth 100000 in
set_option maxHeartbeats 40000000 in
theorem msgEqA (id plug text : ByteArray) (loc : ZL) (kind : Int) (p1 p2 : Option Addr) (w : World) (h1 : ILoc w (.pointer p1) loc.opt) (h2 : ILoc w (.pointer p2) loc.opt) : Calls Try.prog 9 #[.agg #[(.slice none 0 0), (.string plug), .nilIface, (.pointer p1), (.string text), (.bool false), (.int .u8 kind), (.int .u8 (mx id : Nat))], .agg #[(.slice none 0 0), (.string plug), .nilIface, (.pointer p2), (.string text), (.bool false), (.int .u8 kind), (.int .u8 (mx id : Nat))]] w (TB w) := by
  have HL1 := Lib.hid h1
  have HL2 := Lib.hid h2
  clear h1 h2
  have hnil1 : ∀ w : World, (binOp .eql 32 (.slice none 0 0) (.slice none 0 0)).run Try.prog w = .ok (.bool true) w := fun w => Lib.run_eql_slice_nil w 32 35 _ _ _ _ _ Try.underlying32
  have hnil2 : ∀ w : World, (binOp .eql 32 (.slice none 0 0) (.slice none 0 0)).run Try.prog w = .ok (.bool true) w := fun w => Lib.run_eql_slice_nil w 32 35 _ _ _ _ _ Try.underlying32
  go_enter Try.func9, Try.ntmps9
  go_wp2_with fail
  change Calls _ _ _ ((w.alloc (.cells #[(.slice none 0 0), (.string plug), .nilIface, (.pointer p1), (.string text), (.bool false), (.int .u8 kind), (.int .u8 (mx id : Nat))] 37)).alloc (.cells #[(.slice none 0 0), (.string plug), .nilIface, (.pointer p2), (.string text), (.bool false), (.int .u8 kind), (.int .u8 (mx id : Nat))] 37)) _
  obtain ⟨W, hW⟩ : ∃ W, (w.alloc (.cells #[(.slice none 0 0), (.string plug), .nilIface, (.pointer p1), (.string text), (.bool false), (.int .u8 kind), (.int .u8 (mx id : Nat))] 37)).alloc (.cells #[(.slice none 0 0), (.string plug), .nilIface, (.pointer p2), (.string text), (.bool false), (.int .u8 kind), (.int .u8 (mx id : Nat))] 37) = W := ⟨_, rfl⟩
  have hr1 : W.heap[w.heap.size]? = some (.cells #[(.slice none 0 0), (.string plug), .nilIface, (.pointer p1), (.string text), (.bool false), (.int .u8 kind), (.int .u8 (mx id : Nat))] 37 (0, 0)) := by
    rw [← hW, Below.heap_alloc _ _ _ (by simp)]
    exact heap_alloc_new _ _
  have hr2 : W.heap[w.heap.size + 1]? = some (.cells #[(.slice none 0 0), (.string plug), .nilIface, (.pointer p2), (.string text), (.bool false), (.int .u8 kind), (.int .u8 (mx id : Nat))] 37 (0, 0)) := by
    rw [← hW]
    exact new2 _ _ _
  have hBW : Below w.heap.size w W := by
    rw [← hW]
    exact ((Below.refl _ _).alloc (Nat.le_refl _) _).alloc (by simp) _
  rw [hW]
  have HBW := Lib.hid hBW
  have hl1 : w.heap.size < W.heap.size := by rw [← hW]; simp; omega
  have hl2 : w.heap.size + 1 < W.heap.size := by rw [← hW]; simp
  clear hW hBW
  refine (locEq13 loc.opt _ _ W (HL1.out.below HBW.out) (HL2.out.below HBW.out)).mono ?_
  rintro e w5 ⟨rfl, k, hk⟩
  have HB5 : Hid (Below W.heap.size W w5) := Lib.hid (by rw [hk]; exact Qd.below_drewN (Below.refl _ _) _)
  have hs5 := HB5.out.size
  have HR1 := Lib.hid ((HB5.out.block _ hl1).trans hr1)
  have HR2 := Lib.hid ((HB5.out.block _ hl2).trans hr2)
  have HBX := Lib.hid (HBW.out.trans (HB5.out.mono HBW.out.size))
  clear hk hr1 hr2
  have c0 : w5.cell? ⟨w.heap.size, 0, none⟩ = some (.slice none 0 0) := by rw [cell_of_row _ _ 0 _ _ _ HR1.out]; rfl
  have c2 : w5.cell? ⟨w.heap.size, 2, none⟩ = some .nilIface := by rw [cell_of_row _ _ 2 _ _ _ HR1.out]; rfl
  have d0 : w5.cell? ⟨w.heap.size + 1, 0, none⟩ = some (.slice none 0 0) := by rw [cell_of_row _ _ 0 _ _ _ HR2.out]; rfl
  have d2 : w5.cell? ⟨w.heap.size + 1, 2, none⟩ = some .nilIface := by rw [cell_of_row _ _ 2 _ _ _ HR2.out]; rfl
  go_wp2_with fail
  go_quiet (fail)
  go_wp2_with fail
  obtain ⟨w6, hw6⟩ : ∃ w6, w5.drewN nq = w6 := ⟨_, rfl⟩
  have HB6 : Hid (Below w5.heap.size w5 w6) := Lib.hid (by rw [← hw6]; exact Qd.below_drewN (Below.refl _ _) _)
  rw [hw6]
  have hs6 := HB6.out.size
  have hm1 : w.heap.size < w5.heap.size := Nat.lt_of_lt_of_le hl1 hs5
  have hm2 : w.heap.size + 1 < w5.heap.size := Nat.lt_of_lt_of_le hl2 hs5
  have C0 : Hid (w6.cell? ⟨w.heap.size, 0, none⟩ = some (.slice none 0 0)) := Lib.hid ((HB6.out.cell (p := ⟨w.heap.size, 0, none⟩) hm1).trans c0)
  have D0 : Hid (w6.cell? ⟨w.heap.size + 1, 0, none⟩ = some (.slice none 0 0)) := Lib.hid ((HB6.out.cell (p := ⟨w.heap.size + 1, 0, none⟩) hm2).trans d0)
  have HBY := Lib.hid (HBX.out.trans (HB6.out.mono HBX.out.size))
  clear hw6 c0 c2 d0 d2 HR1 HR2
  go_loopw [5] (fun s5 wr => s5 = .int .i64 0 ∧ wr = w6) (fun _ _ => 0)
  case atStart => exact ⟨rfl, rfl⟩
  case round =>
    obtain ⟨rfl, rfl⟩ := hrel
    have c0 := C0.out
    go_wp2_with fail
    go_ret
    exact ⟨rfl, HBY⟩
set_option maxRecDepth 100000 in
set_option maxHeartbeats 40000000 in
theorem msgEqB (id plug text : ByteArray) (loc : ZL) (kind : Int) (p1 p2 : Option Addr) (w : World) (h1 : ILoc w (.pointer p1) loc.opt) (h2 : ILoc w (.pointer p2) loc.opt) (nl : Nat) (nd : Nat → NoteD) (b1 b2 nc1 nc2 : Nat) (hb1 : b1 < w.heap.size) (hb2 : b2 < w.heap.size) (n1 : ∀ i, i < nl → ∃ p, At w b1 (i * 4) (ncell (nd i) p) ∧ ILoc w (.pointer p) (nd i).loc.opt) (n2 : ∀ i, i < nl → ∃ p, At w b2 (i * 4) (ncell (nd i) p) ∧ ILoc w (.pointer p) (nd i).loc.opt) (hnl20 : nl ≤ 1048576) : Calls Try.prog 9 #[.agg #[(.slice (some ⟨b1, 0, none⟩) nl nc1), (.string plug), .nilIface, (.pointer p1), (.string text), (.bool false), (.int .u8 kind), (.int .u8 (mx id : Nat))], .agg #[(.slice (some ⟨b2, 0, none⟩) nl nc2), (.string plug), .nilIface, (.pointer p2), (.string text), (.bool false), (.int .u8 kind), (.int .u8 (mx id : Nat))]] w (TB w) := by
  have HL1 := Lib.hid h1
  have HL2 := Lib.hid h2
  clear h1 h2
  have HN1 := Lib.hid n1
  have HN2 := Lib.hid n2
  clear n1 n2
  have hnil1 : ∀ w : World, (binOp .eql 32 (.slice (some ⟨b1, 0, none⟩) nl nc1) (.slice none 0 0)).run Try.prog w = .ok (.bool false) w := fun w => Lib.run_eql_slice_nil w 32 35 _ _ _ _ _ Try.underlying32
  have hnil2 : ∀ w : World, (binOp .eql 32 (.slice (some ⟨b2, 0, none⟩) nl nc2) (.slice none 0 0)).run Try.prog w = .ok (.bool false) w := fun w => Lib.run_eql_slice_nil w 32 35 _ _ _ _ _ Try.underlying32
  go_enter Try.func9, Try.ntmps9
  go_wp2_with fail
  change Calls _ _ _ ((w.alloc (.cells #[(.slice (some ⟨b1, 0, none⟩) nl nc1), (.string plug), .nilIface, (.pointer p1), (.string text), (.bool false), (.int .u8 kind), (.int .u8 (mx id : Nat))] 37)).alloc (.cells #[(.slice (some ⟨b2, 0, none⟩) nl nc2), (.string plug), .nilIface, (.pointer p2), (.string text), (.bool false), (.int .u8 kind), (.int .u8 (mx id : Nat))] 37)) _
  obtain ⟨W, hW⟩ : ∃ W, (w.alloc (.cells #[(.slice (some ⟨b1, 0, none⟩) nl nc1), (.string plug), .nilIface, (.pointer p1), (.string text), (.bool false), (.int .u8 kind), (.int .u8 (mx id : Nat))] 37)).alloc (.cells #[(.slice (some ⟨b2, 0, none⟩) nl nc2), (.string plug), .nilIface, (.pointer p2), (.string text), (.bool false), (.int .u8 kind), (.int .u8 (mx id : Nat))] 37) = W := ⟨_, rfl⟩
  have hr1 : W.heap[w.heap.size]? = some (.cells #[(.slice (some ⟨b1, 0, none⟩) nl nc1), (.string plug), .nilIface, (.pointer p1), (.string text), (.bool false), (.int .u8 kind), (.int .u8 (mx id : Nat))] 37 (0, 0)) := by
    rw [← hW, Below.heap_alloc _ _ _ (by simp)]
    exact heap_alloc_new _ _
  have hr2 : W.heap[w.heap.size + 1]? = some (.cells #[(.slice (some ⟨b2, 0, none⟩) nl nc2), (.string plug), .nilIface, (.pointer p2), (.string text), (.bool false), (.int .u8 kind), (.int .u8 (mx id : Nat))] 37 (0, 0)) := by
    rw [← hW]
    exact new2 _ _ _
  have hBW : Below w.heap.size w W := by
    rw [← hW]
    exact ((Below.refl _ _).alloc (Nat.le_refl _) _).alloc (by simp) _
  rw [hW]
  have HBW := Lib.hid hBW
  have hl1 : w.heap.size < W.heap.size := by rw [← hW]; simp; omega
  have hl2 : w.heap.size + 1 < W.heap.size := by rw [← hW]; simp
  clear hW hBW
  refine (locEq13 loc.opt _ _ W (HL1.out.below HBW.out) (HL2.out.below HBW.out)).mono ?_
  rintro e w5 ⟨rfl, k, hk⟩
  have HB5 : Hid (Below W.heap.size W w5) := Lib.hid (by rw [hk]; exact Qd.below_drewN (Below.refl _ _) _)
  have hs5 := HB5.out.size
  have HR1 := Lib.hid ((HB5.out.block _ hl1).trans hr1)
  have HR2 := Lib.hid ((HB5.out.block _ hl2).trans hr2)
  have HBX := Lib.hid (HBW.out.trans (HB5.out.mono HBW.out.size))
  clear hk hr1 hr2
  have c0 : w5.cell? ⟨w.heap.size, 0, none⟩ = some (.slice (some ⟨b1, 0, none⟩) nl nc1) := by rw [cell_of_row _ _ 0 _ _ _ HR1.out]; rfl
  have c2 : w5.cell? ⟨w.heap.size, 2, none⟩ = some .nilIface := by rw [cell_of_row _ _ 2 _ _ _ HR1.out]; rfl
  have d0 : w5.cell? ⟨w.heap.size + 1, 0, none⟩ = some (.slice (some ⟨b2, 0, none⟩) nl nc2) := by rw [cell_of_row _ _ 0 _ _ _ HR2.out]; rfl
  have d2 : w5.cell? ⟨w.heap.size + 1, 2, none⟩ = some .nilIface := by rw [cell_of_row _ _ 2 _ _ _ HR2.out]; rfl
  go_wp2_with fail
  go_quiet (fail)
  go_wp2_with fail
  obtain ⟨w6, hw6⟩ : ∃ w6, w5.drewN nq = w6 := ⟨_, rfl⟩
  have HB6 : Hid (Below w5.heap.size w5 w6) := Lib.hid (by rw [← hw6]; exact Qd.below_drewN (Below.refl _ _) _)
  rw [hw6]
  have hs6 := HB6.out.size
  have hm1 : w.heap.size < w5.heap.size := Nat.lt_of_lt_of_le hl1 hs5
  have hm2 : w.heap.size + 1 < w5.heap.size := Nat.lt_of_lt_of_le hl2 hs5
  have C0 : Hid (w6.cell? ⟨w.heap.size, 0, none⟩ = some (.slice (some ⟨b1, 0, none⟩) nl nc1)) := Lib.hid ((HB6.out.cell (p := ⟨w.heap.size, 0, none⟩) hm1).trans c0)
  have D0 : Hid (w6.cell? ⟨w.heap.size + 1, 0, none⟩ = some (.slice (some ⟨b2, 0, none⟩) nl nc2)) := Lib.hid ((HB6.out.cell (p := ⟨w.heap.size + 1, 0, none⟩) hm2).trans d0)
  have HBY := Lib.hid (HBX.out.trans (HB6.out.mono HBX.out.size))
  clear hw6 c0 c2 d0 d2 HR1 HR2
  go_loopw [5] (fun s5 wr => ∃ j : Nat, j ≤ nl ∧ s5 = .int .i64 j ∧ Hid (Below w6.heap.size w6 wr)) (fun s5 _ => nl - (intOf s5).toNat)
  case atStart => exact ⟨0, by omega, rfl, Lib.hid (Below.refl _ _)⟩
  case round =>
    obtain ⟨j, hj, rfl, HJ⟩ := hrel
    have hm1' : w.heap.size < w6.heap.size := Nat.lt_of_lt_of_le hm1 hs6
    have hm2' : w.heap.size + 1 < w6.heap.size := Nat.lt_of_lt_of_le hm2 hs6
    have c0 := (HJ.out.cell (p := ⟨w.heap.size, 0, none⟩) hm1').trans C0.out
    have d0 := (HJ.out.cell (p := ⟨w.heap.size + 1, 0, none⟩) hm2').trans D0.out
    have HBZ := Lib.hid (HBY.out.trans (HJ.out.mono HBY.out.size))
    by_cases hjl : j < nl
    · have hjz : (j : Int) < (nl : Int) := by omega
      have hj0 : (0 : Int) ≤ (j : Int) := by omega
      obtain ⟨q1, a1, l1⟩ := HN1.out j hjl
      obtain ⟨q2, a2, l2⟩ := HN2.out j hjl
      have r1 := a1.below hb1 HBZ.out
      have r2 := a2.below hb2 HBZ.out
      have x1 := r1 1 _ rfl
      have x2 := r1 2 _ rfl
      have y1 := r2 1 _ rfl
      have y2 := r2 2 _ rfl
      have HQ1 := Lib.hid (l1.below HBZ.out)
      have HQ2 := Lib.hid (l2.below HBZ.out)
      clear a1 a2 l1 l2 r1 r2
      go_wp2_with fail
      go_quiet ((go_at_call 13; exact Calls.quiet_of (locEq13 (nd j).loc.opt _ _ _ (HQ1.out.below (Qd.below_drewN (Below.refl _ _) _)) (HQ2.out.below (Qd.below_drewN (Below.refl _ _) _)))))
      go_wp2_with fail
      go_roundw
      case rel => exact ⟨j + 1, by omega, by go_num, Lib.hid (Qd.below_drewN HJ.out _)⟩
      case measure => simp [intOf]; omega
    · have hjz : ¬ (j : Int) < (nl : Int) := by omega
      go_wp2_with fail
      go_ret
      exact ⟨rfl, HBZ⟩
theorem ilt {w : World} {b : Nat} {o : Obj} (h : w.heap[b]? = some o) : b < w.heap.size := Classical.byContradiction fun hn => by rw [Array.getElem?_eq_none (by omega)] at h; cases h
theorem msgEq9 (m : MD) (kind : Int) (nv1 nv2 : Value) (p1 p2 : Option Addr) (w : World) (h1 : ILoc w (.pointer p1) m.loc.opt) (h2 : ILoc w (.pointer p2) m.loc.opt) (n1 : INotes w nv1 m.nl m.nd) (n2 : INotes w nv2 m.nl m.nd) (hnl20 : m.nl ≤ 1048576) :
    Calls Try.prog 9 #[.agg (icell m nv1 p1 kind).toArray, .agg (icell m nv2 p2 kind).toArray] w (TB w) := by
  obtain ⟨id, plug, text, loc, nl, nd⟩ := m
  rcases n1 with ⟨rfl, e1⟩ | ⟨b1, c1, cur1, hp1, rfl, hh1, hn1⟩
  · rcases n2 with ⟨rfl, _⟩ | ⟨b2, c2, cur2, hp2, _⟩
    · exact msgEqA id plug text loc kind p1 p2 w h1 h2
    · exact absurd e1 (by omega)
  · rcases n2 with ⟨_, e2⟩ | ⟨b2, c2, cur2, hp2, rfl, hh2, hn2⟩
    · exact absurd e2 (by omega)
    · exact msgEqB id plug text loc kind p1 p2 w h1 h2 nl nd b1 b2 c1 c2 (ilt hh1) (ilt hh2) hn1 hn2 hnl20
set_option maxRecDepth 100000 in
theorem conv7 (a0 : Option Addr) (m c0 : Nat) (xs0 : List Value) (kind : Int) (ab n : Nat) (M : Nat → MD) (B : Nat) (w : World) (hown : w.ownsRow B 37 8 (.slice a0 m c0) m xs0) (hpk : PK w (.slice a0 m c0) xs0) (hB : B ≤ w.heap.size) (h : AMsgs w ab n M) (hm20 : m ≤ 1048576) (hn20 : n ≤ 1048576) (hnl : ∀ i, i < n → (M i).nl ≤ 1048576) :
    Calls Try.prog 7 #[.slice a0 m c0, .int .u8 kind, .slice (some ⟨ab, 0, none⟩) n n] w (CV w B (.slice a0 m c0) m xs0 M n kind) := by
  have HC := Lib.hid (conv11 a0 m c0 xs0 kind ab n M B w hown hpk hB h hm20 hn20 hnl)
  clear hown hpk hB h hnl
  go_enter Try.func7, Try.ntmps7
  go_wp2_with fail
  refine HC.out.mono ?_
  rintro e w' ⟨a', c', rfl, H⟩
  go_wp2_with fail
  go_ret
  exact ⟨a', c', rfl, H⟩
end Go.Proofs.Ytogacjjgfpkdfaa.Aux
