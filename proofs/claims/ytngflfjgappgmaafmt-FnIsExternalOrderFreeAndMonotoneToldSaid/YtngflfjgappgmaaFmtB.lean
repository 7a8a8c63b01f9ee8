/- Contracts of functions that the law of this seat reaches, and plain facts; no condition. -/
import Derived.Test.YtngflfjgappgmaaFmtProg
import Derived.WalkKit
import Derived.ProofKit
import Derived.OpenShut
import Derived.ShutString
import Derived.Test.YtngflfjgappgmaaFmtAid
import Derived.Test.YtngflfjgappgmaaFmtA
import Derived.ArgAppend
import Derived.WalkSpells
import Derived.LoopTactic
import Derived.IntWalk
import Derived.Outline
import Derived.Deep.QuietTactic
import Derived.BigQuiet
import Derived.Deep.RegionHeld3
import Derived.Deep.RegionLaw
import Derived.StillTailTactics
namespace Go.Proofs.YtngflfjgappgmaaFmt.Aux
open Go.ChangeShapes Go.WideShapes Go.ChangeAt Go.RowKit
open Go.ChangeMaps (open_string shut_string)
set_option linter.unusedVariables false
open Fl Str Pb Qd Mp PlainAid
theorem step_app {P : Program} {ops : Array Oper} {o : Oper} {a : Act} {w : World} {K : Act → World → Prop} {Q : Exit → Act → World → Prop} {F : Prop} (hg : o.guard = none) (s x : Operand) (ts : Array TypeId)
    (ho : o.op = .call { callee := .builtin .append, args := #[s, x], argTypes := ts }) {v sv : Value} (hs : a.eval s = v) (hx : a.eval x = sv) {R : Value → World → Prop}
    (hr : ∃ v' w', (Builtin.append_ ts o.type #[v, sv]).run P w = .ok v' w' ∧ R v' w') (h : ∀ v' w', R v' w' → K (a.put o.dst v') w') :
    if Region.wanted o (yielded ops a.tmps) = true then Oper.wp P o a w K Q else F := by
  have hw : Region.wanted o (yielded ops a.tmps) = true := by simp [Region.wanted, hg]
  rw [if_pos hw]
  obtain ⟨v', w', hr, hR⟩ := hr
  unfold Oper.wp execOp
  simp only [ho, resolve, invoke, builtin, Sem.run_bind, Sem.run_pure, Result.andThen_ok, List.map_toArray, List.map_cons, List.map_nil, hs, hx, hr]
  exact h v' w' hR
theorem mkm (n : Nat) (w : World) (hn : n ≤ 1048576) : (Instr.makeMap 27 (some (.int .i64 n))).run Tryf.prog w = .ok (.map (some w.heap.size)) (w.alloc (.map #[] 0)) := by
  simp [Instr.makeMap, run_underlying Tryf.underlying27, asInt, asIntOf]
set_option maxRecDepth 100000 in
set_option maxHeartbeats 4000000 in
theorem bld (a0 : Option Addr) (l0 c0 : Nat) (X : Nat → ByteArray) (a1 : Option Addr) (n1 c1 : Nat) (P : Nat → ByteArray) (a2 : Option Addr) (n2 c2 : Nat) (S : Nat → ByteArray) (w : World) (h0 : Fsl w a0 l0 (fun j => .string (X j))) (h1 : Fsl w a1 n1 (fun j => .string (P j))) (h2 : Fsl w a2 n2 (fun j => .string (S j)))
    (k0 : l0 ≤ 1048576) (k1 : n1 ≤ 1048576) (k2 : n2 ≤ 1048576) (m0 : ∀ j, j < l0 → (X j).size ≤ 1048576) :
    Calls Tryf.prog 7 #[.slice a0 l0 c0, .slice a1 n1 c1, .slice a2 n2 c2] w (BPo w X l0 P S (min n1 n2)) := by
  have HST := Lib.hid (Bs.start w X P S)
  have H0 := Lib.hid h0
  have H1 := Lib.hid h1
  have H2 := Lib.hid h2
  have M0 := Lib.hid m0
  obtain ⟨n, hn⟩ : ∃ n, n = min n1 n2 := ⟨_, rfl⟩
  have HZ : Hid (∀ w, Calls Tryf.prog 8 #[.int .i64 (n1 : Int), .int .i64 (n2 : Int)] w fun e w' => e = .returned (.int .i64 (n : Int)) ∧ w' = w) := Lib.hid fun w => by rw [hn]; exact zmin n1 n2 w
  rw [← hn]
  have hn1 : n ≤ n1 := by omega
  have hn2 : n ≤ n2 := by omega
  clear h0 h1 h2 m0 hn
  by_cases hz : l0 = 0
  · have HB0 : Hid (Bs w X l0 P S 0 ((w.alloc (.cells #[.map none, .slice none 0 0] 30)).alloc (.cells #[.map none, .slice none 0 0] 30)) (.map none) (.slice none 0 0)) := Lib.hid (by rw [hz]; exact HST.out)
    have hz2 : ¬ (0 : Int) < (l0 : Int) := by omega
    clear HST hz
    go_enter Tryf.func7, Tryf.ntmps7
    go_wp2_with fail
    refine (HZ.out _).mono ?_
    rintro e w' ⟨rfl, rfl⟩
    go_wp2_with fail
    go_loopw [10] (fun i wr => ∃ j : Nat, j ≤ n ∧ i = .int .i64 j ∧ ∃ pa pc, Hid (Bs w X l0 P S j wr (.map none) (.slice pa j pc))) (fun i _ => n - (intOf i).toNat)
    case atStart => exact ⟨0, Nat.zero_le _, rfl, none, 0, HB0⟩
    case round =>
      obtain ⟨j, hj, rfl, pa, pc, HB⟩ := hrel
      by_cases hlt : j < n
      · obtain ⟨b1, o1, rfl, l1, x1⟩ := H1.out.at j (by omega)
        obtain ⟨b2, o2, rfl, l2, x2⟩ := H2.out.at j (by omega)
        have x1 := (HB.out.low.cell (p := ⟨b1, o1 + j, none⟩) l1).trans x1
        have x2 := (HB.out.low.cell (p := ⟨b2, o2 + j, none⟩) l2).trans x2
        obtain ⟨y0, y1, z0, z1, hl⟩ := HB.out.cells
        have hs := HB.out.low.size
        have l1' : b1 < wr.heap.size := by omega
        have l2' : b2 < wr.heap.size := by omega
        have hj2 : (j : Int) < (n : Int) := by omega
        have hj3 : (j : Int) < (n1 : Int) := by omega
        have hj4 : (j : Int) < (n2 : Int) := by omega
        go_wp2_with fail
        go_region_law (refine step_app rfl _ _ #[28, 28] rfl rfl rfl ((HB.out.drew.alloc _).app (c := 1) (heap_alloc_new _ _) (by omega) _) ?_; rintro v2 W2 ⟨g, c', rfl, q0, q1, q2, q3, HC⟩)
        all_goals
          go_wp2_with fail
          go_roundw
          case rel => exact ⟨j + 1, by omega, by go_num, _, _, HC⟩
          case measure => simp [intOf]; omega
      · obtain rfl : j = n := by omega
        obtain ⟨y0, y1, z0, z1, hl⟩ := HB.out.cells
        obtain ⟨r0, r1, q0, q1, hl2⟩ := HB.out.resCells
        have hj2 : ¬ (j : Int) < (j : Int) := by omega
        have hr1 := lt_of_blk HB.out.res
        go_wp2_with fail
        exact bodyPost_ret (v := .agg #[.map none, .slice pa j pc]) (by simp [results, Tryf.results7, go_sem, r0, r1]) rfl (HB.out.fin (Chg.setCell (S := fun b => b = w.heap.size) (Chg.setCell (S := fun b => b = w.heap.size) (Chg.refl _ _) (.inl rfl) _) (.inl rfl) _))
  · have hz2 : (0 : Int) < (l0 : Int) := by omega
    have hz3 : 0 < l0 := by omega
    have hmk := fun w => mkm l0 w k0
    have HB1 := Lib.hid (Bs.start1 w X P S)
    clear HST hz
    go_enter Tryf.func7, Tryf.ntmps7
    go_wp2_with fail
    go_loopw [8] (fun i wr => ∃ k : Nat, k ≤ l0 ∧ i = .int .i64 k ∧ Hid (Bs w X k P S 0 wr (.map (some (w.heap.size + 2))) (.slice none 0 0))) (fun i _ => l0 - (intOf i).toNat)
    case atStart => exact ⟨0, Nat.zero_le _, rfl, HB1⟩
    case round =>
      obtain ⟨k, hk, rfl, HB0⟩ := hrel
      by_cases hlt0 : k < l0
      · obtain ⟨b0, o0, rfl, q0, x0⟩ := H0.out.at k hlt0
        have x0 := (HB0.out.low.cell (p := ⟨b0, o0 + k, none⟩) q0).trans x0
        obtain ⟨y0, y1, z0, z1, hl⟩ := HB0.out.cells
        have hk2 : (k : Int) < (l0 : Int) := by omega
        have HU := Lib.hid (HB0.out.drew.upd (by have := M0.out k hlt0; unfold maxLen; omega))
        go_wp2_with fail
        go_still_tail 6, (by kernel_rfl)
        go_wp2_with (at_mapUpdate; refine wpList_mapSet rfl _ _ _ 27 rfl rfl rfl rfl (R := fun w' => Hid (Bs w X (k + 1) P S 0 w' (.map (some (w.heap.size + 2))) (.slice none 0 0))) HU.out ?_; rintro w' HB2)
        go_roundw
        case rel => exact ⟨k + 1, by omega, by go_num, HB2⟩
        case measure => simp [intOf]; omega
      · obtain rfl : k = l0 := by omega
        have hk2 : ¬ (k : Int) < (k : Int) := by omega
        go_wp2_with fail
        refine (HZ.out _).mono ?_
        rintro e w' ⟨rfl, rfl⟩
        go_wp2_with fail
        go_loopw [10] (fun i wr => ∃ j : Nat, j ≤ n ∧ i = .int .i64 j ∧ ∃ pa pc, Hid (Bs w X k P S j wr (.map (some (w.heap.size + 2))) (.slice pa j pc))) (fun i _ => n - (intOf i).toNat)
        case atStart => exact ⟨0, Nat.zero_le _, rfl, none, 0, HB0⟩
        case round =>
          obtain ⟨j, hj, rfl, pa, pc, HB⟩ := hrel
          by_cases hlt : j < n
          · obtain ⟨b1, o1, rfl, l1, x1⟩ := H1.out.at j (by omega)
            obtain ⟨b2, o2, rfl, l2, x2⟩ := H2.out.at j (by omega)
            have x1 := (HB.out.low.cell (p := ⟨b1, o1 + j, none⟩) l1).trans x1
            have x2 := (HB.out.low.cell (p := ⟨b2, o2 + j, none⟩) l2).trans x2
            obtain ⟨y0, y1, z0, z1, hl⟩ := HB.out.cells
            have hs := HB.out.low.size
            have l1' : b1 < wr.heap.size := by omega
            have l2' : b2 < wr.heap.size := by omega
            have hj2 : (j : Int) < (n : Int) := by omega
            have hj3 : (j : Int) < (n1 : Int) := by omega
            have hj4 : (j : Int) < (n2 : Int) := by omega
            go_wp2_with fail
            go_region_law (refine step_app rfl _ _ #[28, 28] rfl rfl rfl ((HB.out.drew.alloc _).app (c := 1) (heap_alloc_new _ _) (by omega) _) ?_; rintro v2 W2 ⟨g, c', rfl, q0, q1, q2, q3, HC⟩)
            all_goals
              go_wp2_with fail
              go_roundw
              case rel => exact ⟨j + 1, by omega, by go_num, _, _, HC⟩
              case measure => simp [intOf]; omega
          · obtain rfl : j = n := by omega
            obtain ⟨y0, y1, z0, z1, hl⟩ := HB.out.cells
            obtain ⟨r0, r1, q0, q1, hl2⟩ := HB.out.resCells
            have hj2 : ¬ (j : Int) < (j : Int) := by omega
            have hr1 := lt_of_blk HB.out.res
            go_wp2_with fail
            exact bodyPost_ret (v := .agg #[.map (some (w.heap.size + 2)), .slice pa j pc]) (by simp [results, Tryf.results7, go_sem, r0, r1]) rfl (HB.out.fin (Chg.setCell (S := fun b => b = w.heap.size) (Chg.setCell (S := fun b => b = w.heap.size) (Chg.refl _ _) (.inl rfl) _) (.inl rfl) _))
end Go.Proofs.YtngflfjgappgmaaFmt.Aux
