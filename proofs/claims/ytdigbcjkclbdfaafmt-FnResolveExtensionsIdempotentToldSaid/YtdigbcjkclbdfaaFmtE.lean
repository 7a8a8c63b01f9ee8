/- Contracts of functions that the law of this seat reaches, and plain facts; no condition. -/
import Derived.Test.YtdigbcjkclbdfaaFmtProg
import Derived.WalkKit
import Derived.ProofKit
import Derived.OpenShut
import Derived.ShutString
import Derived.Test.YtdigbcjkclbdfaaFmtAid
import Derived.Test.YtdigbcjkclbdfaaFmtD
import Derived.ArgAppend
import Derived.WalkSpells
import Derived.LoopTactic
import Derived.IntWalk
import Derived.Outline
import Derived.Deep.QuietTactic
import Derived.BigQuiet
import Derived.Deep.RegionHeld3
import Derived.Deep.RegionLaw
import Derived.StillTailTactics
import Derived.Defers
import Derived.Stop.CallBack
import Derived.Stop.IfaceNil
import GoSem.ClaimData
import Derived.Stop.Texts
import Derived.Stop.JoinedTold
import Derived.Stop.FmtTextKit
import Derived.Stop.FmtTextVerbs
namespace Go.Proofs.YtdigbcjkclbdfaaFmt.Aux
open Go.ChangeShapes Go.WideShapes Go.ChangeAt Go.RowKit
open Go.ChangeMaps (open_string shut_string)
set_option linter.unusedVariables false
open Fl Str Pb Qd PlainAid Aux
open Go.Extern.Stop Go.Stop Go.Extern Go.Kit
theorem keepB {w w' : World} {b n : Nat} {V : Nat → Value} (h : Fsl w (some ⟨b, 0, none⟩) n V) (hb : w'.heap[b]? = w.heap[b]?) : Fsl w' (some ⟨b, 0, none⟩) n V := by
  refine ⟨(fun e => by cases e), fun i hi => ?_⟩
  have hc := h.cell i hi
  have hc' : w'.cell? ⟨b, 0 + i, none⟩ = some (V i) := (World.cell?_of_block hb).trans hc
  exact ⟨b, 0, rfl, lt_of_cell hc', hc'⟩
theorem emp_cnt {T : List ByteArray} {m : Nat} (h : T.length = m) : (!T.isEmpty) = decide (0 < m) := by
  subst h
  cases T <;> simp
set_option maxRecDepth 100000 in
set_option maxHeartbeats 8000000 in
theorem zzN (F : Interp) (x : Addr) (n c : Nat) (S : Nat → ByteArray) (w : World) (hF : F.told.answers w.tape) (hsl : Fsl w (some x) n (fun j => .string (S j))) (hx : x.block < w.heap.size) (hn : n ≤ 1048576) (hS : ∀ j, j < n → (S j).size ≤ 1048576) :
    Calls Tryf.prog 8 #[.slice (some x) n c] w fun e w' => e = .returned (.tuple #[.slice (some x) n c, .bool (decide (0 < cnt S n))]) ∧ Below w.heap.size w w' := by
  have HT := Lib.hid hF
  have HL := Lib.hid hsl
  have HX := Lib.hid hx
  have HS := Lib.hid hS
  clear hF hsl hx hS
  go_enter Tryf.func8, Tryf.ntmps8
  go_wp2_with fail
  refine (newLog _).mono ?_
  rintro e w1 ⟨s, hs, rfl, hlg, hb⟩
  unfold logV
  have hB2 : Below w1.heap.size w1 (w1.alloc (.cells (logV s) 40)) := by (repeat' (first | exact Below.refl _ _ | refine Below.drewR ?_ | (refine Below.alloc ?_ (by simp; omega) _) | (refine Below.alloc ?_ (by simp) _) | (refine Below.setCell ?_ (by simp; omega) _) | (refine Below.setCell ?_ (by simp) _)))
  have hsz := lt_of_blk hlg.he
  have hbz := hb.size
  have HB2 : Hid (Below w.heap.size w (w1.alloc (.cells (logV s) 40))) := Lib.hid (hb.trans (hB2.mono hbz))
  have HV := Lib.hid (vreN F s x n c S (w1.alloc (.cells (logV s) 40)) (by rw [HB2.out.tape]; exact HT.out) (hlg.below hB2) (HL.out.belowB (fun y e => by injection e with e; subst e; exact HX.out) HB2.out) (by have := HX.out; omega) hn HS.out)
  have HBX : Hid (Bx s w1.heap.size (w1.alloc (.cells (logV s) 40))) := Lib.hid (heap_alloc_new _ _)
  clear hlg hb hB2
  go_wp2_with fail
  refine HV.out.mono ?_
  rintro e w3 ⟨rfl, T, pa, pc, hlg, hlen, hb3, hk3⟩
  have hbx3 : Bx s w1.heap.size w3 := (hk3 w1.heap.size _ _ (by omega) HBX.out (by decide)).trans HBX.out
  obtain ⟨d0, d1, d2, d3, d4, d5, hlx⟩ := hbx3.cells
  have HB3 : Hid (Below w.heap.size w w3) := Lib.hid (HB2.out.trans (hb3.mono hs))
  have HH := Lib.hid (has21 s T _ w3 hlg)
  have he := emp_cnt hlen
  rw [he] at HH
  clear hlg hlen hb3 hk3 hbx3 he HV
  go_wp2_with fail
  refine HH.out.mono ?_
  rintro e w4 ⟨rfl, _, hb4, _⟩
  have HB4 : Hid (Below w.heap.size w w4) := Lib.hid (HB3.out.trans (hb4.mono hs))
  clear hb4
  go_wp2_with fail
  go_ret2
  exact ⟨rfl, HB4.out⟩
def Z0 (w : World) (v : Value) (e : Ending) (w' : World) : Prop := ∃ b, w.heap.size ≤ b ∧ e = .returned (.tuple #[.slice (some ⟨b, 0, none⟩) 6 6, v]) ∧ Below w.heap.size w w' ∧ Fsl w' (some ⟨b, 0, none⟩) 6 (fun i => .string (defS i))
set_option maxRecDepth 100000 in
set_option maxHeartbeats 8000000 in
theorem zz0 (w : World) : Calls Tryf.prog 8 #[.slice none 0 0] w (Z0 w (.bool false)) := by
  go_enter Tryf.func8, Tryf.ntmps8
  go_wp2_with fail
  refine (newLog _).mono ?_
  rintro e w1 ⟨s, hs, rfl, hlg, hb⟩
  unfold logV
  have hB2 : Below w1.heap.size w1 (w1.alloc (.cells (logV s) 40)) := by (repeat' (first | exact Below.refl _ _ | refine Below.drewR ?_ | (refine Below.alloc ?_ (by simp; omega) _) | (refine Below.alloc ?_ (by simp) _) | (refine Below.setCell ?_ (by simp; omega) _) | (refine Below.setCell ?_ (by simp) _)))
  have hsz := lt_of_blk hlg.he
  have hbz := hb.size
  have HB2 : Hid (Below w.heap.size w (w1.alloc (.cells (logV s) 40))) := Lib.hid (hb.trans (hB2.mono hbz))
  have HV := Lib.hid (vre0 s (w1.alloc (.cells (logV s) 40)) (hlg.below hB2))
  have HBX : Hid (Bx s w1.heap.size (w1.alloc (.cells (logV s) 40))) := Lib.hid (heap_alloc_new _ _)
  clear hlg hb hB2
  go_wp2_with fail
  refine HV.out.mono ?_
  rintro e w3 ⟨b, hbb, rfl, hlg, hb3, hsl, cs, hbk⟩
  have HBK := Lib.hid hbk
  clear hbk
  have hbx3 : Bx s w1.heap.size w3 := (hb3.block w1.heap.size (by simp)).trans HBX.out
  obtain ⟨d0, d1, d2, d3, d4, d5, hlx⟩ := hbx3.cells
  have hz2 := HB2.out.size
  have HB3 : Hid (Below w.heap.size w w3) := Lib.hid (HB2.out.trans (hb3.mono hz2))
  have HH := Lib.hid (has21 s [] _ w3 hlg)
  have HSL := Lib.hid hsl
  have hbl : b < w3.heap.size := hsl.lt (by omega)
  simp at hbb hz2
  clear hlg hb3 hbx3 HV hsl
  go_wp2_with fail
  refine HH.out.mono ?_
  rintro e w4 ⟨rfl, _, hb4, hk4⟩
  have HB4 : Hid (Below w.heap.size w w4 ∧ Fsl w4 (some ⟨b, 0, none⟩) 6 (fun i => .string (defS i))) := Lib.hid ⟨HB3.out.trans (hb4.mono hs), keepB HSL.out (hk4 b _ _ (by omega) HBK.out (by decide))⟩
  clear hb4 hk4
  go_wp2_with fail
  go_ret2
  exact ⟨b, by omega, rfl, HB4.out⟩
set_option maxRecDepth 100000 in
set_option maxHeartbeats 8000000 in
theorem yyN (F : Interp) (x : Addr) (n c : Nat) (S : Nat → ByteArray) (w : World) (hF : F.told.answers w.tape) (hsl : Fsl w (some x) n (fun j => .string (S j))) (hx : x.block < w.heap.size) (hn : n ≤ 1048576) (hS : ∀ j, j < n → (S j).size ≤ 1048576) :
    Calls Tryf.prog 13 #[.slice (some x) n c] w fun e w' => e = .returned (.tuple #[.slice (some x) n c, .int .i64 (cnt S n : Int)]) ∧ Below w.heap.size w w' := by
  have HT := Lib.hid hF
  have HL := Lib.hid hsl
  have HX := Lib.hid hx
  have HS := Lib.hid hS
  clear hF hsl hx hS
  go_enter Tryf.func13, Tryf.ntmps13
  go_wp2_with fail
  refine (newLog _).mono ?_
  rintro e w1 ⟨s, hs, rfl, hlg, hb⟩
  unfold logV
  have hB2 : Below w1.heap.size w1 (w1.alloc (.cells (logV s) 40)) := by (repeat' (first | exact Below.refl _ _ | refine Below.drewR ?_ | (refine Below.alloc ?_ (by simp; omega) _) | (refine Below.alloc ?_ (by simp) _) | (refine Below.setCell ?_ (by simp; omega) _) | (refine Below.setCell ?_ (by simp) _)))
  have hsz := lt_of_blk hlg.he
  have hbz := hb.size
  have HB2 : Hid (Below w.heap.size w (w1.alloc (.cells (logV s) 40))) := Lib.hid (hb.trans (hB2.mono hbz))
  have HV := Lib.hid (vreN F s x n c S (w1.alloc (.cells (logV s) 40)) (by rw [HB2.out.tape]; exact HT.out) (hlg.below hB2) (HL.out.belowB (fun y e => by injection e with e; subst e; exact HX.out) HB2.out) (by have := HX.out; omega) hn HS.out)
  have HBX : Hid (Bx s w1.heap.size (w1.alloc (.cells (logV s) 40))) := Lib.hid (heap_alloc_new _ _)
  clear hlg hb hB2
  go_wp2_with fail
  refine HV.out.mono ?_
  rintro e w3 ⟨rfl, T, pa, pc, hlg, hlen, hb3, hk3⟩
  have hbx3 : Bx s w1.heap.size w3 := (hk3 w1.heap.size _ _ (by omega) HBX.out (by decide)).trans HBX.out
  obtain ⟨d0, d1, d2, d3, d4, d5, hlx⟩ := hbx3.cells
  have HB3 : Hid (Below w.heap.size w w3) := Lib.hid (HB2.out.trans (hb3.mono hs))
  have hcl := cnt_le S n
  have HH := Lib.hid (done23 s T pa pc w3 hlg (by omega))
  rw [hlen] at HH
  clear hlg hlen hb3 hk3 hbx3 HV
  go_wp2_with fail
  refine HH.out.mono ?_
  rintro e w4 ⟨rfl, hb4, _⟩
  have HB4 : Hid (Below w.heap.size w w4) := Lib.hid (HB3.out.trans (hb4.mono hs))
  clear hb4
  go_wp2_with fail
  go_ret2
  exact ⟨rfl, HB4.out⟩
set_option maxRecDepth 100000 in
set_option maxHeartbeats 8000000 in
theorem yy0 (w : World) : Calls Tryf.prog 13 #[.slice none 0 0] w (Z0 w (.int .i64 0)) := by
  go_enter Tryf.func13, Tryf.ntmps13
  go_wp2_with fail
  refine (newLog _).mono ?_
  rintro e w1 ⟨s, hs, rfl, hlg, hb⟩
  unfold logV
  have hB2 : Below w1.heap.size w1 (w1.alloc (.cells (logV s) 40)) := by (repeat' (first | exact Below.refl _ _ | refine Below.drewR ?_ | (refine Below.alloc ?_ (by simp; omega) _) | (refine Below.alloc ?_ (by simp) _) | (refine Below.setCell ?_ (by simp; omega) _) | (refine Below.setCell ?_ (by simp) _)))
  have hsz := lt_of_blk hlg.he
  have hbz := hb.size
  have HB2 : Hid (Below w.heap.size w (w1.alloc (.cells (logV s) 40))) := Lib.hid (hb.trans (hB2.mono hbz))
  have HV := Lib.hid (vre0 s (w1.alloc (.cells (logV s) 40)) (hlg.below hB2))
  have HBX : Hid (Bx s w1.heap.size (w1.alloc (.cells (logV s) 40))) := Lib.hid (heap_alloc_new _ _)
  clear hlg hb hB2
  go_wp2_with fail
  refine HV.out.mono ?_
  rintro e w3 ⟨b, hbb, rfl, hlg, hb3, hsl, cs, hbk⟩
  have HBK := Lib.hid hbk
  clear hbk
  have hbx3 : Bx s w1.heap.size w3 := (hb3.block w1.heap.size (by simp)).trans HBX.out
  obtain ⟨d0, d1, d2, d3, d4, d5, hlx⟩ := hbx3.cells
  have hz2 := HB2.out.size
  have HB3 : Hid (Below w.heap.size w w3) := Lib.hid (HB2.out.trans (hb3.mono hz2))
  have HH := Lib.hid (done23 s [] none 0 w3 hlg (by simp))
  have HSL := Lib.hid hsl
  have hbl : b < w3.heap.size := hsl.lt (by omega)
  simp at hbb hz2
  clear hlg hb3 hbx3 HV hsl
  go_wp2_with fail
  refine HH.out.mono ?_
  rintro e w4 ⟨rfl, hb4, hk4⟩
  have HB4 : Hid (Below w.heap.size w w4 ∧ Fsl w4 (some ⟨b, 0, none⟩) 6 (fun i => .string (defS i))) := Lib.hid ⟨HB3.out.trans (hb4.mono hs), keepB HSL.out (hk4 b _ _ (by omega) HBK.out (by decide))⟩
  clear hb4 hk4
  go_wp2_with fail
  go_ret2
  exact ⟨b, by omega, rfl, HB4.out⟩
def zbP (a0 : Option Addr) (l0 c0 : Nat) (S0 : Nat → ByteArray) (w : World) (e : Ending) (w' : World) : Prop := w' = w ∧ ∃ v, e = .returned (.bool v) ∧ Hid (v = true → (l0 ≤ 1048576 ∧ (∀ j, j < l0 → (S0 j).size ≤ 1048576)))
set_option maxHeartbeats 4000000 in
theorem zb (a0 : Option Addr) (l0 c0 : Nat) (S0 : Nat → ByteArray) (w : World) (h0 : Fsl w a0 l0 (fun j => .string (S0 j))) (m0 : ∀ j, j < l0 → (S0 j).size ≤ maxLen) : Calls Tryf.prog 5 #[.slice a0 l0 c0] w (zbP a0 l0 c0 S0 w) := by
  have M0 := Lib.hid m0
  clear m0
  go_enter Tryf.func5, Tryf.ntmps5
  by_cases q0 : (1048576 : Int) < (l0 : Int)
  · go_wp2_with fail
    go_ret
    exact ⟨rfl, _, rfl, Lib.hid fun e => by cases e⟩
  have e0 : IntKind.i64.wrap ((l0 : Int)) = (l0 : Int) := IntWalk.i64_in _ (by omega)
  have e00 : IntKind.i64.wrap ((0 : Int) + (l0 : Int)) = (l0 : Int) := by rw [Int.zero_add]; exact e0
  go_wp2_with fail
  go_loop [3, 4] (fun z i => ∃ k : Nat, k ≤ l0 ∧ i = .int .i64 k ∧ ∃ t : Nat, t ≤ 1048576 ∧ z = .int .i64 t ∧ Hid (∀ j, j < k → (S0 j).size ≤ 1048576)) (fun _ i => l0 - (intOf i).toNat)
  case atStart => exact ⟨0, by omega, rfl, l0, by omega, by first | rfl | go_num, Lib.hid fun j hj => absurd hj (Nat.not_lt_zero _)⟩
  case round =>
    obtain ⟨k0, hk0, rfl, t0, ht0, rfl, HH0⟩ := hrel
    by_cases hlt0 : k0 < l0
    · obtain ⟨b, off, rfl, hlb, hc⟩ := h0.at k0 hlt0
      have mm := M0.out k0 hlt0
      have hk2 : (k0 : Int) < (l0 : Int) := by omega
      unfold maxLen at mm
      by_cases s1 : (1048576 : Int) < ((S0 k0).size : Int)
      · go_wp2_with fail
        go_ret
        exact ⟨rfl, _, rfl, Lib.hid fun e => by cases e⟩
      have e1 : IntKind.i64.wrap ((t0 : Int) + ((S0 k0).size : Int)) = (t0 : Int) + ((S0 k0).size : Int) := IntWalk.i64_in _ (by omega)
      by_cases s2 : (1048576 : Int) < (t0 : Int) + ((S0 k0).size : Int)
      · go_wp2_with fail
        go_ret
        exact ⟨rfl, _, rfl, Lib.hid fun e => by cases e⟩
      go_wp2_with fail
      go_round
      case rel => exact ⟨k0 + 1, by omega, by go_num, t0 + (S0 k0).size, by omega, by go_num, Lib.hid fun j hj => by
        by_cases e : j = k0
        · subst e; omega
        · exact HH0.out j (by omega)⟩
      case measure => simp [intOf]; omega
    · have hkn0 : ¬ (k0 : Int) < (l0 : Int) := by omega
      replace HH0 : Hid (∀ j, j < l0 → (S0 j).size ≤ 1048576) := Lib.hid fun j hj => HH0.out j (by omega)
      go_wp2_with fail
      go_ret
      exact ⟨rfl, _, rfl, Lib.hid fun _ => ⟨by omega, HH0.out⟩⟩
def zcP (a0 : Option Addr) (l0 c0 : Nat) (S0 : Nat → ByteArray) (w : World) (e : Ending) (w' : World) : Prop := w' = w ∧ ∃ v, e = .returned (.bool v) ∧ Hid (v = true → (l0 ≤ 1048576 ∧ (∀ j, j < l0 → (S0 j).size ≤ 1048576)))
set_option maxHeartbeats 4000000 in
theorem zc (a0 : Option Addr) (l0 c0 : Nat) (S0 : Nat → ByteArray) (w : World) (h0 : Fsl w a0 l0 (fun j => .string (S0 j))) (m0 : ∀ j, j < l0 → (S0 j).size ≤ maxLen) : Calls Tryf.prog 10 #[.slice a0 l0 c0] w (zcP a0 l0 c0 S0 w) := by
  have M0 := Lib.hid m0
  clear m0
  go_enter Tryf.func10, Tryf.ntmps10
  by_cases q0 : (1048576 : Int) < (l0 : Int)
  · go_wp2_with fail
    go_ret
    exact ⟨rfl, _, rfl, Lib.hid fun e => by cases e⟩
  have e0 : IntKind.i64.wrap ((l0 : Int)) = (l0 : Int) := IntWalk.i64_in _ (by omega)
  have e00 : IntKind.i64.wrap ((0 : Int) + (l0 : Int)) = (l0 : Int) := by rw [Int.zero_add]; exact e0
  go_wp2_with fail
  go_loop [3, 4] (fun z i => ∃ k : Nat, k ≤ l0 ∧ i = .int .i64 k ∧ ∃ t : Nat, t ≤ 1048576 ∧ z = .int .i64 t ∧ Hid (∀ j, j < k → (S0 j).size ≤ 1048576)) (fun _ i => l0 - (intOf i).toNat)
  case atStart => exact ⟨0, by omega, rfl, l0, by omega, by first | rfl | go_num, Lib.hid fun j hj => absurd hj (Nat.not_lt_zero _)⟩
  case round =>
    obtain ⟨k0, hk0, rfl, t0, ht0, rfl, HH0⟩ := hrel
    by_cases hlt0 : k0 < l0
    · obtain ⟨b, off, rfl, hlb, hc⟩ := h0.at k0 hlt0
      have mm := M0.out k0 hlt0
      have hk2 : (k0 : Int) < (l0 : Int) := by omega
      unfold maxLen at mm
      by_cases s1 : (1048576 : Int) < ((S0 k0).size : Int)
      · go_wp2_with fail
        go_ret
        exact ⟨rfl, _, rfl, Lib.hid fun e => by cases e⟩
      have e1 : IntKind.i64.wrap ((t0 : Int) + ((S0 k0).size : Int)) = (t0 : Int) + ((S0 k0).size : Int) := IntWalk.i64_in _ (by omega)
      by_cases s2 : (1048576 : Int) < (t0 : Int) + ((S0 k0).size : Int)
      · go_wp2_with fail
        go_ret
        exact ⟨rfl, _, rfl, Lib.hid fun e => by cases e⟩
      go_wp2_with fail
      go_round
      case rel => exact ⟨k0 + 1, by omega, by go_num, t0 + (S0 k0).size, by omega, by go_num, Lib.hid fun j hj => by
        by_cases e : j = k0
        · subst e; omega
        · exact HH0.out j (by omega)⟩
      case measure => simp [intOf]; omega
    · have hkn0 : ¬ (k0 : Int) < (l0 : Int) := by omega
      replace HH0 : Hid (∀ j, j < l0 → (S0 j).size ≤ 1048576) := Lib.hid fun j hj => HH0.out j (by omega)
      go_wp2_with fail
      go_ret
      exact ⟨rfl, _, rfl, Lib.hid fun _ => ⟨by omega, HH0.out⟩⟩
def anyI (w : World) (e : Ending) (w' : World) : Prop := w' = w ∧ ∃ v : Int, e = .returned (.int .i64 v)
theorem sbs (a : Option Addr) (l c : Nat) (S : Nat → ByteArray) (w : World) (h : Fsl w a l (fun j => .string (S j))) (hl : l ≤ 1048576) (hS : ∀ j, j < l → (S j).size ≤ 1048576) : Calls Tryf.prog 6 #[.slice a l c] w (anyI w) := by
  have M := Lib.hid hS
  clear hS
  by_cases q : (131072 : Int) < (l : Int)
  · go_enter Tryf.func6, Tryf.ntmps6
    go_wp2_with fail
    go_ret
    exact ⟨rfl, _, rfl⟩
  go_enter Tryf.func6, Tryf.ntmps6
  go_wp2_with fail
  go_loop [3, 4] (fun z i => ∃ k : Nat, k ≤ l ∧ i = .int .i64 k ∧ ∃ t : Nat, t ≤ 2097152 ∧ z = .int .i64 t) (fun _ i => l - (intOf i).toNat)
  case atStart => exact ⟨0, by omega, rfl, 8 * l, by omega, by go_num⟩
  case round =>
    obtain ⟨k, hk, rfl, t, ht, rfl⟩ := hrel
    by_cases hlt : k < l
    · obtain ⟨b, off, rfl, hlb, hc⟩ := h.at k hlt
      have mm := M.out k hlt
      have hk2 : (k : Int) < (l : Int) := by omega
      have e1 : IntKind.i64.wrap ((t : Int) + ((S k).size : Int)) = (t : Int) + ((S k).size : Int) := IntWalk.i64_in _ (by omega)
      by_cases s2 : (2097152 : Int) < (t : Int) + ((S k).size : Int)
      · go_wp2_with fail
        go_ret
        exact ⟨rfl, _, rfl⟩
      go_wp2_with fail
      go_round
      case rel => exact ⟨k + 1, by omega, by go_num, t + (S k).size, by omega, by go_num⟩
      case measure => simp [intOf]; omega
    · have hkn : ¬ (k : Int) < (l : Int) := by omega
      go_wp2_with fail
      go_ret
      exact ⟨rfl, _, rfl⟩
theorem sbt (a : Option Addr) (l c : Nat) (S : Nat → ByteArray) (w : World) (h : Fsl w a l (fun j => .string (S j))) (hl : l ≤ 1048576) (hS : ∀ j, j < l → (S j).size ≤ 1048576) : Calls Tryf.prog 11 #[.slice a l c] w (anyI w) := by
  have M := Lib.hid hS
  clear hS
  go_enter Tryf.func11, Tryf.ntmps11
  go_wp2_with fail
  go_loop [3, 4] (fun z i => ∃ k : Nat, k ≤ l ∧ i = .int .i64 k ∧ ∃ t : Nat, t ≤ 8388608 + k * 1048576 ∧ z = .int .i64 t) (fun _ i => l - (intOf i).toNat)
  case atStart => exact ⟨0, by omega, rfl, 8 * l, by omega, by go_num⟩
  case round =>
    obtain ⟨k, hk, rfl, t, ht, rfl⟩ := hrel
    by_cases hlt : k < l
    · obtain ⟨b, off, rfl, hlb, hc⟩ := h.at k hlt
      have mm := M.out k hlt
      have hk2 : (k : Int) < (l : Int) := by omega
      have e1 : IntKind.i64.wrap ((t : Int) + ((S k).size : Int)) = (t : Int) + ((S k).size : Int) := IntWalk.i64_in _ (by omega)
      go_wp2_with fail
      go_round
      case rel => exact ⟨k + 1, by omega, by go_num, t + (S k).size, by omega, by go_num⟩
      case measure => simp [intOf]; omega
    · have hkn : ¬ (k : Int) < (l : Int) := by omega
      go_wp2_with fail
      go_ret
      exact ⟨rfl, _, rfl⟩
end Go.Proofs.YtdigbcjkclbdfaaFmt.Aux
