/- Contracts of functions that the law of this seat reaches, and plain facts; no condition. -/
import Derived.Test.YtdigbcjkclbdfaaFmtProg
import Derived.WalkKit
import Derived.ProofKit
import Derived.OpenShut
import Derived.ShutString
import Derived.Test.YtdigbcjkclbdfaaFmtAid
import Derived.Test.YtdigbcjkclbdfaaFmtA
import Derived.ArgAppend
import Derived.WalkSpells
import Derived.LoopTactic
import Derived.IntWalk
import Derived.Outline
import Derived.Deep.QuietTactic
import Derived.BigQuiet
import Derived.Deep.RegionHeld3
import Derived.Deep.RegionLaw
import Derived.StillTailTactics
import Derived.Defers
namespace Go.Proofs.YtdigbcjkclbdfaaFmt.Aux
open Go.ChangeShapes Go.WideShapes Go.ChangeAt Go.RowKit
open Go.ChangeMaps (open_string shut_string)
set_option linter.unusedVariables false
open Fl Str Pb Qd PlainAid Aux
open Go.Extern.Stop Go.Stop Go.Extern Go.Kit
/-- Messages that can be read, none of which has a place. -/
def Rd (w : World) (pa : Option Addr) (n : Nat) : Prop :=
  ∀ i, i < n → ∃ b t, pa = some ⟨b, 0, none⟩ ∧ b < w.heap.size ∧ w.cell? ⟨b, i * 8, none⟩ = some (.slice none 0 0) ∧ w.cell? ⟨b, i * 8 + 1, none⟩ = some (.string ⟨#[]⟩) ∧ w.cell? ⟨b, i * 8 + 2, none⟩ = some .nilIface ∧ w.cell? ⟨b, i * 8 + 3, none⟩ = some (.pointer none) ∧
    w.cell? ⟨b, i * 8 + 4, none⟩ = some (.string t) ∧ w.cell? ⟨b, i * 8 + 5, none⟩ = some (.bool false) ∧ w.cell? ⟨b, i * 8 + 6, none⟩ = some (.int .u8 0) ∧ w.cell? ⟨b, i * 8 + 7, none⟩ = some (.int .u8 0)
theorem Rd.below {w w' : World} {pa : Option Addr} {n : Nat} (h : Rd w pa n) (hb : Below w.heap.size w w') : Rd w' pa n := by
  intro i hi
  obtain ⟨b, t, e, hl, c0, c1, c2, c3, c4, c5, c6, c7⟩ := h i hi
  have q : ∀ o, w'.cell? ⟨b, o, none⟩ = w.cell? ⟨b, o, none⟩ := fun o => hb.cell (p := ⟨b, o, none⟩) hl
  exact ⟨b, t, e, Nat.lt_of_lt_of_le hl hb.size, by rw [q]; exact c0, by rw [q]; exact c1, by rw [q]; exact c2, by rw [q]; exact c3, by rw [q]; exact c4, by rw [q]; exact c5, by rw [q]; exact c6, by rw [q]; exact c7⟩
def Qb (w : World) (e : Ending) (w' : World) : Prop := e = .returned (.tuple #[]) ∧ Below w.heap.size w w'
set_option maxRecDepth 100000 in
theorem less (pa : Option Addr) (n c i j : Nat) (w : World) (h : Rd w pa n) (hi : i < n) (hj : j < n) (hn : n ≤ 1048576) :
    Calls Tryf.prog 75 #[.slice pa n c, .int .i64 (i : Int), .int .i64 (j : Int)] w fun e w' => e = .returned (.bool false) ∧ Below w.heap.size w w' := by
  obtain ⟨b, t, rfl, hl, c0, c1, c2, c3, c4, c5, c6, c7⟩ := h i hi
  obtain ⟨b2, t2, e, hl2, d0, d1, d2, d3, d4, d5, d6, d7⟩ := h j hj
  simp at e
  subst e
  have i1 : (i : Int) < (n : Int) := by omega
  have i2 : (j : Int) < (n : Int) := by omega
  clear h
  go_enter Tryf.func75, Tryf.ntmps75
  go_wp2_with fail
  go_ret
  exact ⟨rfl, by (repeat' (first | exact Below.refl _ _ | refine Below.drewR ?_ | (refine Below.alloc ?_ (by simp; omega) _) | (refine Below.alloc ?_ (by simp) _) | (refine Below.setCell ?_ (by simp; omega) _) | (refine Below.setCell ?_ (by simp) _)))⟩
set_option maxRecDepth 100000 in
theorem ins (pa : Option Addr) (n c a b : Nat) (w : World) (h : Rd w pa n) (ha : a ≤ n) (hb : b ≤ n) (hn : n ≤ 1048576) :
    Calls Tryf.prog 39 #[.iface 45 (.slice pa n c), .int .i64 (a : Int), .int .i64 (b : Int)] w (Qb w) := by
  have HR := Lib.hid h
  clear h
  go_enter Tryf.func39, Tryf.ntmps39
  go_wp2_with fail
  go_loopw [6, 7] (fun i j wr => ∃ k : Nat, a + 1 ≤ k ∧ k ≤ n + 1 ∧ i = .int .i64 k ∧ Hid (Below w.heap.size w wr)) (fun i _ _ => n + 2 - (intOf i).toNat)
  case atStart => exact ⟨a + 1, by omega, by omega, by go_num, Lib.hid (Below.refl _ _)⟩
  case round =>
    obtain ⟨k, hk1, hk2, rfl, HB⟩ := hrel
    by_cases hlt : k < b
    · have i1 : (k : Int) < (b : Int) := by omega
      have i2 : (a : Int) < (k : Int) := by omega
      go_wp2_with fail
      go_loopw [7] (fun j wr => j = .int .i64 k ∧ Hid (Below w.heap.size w wr)) (fun _ _ => 0)
      case atStart => exact ⟨rfl, HB⟩
      case round =>
        obtain ⟨rfl, HB2⟩ := hrel
        have HC := Lib.hid (less pa n c k (k - 1) _ (HR.out.below HB2.out) (by omega) (by omega) hn)
        have e1 : (k : Int) - 1 = ((k - 1 : Nat) : Int) := by omega
        have e2 : IntKind.i64.wrap ((k : Int) - 1) = ((k - 1 : Nat) : Int) := by rw [e1]; exact IntWalk.i64_in _ (by omega)
        clear e1
        go_wp2_with fail
        refine HC.out.mono ?_
        rintro e w1 ⟨rfl, hb1⟩
        have HB3 : Hid (Below w.heap.size w w1) := Lib.hid (HB2.out.trans (hb1.mono HB2.out.size))
        clear hb1
        go_wp2_with fail
        go_roundw
        case rel => exact ⟨k + 1, by omega, by omega, by go_num, HB3⟩
        case measure => simp [intOf]; omega
    · have i1 : ¬ (k : Int) < (b : Int) := by omega
      go_wp2_with fail
      go_end0
      exact ⟨rfl, HB.out⟩
set_option maxHeartbeats 4000000 in
set_option maxRecDepth 100000 in
theorem sym (pa : Option Addr) (n c : Nat) (hn : n ≤ 1048576) : ∀ (d a m b : Nat), b - a ≤ d → a < m → m < b → b ≤ n → ∀ w, Rd w pa n →
    Calls Tryf.prog 40 #[.iface 45 (.slice pa n c), .int .i64 (a : Int), .int .i64 (m : Int), .int .i64 (b : Int)] w (Qb w) := by
  intro d
  induction d with
  | zero => intro a m b h1 h2 h3; omega
  | succ d ih =>
    intro a m b hd ham hmb hbn w hr
    have HR := Lib.hid hr
    have IH := Lib.hid ih
    clear hr ih
    by_cases h1 : m - a = 1
    · have e1 : ((m : Int) - (a : Int) == 1) = true := by simp; omega
      go_enter Tryf.func40, Tryf.ntmps40
      go_wp2_with fail
      go_loopw [8, 9, 10] (fun i j _ wr => i = .int .i64 m ∧ ∃ k : Nat, m ≤ k ∧ k ≤ b ∧ j = .int .i64 k ∧ Hid (Below w.heap.size w wr)) (fun _ j _ _ => (intOf j).toNat - m)
      case atStart => exact ⟨rfl, b, by omega, by omega, rfl, Lib.hid (Below.refl _ _)⟩
      case round =>
        obtain ⟨rfl, k, hk1, hk2, rfl, HB⟩ := hrel
        by_cases hlt : m < k
        · have i1 : (m : Int) < (k : Int) := by omega
          obtain ⟨h, hh⟩ : ∃ h : Nat, ((m : Int) + (k : Int)) / 2 = (h : Int) := ⟨(m + k) / 2, by omega⟩
          have hh1 : m ≤ h ∧ h < k := by omega
          have HC := Lib.hid (less pa n c h a _ (HR.out.below HB.out) (by omega) (by omega) hn)
          go_wp2_with fail
          refine HC.out.mono ?_
          rintro e w1 ⟨rfl, hb1⟩
          have HB3 : Hid (Below w.heap.size w w1) := Lib.hid (HB.out.trans (hb1.mono HB.out.size))
          clear hb1
          go_wp2_with fail
          go_roundw
          case rel => exact ⟨rfl, h, by omega, by omega, rfl, HB3⟩
          case measure => simp [intOf]; omega
        · have i1 : ¬ (m : Int) < (k : Int) := by omega
          go_wp2_with fail
          go_loopw [11] (fun i wr => i = .int .i64 a ∧ Hid (Below w.heap.size w wr)) (fun _ _ => 0)
          case atStart => exact ⟨rfl, HB⟩
          case round =>
            obtain ⟨rfl, HB2⟩ := hrel
            have i2 : ¬ (a : Int) < (m : Int) - 1 := by omega
            go_wp2_with fail
            go_end0
            exact ⟨rfl, HB2.out⟩
    · have e1 : ((m : Int) - (a : Int) == 1) = false := by simp; omega
      by_cases h2 : b - m = 1
      · have e2 : ((b : Int) - (m : Int) == 1) = true := by simp; omega
        go_enter Tryf.func40, Tryf.ntmps40
        go_wp2_with fail
        go_loopw [12, 13, 14] (fun i j _ wr => j = .int .i64 m ∧ ∃ k : Nat, a ≤ k ∧ k ≤ m ∧ i = .int .i64 k ∧ Hid (Below w.heap.size w wr)) (fun i _ _ _ => m - (intOf i).toNat)
        case atStart => exact ⟨rfl, a, by omega, by omega, rfl, Lib.hid (Below.refl _ _)⟩
        case round =>
          obtain ⟨rfl, k, hk1, hk2, rfl, HB⟩ := hrel
          by_cases hlt : k < m
          · have i1 : (k : Int) < (m : Int) := by omega
            obtain ⟨h, hh⟩ : ∃ h : Nat, ((k : Int) + (m : Int)) / 2 = (h : Int) := ⟨(k + m) / 2, by omega⟩
            have hh1 : k ≤ h ∧ h < m := by omega
            have HC := Lib.hid (less pa n c m h _ (HR.out.below HB.out) (by omega) (by omega) hn)
            go_wp2_with fail
            refine HC.out.mono ?_
            rintro e w1 ⟨rfl, hb1⟩
            have HB3 : Hid (Below w.heap.size w w1) := Lib.hid (HB.out.trans (hb1.mono HB.out.size))
            clear hb1
            go_wp2_with fail
            go_roundw
            case rel => exact ⟨rfl, h + 1, by omega, by omega, by go_num, HB3⟩
            case measure => simp [intOf]; omega
          · have i1 : ¬ (k : Int) < (m : Int) := by omega
            have i3 : ¬ (k : Int) < (m : Int) := by omega
            go_wp2_with fail
            go_loopw [15] (fun i wr => i = .int .i64 m ∧ Hid (Below w.heap.size w wr)) (fun _ _ => 0)
            case atStart => exact ⟨rfl, HB⟩
            case round =>
              obtain ⟨rfl, HB2⟩ := hrel
              go_wp2_with fail
              go_end0
              exact ⟨rfl, HB2.out⟩
      · have e2 : ((b : Int) - (m : Int) == 1) = false := by simp; omega
        obtain ⟨mid, hmid⟩ : ∃ mid : Nat, ((a : Int) + (b : Int)) / 2 = (mid : Int) := ⟨(a + b) / 2, by omega⟩
        have hmid1 : a + 2 ≤ mid ∧ mid + 2 ≤ b := by omega
        by_cases h3 : mid < m
        · have e3 : (mid : Int) < (m : Int) := by omega
          obtain ⟨st0, hst0⟩ : ∃ st0 : Nat, (mid : Int) + (m : Int) - (b : Int) = (st0 : Int) := ⟨mid + m - b, by omega⟩
          have HI := Lib.hid (IH.out mid m b (by omega) h3 hmb hbn)
          go_enter Tryf.func40, Tryf.ntmps40
          go_wp2_with fail
          go_loopw [18, 19, 21] (fun st r _ wr => r = .int .i64 mid ∧ ∃ k : Nat, st0 ≤ k ∧ k ≤ mid ∧ st = .int .i64 k ∧ Hid (Below w.heap.size w wr)) (fun st _ _ _ => mid - (intOf st).toNat)
          case atStart => exact ⟨rfl, st0, by omega, by omega, by first | rfl | go_num, Lib.hid (Below.refl _ _)⟩
          case round =>
            obtain ⟨rfl, k, hk1, hk2, rfl, HB⟩ := hrel
            by_cases hlt : k < mid
            · have i1 : (k : Int) < (mid : Int) := by omega
              obtain ⟨h, hh⟩ : ∃ h : Nat, ((k : Int) + (mid : Int)) / 2 = (h : Int) := ⟨(k + mid) / 2, by omega⟩
              have hh1 : k ≤ h ∧ h < mid := by omega
              obtain ⟨p, hp⟩ : ∃ p : Nat, (mid : Int) + (m : Int) - 1 - (h : Int) = (p : Int) := ⟨mid + m - 1 - h, by omega⟩
              have HC := Lib.hid (less pa n c p h _ (HR.out.below HB.out) (by omega) (by omega) hn)
              go_wp2_with fail
              refine HC.out.mono ?_
              rintro e w1 ⟨rfl, hb1⟩
              have HB3 : Hid (Below w.heap.size w w1) := Lib.hid (HB.out.trans (hb1.mono HB.out.size))
              clear hb1
              go_wp2_with fail
              go_roundw
              case rel => exact ⟨rfl, h + 1, by omega, by omega, by go_num, HB3⟩
              case measure => simp [intOf]; omega
            · obtain rfl : k = mid := by omega
              have i1 : ¬ (k : Int) < (k : Int) := by omega
              have i2 : (a : Int) < (k : Int) := by omega
              have i3 : (k : Int) + (m : Int) - (k : Int) = (m : Int) := by omega
              have i4 : ¬ (m : Int) < (m : Int) := by omega
              have i5 : (m : Int) < (b : Int) := by omega
              go_wp2_with fail
              refine (HI.out _ (HR.out.below HB.out)).mono ?_
              rintro e w1 ⟨rfl, hb1⟩
              have HB3 : Hid (Below w.heap.size w w1) := Lib.hid (HB.out.trans (hb1.mono HB.out.size))
              clear hb1
              go_wp2_with fail
              go_end0
              exact ⟨rfl, HB3.out⟩
        · have e3 : ¬ (mid : Int) < (m : Int) := by omega
          have HI : Hid (m < mid → ∀ w, Rd w pa n → Calls Tryf.prog 40 #[.iface 45 (.slice pa n c), .int .i64 (a : Int), .int .i64 (m : Int), .int .i64 (mid : Int)] w (Qb w)) := Lib.hid fun h => IH.out a m mid (by omega) ham h (by omega)
          go_enter Tryf.func40, Tryf.ntmps40
          go_wp2_with fail
          go_loopw [18, 19, 21] (fun st r _ wr => r = .int .i64 m ∧ ∃ k : Nat, a ≤ k ∧ k ≤ m ∧ st = .int .i64 k ∧ Hid (Below w.heap.size w wr)) (fun st _ _ _ => m - (intOf st).toNat)
          case atStart => exact ⟨rfl, a, by omega, by omega, by first | rfl | go_num, Lib.hid (Below.refl _ _)⟩
          case round =>
            obtain ⟨rfl, k, hk1, hk2, rfl, HB⟩ := hrel
            by_cases hlt : k < m
            · have i1 : (k : Int) < (m : Int) := by omega
              obtain ⟨h, hh⟩ : ∃ h : Nat, ((k : Int) + (m : Int)) / 2 = (h : Int) := ⟨(k + m) / 2, by omega⟩
              have hh1 : k ≤ h ∧ h < m := by omega
              obtain ⟨p, hp⟩ : ∃ p : Nat, (mid : Int) + (m : Int) - 1 - (h : Int) = (p : Int) := ⟨mid + m - 1 - h, by omega⟩
              have HC := Lib.hid (less pa n c p h _ (HR.out.below HB.out) (by omega) (by omega) hn)
              go_wp2_with fail
              refine HC.out.mono ?_
              rintro e w1 ⟨rfl, hb1⟩
              have HB3 : Hid (Below w.heap.size w w1) := Lib.hid (HB.out.trans (hb1.mono HB.out.size))
              clear hb1
              go_wp2_with fail
              go_roundw
              case rel => exact ⟨rfl, h + 1, by omega, by omega, by go_num, HB3⟩
              case measure => simp [intOf]; omega
            · obtain rfl : k = m := by omega
              have i1 : ¬ (k : Int) < (k : Int) := by omega
              have i2 : (a : Int) < (k : Int) := by omega
              have i3 : (mid : Int) + (k : Int) - (k : Int) = (mid : Int) := by omega
              have i4 : ¬ (mid : Int) < (mid : Int) := by omega
              by_cases h6 : k < mid
              · have i5 : (k : Int) < (mid : Int) := by omega
                go_wp2_with fail
                refine (HI.out h6 _ (HR.out.below HB.out)).mono ?_
                rintro e w1 ⟨rfl, hb1⟩
                have HB3 : Hid (Below w.heap.size w w1) := Lib.hid (HB.out.trans (hb1.mono HB.out.size))
                clear hb1
                go_wp2_with fail
                go_end0
                exact ⟨rfl, HB3.out⟩
              · have i5 : ¬ (k : Int) < (mid : Int) := by omega
                go_wp2_with fail
                go_end0
                exact ⟨rfl, HB.out⟩
set_option maxHeartbeats 4000000 in
set_option maxRecDepth 100000 in
theorem stb (pa : Option Addr) (n c : Nat) (w : World) (hr : Rd w pa n) (hn : n ≤ 1048576) : Calls Tryf.prog 29 #[.iface 45 (.slice pa n c), .int .i64 (n : Int)] w (Qb w) := by
  have HR := Lib.hid hr
  clear hr
  go_enter Tryf.func29, Tryf.ntmps29
  go_wp2_with fail
  go_loopw [5, 6] (fun a b wr => ∃ q : Nat, q ≤ n ∧ a = .int .i64 q ∧ b = .int .i64 ((q : Int) + 20) ∧ Hid (Below w.heap.size w wr)) (fun a _ _ => n - (intOf a).toNat)
  case atStart => exact ⟨0, by omega, rfl, rfl, Lib.hid (Below.refl _ _)⟩
  case round =>
    obtain ⟨q, hq, rfl, rfl, HB⟩ := hrel
    by_cases hlt : q + 20 ≤ n
    · have i1 : (q : Int) + 20 ≤ (n : Int) := by omega
      have HC : Hid (Calls Tryf.prog 39 #[.iface 45 (.slice pa n c), .int .i64 (q : Int), .int .i64 ((q : Int) + 20)] wr (Qb wr)) := Lib.hid (by
        have := ins pa n c q (q + 20) wr (HR.out.below HB.out) (by omega) hlt hn
        rw [Int.natCast_add] at this
        exact this)
      go_wp2_with fail
      refine HC.out.mono ?_
      rintro e w1 ⟨rfl, hb1⟩
      have HB3 : Hid (Below w.heap.size w w1) := Lib.hid (HB.out.trans (hb1.mono HB.out.size))
      clear hb1
      go_wp2_with fail
      go_roundw
      case rel => exact ⟨q + 20, by omega, by go_num, by go_num, HB3⟩
      case measure => simp [intOf]; omega
    · have i1 : ¬ (q : Int) + 20 ≤ (n : Int) := by omega
      have HC := Lib.hid (ins pa n c q n wr (HR.out.below HB.out) hq (Nat.le_refl _) hn)
      go_wp2_with fail
      refine HC.out.mono ?_
      rintro e w1 ⟨rfl, hb1⟩
      have HB3 : Hid (Below w.heap.size w w1) := Lib.hid (HB.out.trans (hb1.mono HB.out.size))
      clear hb1
      go_wp2_with fail
      go_loopw [4, 5, 6, 7] (fun bs _ _ _ wr => ∃ q : Nat, 20 ≤ q ∧ q ≤ 2097152 + 20 ∧ bs = .int .i64 q ∧ Hid (Below w.heap.size w wr)) (fun bs _ _ _ _ => n - (intOf bs).toNat)
      case atStart => exact ⟨20, by omega, by omega, rfl, HB3⟩
      case round =>
        obtain ⟨s, hs1, hs2, rfl, HB4⟩ := hrel
        by_cases hlt2 : s < n
        · have i2 : (s : Int) < (n : Int) := by omega
          go_wp2_with fail
          go_loopw [5, 6] (fun a b wr => ∃ q : Nat, q ≤ n ∧ a = .int .i64 q ∧ b = .int .i64 ((q : Int) + 2 * (s : Int)) ∧ Hid (Below w.heap.size w wr)) (fun a _ _ => n - (intOf a).toNat)
          case atStart => exact ⟨0, by omega, rfl, by go_num, HB4⟩
          case round =>
            obtain ⟨q, hq, rfl, rfl, HB5⟩ := hrel
            by_cases hlt3 : q + 2 * s ≤ n
            · have i3 : (q : Int) + 2 * (s : Int) ≤ (n : Int) := by omega
              have HC : Hid (Calls Tryf.prog 40 #[.iface 45 (.slice pa n c), .int .i64 (q : Int), .int .i64 ((q : Int) + (s : Int)), .int .i64 ((q : Int) + 2 * (s : Int))] wr (Qb wr)) := Lib.hid (by
                have := sym pa n c hn n q (q + s) (q + 2 * s) (by omega) (by omega) (by omega) hlt3 wr (HR.out.below HB5.out)
                rw [Int.natCast_add, Int.natCast_add, Int.natCast_mul] at this
                exact this)
              go_wp2_with fail
              refine HC.out.mono ?_
              rintro e w1 ⟨rfl, hb1⟩
              have HB6 : Hid (Below w.heap.size w w1) := Lib.hid (HB5.out.trans (hb1.mono HB5.out.size))
              clear hb1
              go_wp2_with fail
              go_roundw
              case rel => exact ⟨q + 2 * s, by omega, by go_num, by go_num, HB6⟩
              case measure => simp [intOf]; omega
            · have i3 : ¬ (q : Int) + 2 * (s : Int) ≤ (n : Int) := by omega
              by_cases hlt4 : q + s < n
              · have i4 : (q : Int) + (s : Int) < (n : Int) := by omega
                have HC : Hid (Calls Tryf.prog 40 #[.iface 45 (.slice pa n c), .int .i64 (q : Int), .int .i64 ((q : Int) + (s : Int)), .int .i64 (n : Int)] wr (Qb wr)) := Lib.hid (by
                  have := sym pa n c hn n q (q + s) n (by omega) (by omega) (by omega) (Nat.le_refl _) wr (HR.out.below HB5.out)
                  rw [Int.natCast_add] at this
                  exact this)
                go_wp2_with fail
                refine HC.out.mono ?_
                rintro e w1 ⟨rfl, hb1⟩
                have HB6 : Hid (Below w.heap.size w w1) := Lib.hid (HB5.out.trans (hb1.mono HB5.out.size))
                clear hb1
                go_wp2_with fail
                go_roundw
                case rel => exact ⟨2 * s, by omega, by omega, by go_num, HB6⟩
                case measure => simp [intOf]; omega
              · have i4 : ¬ (q : Int) + (s : Int) < (n : Int) := by omega
                go_wp2_with fail
                go_roundw
                case rel => exact ⟨2 * s, by omega, by omega, by go_num, HB5⟩
                case measure => simp [intOf]; omega
        · have i2 : ¬ (s : Int) < (n : Int) := by omega
          go_wp2_with fail
          go_end0
          exact ⟨rfl, HB4.out⟩
theorem len74 (pa : Option Addr) (n c : Nat) (w : World) : Calls Tryf.prog 74 #[.slice pa n c] w fun e w' => e = .returned (.int .i64 (n : Int)) ∧ w' = w := by
  go_enter Tryf.func74, Tryf.ntmps74
  go_wp2_with fail
  go_ret
  exact ⟨rfl, rfl⟩
set_option maxRecDepth 100000 in
theorem srt (pa : Option Addr) (n c : Nat) (w : World) (hr : Rd w pa n) (hn : n ≤ 1048576) : Calls Tryf.prog 24 #[.iface 45 (.slice pa n c)] w (Qb w) := by
  have HC := Lib.hid (stb pa n c w hr hn)
  have hme : ∀ w : World, (method 232 45 (.slice pa n c) "Len").run Tryf.prog w = .ok (74, .slice pa n c) w := fun w => by kernel_rfl
  clear hr
  go_enter Tryf.func24, Tryf.ntmps24
  go_wp2_with fail
  refine (len74 pa n c _).mono ?_
  rintro e w1 ⟨rfl, rfl⟩
  go_wp2_with fail
  refine HC.out.mono ?_
  rintro e w1 ⟨rfl, hb1⟩
  have HB3 := Lib.hid hb1
  clear hb1
  go_wp2_with fail
  go_end0
  exact ⟨rfl, HB3.out⟩
end Go.Proofs.YtdigbcjkclbdfaaFmt.Aux
