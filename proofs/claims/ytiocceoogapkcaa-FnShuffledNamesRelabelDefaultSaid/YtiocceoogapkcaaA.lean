/- Contracts of functions that the law of this seat reaches, and plain facts; no condition. -/
import Derived.Test.YtiocceoogapkcaaProg
import Derived.WalkKit
import Derived.ProofKit
import Derived.OpenShut
import Derived.ShutString
import Derived.Test.YtiocceoogapkcaaAid
import Derived.Test.YtiocceoogapkcaaFl
import Derived.Test.YtiocceoogapkcaaStr
import Derived.Test.YtiocceoogapkcaaPb
import Derived.Test.YtiocceoogapkcaaQd
import Derived.Sort.LotA
import Derived.Sort.LotB
import Derived.Sort.LotC
import Derived.Sort.LotD3
import Derived.ArgAppend
import Derived.WalkSmall
import Derived.WalkSpells
import Derived.LoopTactic
import Derived.Deep.LoopGhost
import Derived.IntWalk
import Derived.Outline
import Derived.Deep.QuietTactic
import Derived.BigQuiet
import Derived.RegionTactic
import Derived.BigRegion
import Derived.Laws.OwnMore
import Derived.Laws.Rows
namespace Go.Proofs.Ytiocceoogapkcaa.Aux
open Go.ChangeShapes Go.WideShapes Go.ChangeAt Go.RowKit
open Go.ChangeMaps (open_string shut_string)
set_option linter.unusedVariables false
set_option linter.unusedSimpArgs false
open Fl Str Pb Qd PlainAid
open Go.Sort (swp)
/-- An element: the character of x, its count, its place. -/
def cellV (g : Nat → ByteArray) (f : Nat → Int) (x c : Nat) : Value := if c = 0 then .string (g x) else if c = 1 then .int .i32 (f x) else .int .u8 (x : Int)
def rowV (g : Nat → ByteArray) (f : Nat → Int) (d : Array Nat) (t : Nat) : Value := cellV g f d[t / 3]! (t % 3)
/-- The array's block reads as d. -/
def St (g : Nat → ByteArray) (f : Nat → Int) (blk : Nat) (w : World) (d : Array Nat) : Prop := d.size = 64 ∧ Fblk w blk 37 192 (rowV g f d)
/-- Before: the greater count; at equal counts the smaller place. -/
def ltF (f : Nat → Int) (x y : Nat) : Bool := decide (f y < f x) || (decide (f x = f y) && decide (x < y))
theorem ltF_iff (f : Nat → Int) (x y : Nat) : ltF f x y = true ↔ f y < f x ∨ (f x = f y ∧ x < y) := by simp [ltF]
theorem ltF_not (f : Nat → Int) (x y : Nat) : ltF f x y = false ↔ ¬ (f y < f x ∨ (f x = f y ∧ x < y)) := by rw [← ltF_iff]; simp
theorem ltF_swo (f : Nat → Int) : Sort.SWO (ltF f) where
  irrefl := fun x => by rw [ltF_not]; omega
  trans := fun x y z h1 h2 => by rw [ltF_iff] at *; omega
  ntrans := fun x y z h1 h2 => by rw [ltF_not] at *; omega
section
variable {g : Nat → ByteArray} {f : Nat → Int} {blk : Nat} {w w' W0 : World} {d : Array Nat}
theorem St.lt (h : St g f blk w d) : blk < w.heap.size := h.2.lt
theorem St.cells (h : St g f blk w d) {i : Nat} (hi : i < 64) : w.cell? ⟨blk, i * 3, none⟩ = some (.string (g d[i]!)) ∧ w.cell? ⟨blk, i * 3 + 1, none⟩ = some (.int .i32 (f d[i]!)) ∧ w.cell? ⟨blk, i * 3 + 2, none⟩ = some (.int .u8 (d[i]! : Int)) := by
  have e : ∀ c, c < 3 → w.cell? ⟨blk, i * 3 + c, none⟩ = some (cellV g f d[i]! c) := fun c hc => by
    have := h.2.cell (i * 3 + c) (by omega)
    rw [rowV, show (i * 3 + c) / 3 = i by omega, show (i * 3 + c) % 3 = c by omega] at this
    exact this
  exact ⟨e 0 (by omega), e 1 (by omega), e 2 (by omega)⟩
theorem St.chg (h : St g f blk w d) {Q : Nat → Prop} (hc : Chg Q w w') (hn : ¬ Q blk) : St g f blk w' d := ⟨h.1, (hc.block blk h.lt hn).trans h.2⟩
theorem St.below (h : St g f blk w d) (hb : Below w.heap.size w w') : St g f blk w' d := ⟨h.1, h.2.below hb h.lt⟩
theorem St.drew (h : St g f blk w d) : St g f blk w.drew d := h
def updRow (V : Nat → Value) (i : Nat) (e : Nat → Value) : Nat → Value := fun t => if t / 3 = i then e (t % 3) else V t
theorem upd3 (V : Nat → Value) (i : Nat) (e : Nat → Value) : upd (upd (upd V (i * 3) (e 0)) (i * 3 + 1) (e 1)) (i * 3 + 2) (e 2) = updRow V i e := by
  funext t
  unfold upd updRow
  by_cases h : t / 3 = i
  · rw [if_pos h]
    rcases (by omega : t = i * 3 ∨ t = i * 3 + 1 ∨ t = i * 3 + 2) with e1 | e1 | e1
    · subst e1
      rw [if_neg (by omega), if_neg (by omega), if_pos rfl, show i * 3 % 3 = 0 by omega]
    · subst e1
      rw [if_neg (by omega), if_pos rfl, show (i * 3 + 1) % 3 = 1 by omega]
    · subst e1
      rw [if_pos rfl, show (i * 3 + 2) % 3 = 2 by omega]
  · rw [if_neg h, if_neg (by omega), if_neg (by omega), if_neg (by omega)]
theorem row_swap (hs : d.size = 64) {i j : Nat} (hi : i < 64) (hj : j < 64) : ∀ t, t < 192 → updRow (updRow (rowV g f d) i (cellV g f d[j]!)) j (cellV g f d[i]!) t = rowV g f (swp d i j) t := by
  intro t ht
  unfold updRow rowV
  rw [Sort.swp_get d (by omega) (by omega)]
  by_cases h1 : t / 3 = j
  · simp [h1]
  · by_cases h2 : t / 3 = i
    · have : ¬ i = j := fun e => h1 (h2.trans e)
      simp [h2, this]
    · simp [h1, h2]
theorem swap_end (h : St g f blk w d) {i j : Nat} (hi : i < 64) (hj : j < 64) :
    St g f blk (((((((w.setCell ⟨blk, i * 3, none⟩ (.string (g d[j]!))).setCell ⟨blk, i * 3 + 1, none⟩ (.int .i32 (f d[j]!))).setCell ⟨blk, i * 3 + 2, none⟩ (.int .u8 (d[j]! : Int))).setCell ⟨blk, j * 3, none⟩ (.string (g d[i]!))).setCell ⟨blk, j * 3 + 1, none⟩ (.int .i32 (f d[i]!))).setCell ⟨blk, j * 3 + 2, none⟩ (.int .u8 (d[i]! : Int))).drew) (swp d i j) ∧
    Chg (fun k => k = blk) w (((((((w.setCell ⟨blk, i * 3, none⟩ (.string (g d[j]!))).setCell ⟨blk, i * 3 + 1, none⟩ (.int .i32 (f d[j]!))).setCell ⟨blk, i * 3 + 2, none⟩ (.int .u8 (d[j]! : Int))).setCell ⟨blk, j * 3, none⟩ (.string (g d[i]!))).setCell ⟨blk, j * 3 + 1, none⟩ (.int .i32 (f d[i]!))).setCell ⟨blk, j * 3 + 2, none⟩ (.int .u8 (d[i]! : Int))).drew) := by
  refine ⟨⟨by rw [Sort.size_swp]; exact h.1, ?_⟩, ?_⟩
  · have h1 := h.2.set (i * 3) (.string (g d[j]!))
    have h2 := h1.set (i * 3 + 1) (.int .i32 (f d[j]!))
    have h3 := h2.set (i * 3 + 2) (.int .u8 (d[j]! : Int))
    have h4 := h3.set (j * 3) (.string (g d[i]!))
    have h5 := h4.set (j * 3 + 1) (.int .i32 (f d[i]!))
    have h6 := h5.set (j * 3 + 2) (.int .u8 (d[i]! : Int))
    have e1 := upd3 (rowV g f d) i (cellV g f d[j]!)
    have e2 := upd3 (updRow (rowV g f d) i (cellV g f d[j]!)) j (cellV g f d[i]!)
    rw [← e1] at e2
    have h7 := h6.drew.congr (U := rowV g f (swp d i j)) (fun t ht => by
      rw [← row_swap h.1 hi hj t ht]
      exact congrFun (e2.trans (by rw [e1])) t)
    exact h7
  · refine Chg.drewR ?_
    refine Chg.setCell (S := fun k => k = blk) ?_ (.inl rfl) _
    refine Chg.setCell (S := fun k => k = blk) ?_ (.inl rfl) _
    refine Chg.setCell (S := fun k => k = blk) ?_ (.inl rfl) _
    refine Chg.setCell (S := fun k => k = blk) ?_ (.inl rfl) _
    refine Chg.setCell (S := fun k => k = blk) ?_ (.inl rfl) _
    refine Chg.setCell (S := fun k => k = blk) ?_ (.inl rfl) _
    exact Chg.refl _ _
/-- Where the sort stands: the array reads as d; but for its block and new blocks all is as in W0. -/
def SX (g : Nat → ByteArray) (f : Nat → Int) (blk : Nat) (W0 : World) (d : Array Nat) (w : World) : Prop := St g f blk w d ∧ Chg (fun k => k = blk) W0 w
theorem SX.start (h : St g f blk w d) : SX g f blk w d w := ⟨h, Chg.refl _ _⟩
theorem SX.trans {d' : Array Nat} {w2 : World} (h : SX g f blk W0 d w) (k : SX g f blk w d' w2) : SX g f blk W0 d' w2 := ⟨k.1, h.2.trans k.2⟩
theorem SX.below (h : SX g f blk W0 d w) (hb : Below w.heap.size w w') : SX g f blk W0 d w' := ⟨h.1.below hb, h.2.transN (Chg.of_below hb (fun i a b => by omega) : Chg (fun _ => False) w w') (fun _ _ h => h.elim)⟩
/-- The receiver. -/
def rv (blk : Nat) : Value := .slice (some ⟨blk, 0, none⟩) 64 64
theorem len52 (blk : Nat) (w : World) : Calls Try.prog 52 #[.slice (some ⟨blk, 0, none⟩) 64 64] w fun e w' => e = .returned (.int .i64 64) ∧ w' = w := by
  go_enter Try.func52, Try.ntmps52
  go_wp2_with fail
  go_ret
  exact ⟨rfl, rfl⟩
set_option maxHeartbeats 2000000 in
theorem less53x (w : World) (blk i j : Nat) (hi : i < 64) (hj : j < 64) (s s' : ByteArray) (c x c' x' : Int) (hb : blk < w.heap.size)
    (q0 : w.cell? ⟨blk, i * 3, none⟩ = some (.string s)) (q1 : w.cell? ⟨blk, i * 3 + 1, none⟩ = some (.int .i32 c)) (q2 : w.cell? ⟨blk, i * 3 + 2, none⟩ = some (.int .u8 x))
    (q3 : w.cell? ⟨blk, j * 3, none⟩ = some (.string s')) (q4 : w.cell? ⟨blk, j * 3 + 1, none⟩ = some (.int .i32 c')) (q5 : w.cell? ⟨blk, j * 3 + 2, none⟩ = some (.int .u8 x')) (B : Bool) (hB : B = (decide (c' < c) || (decide (c = c') && decide (x < x')))) :
    Calls Try.prog 53 #[.slice (some ⟨blk, 0, none⟩) 64 64, .int .i64 i, .int .i64 j] w fun e w' => e = .returned (.bool B) ∧ Below w.heap.size w w' := by
  have l1 : (i : Int) < 64 := by omega
  have l2 : (j : Int) < 64 := by omega
  by_cases h1 : c' < c
  · have HB := Lib.hid (show B = true by rw [hB]; simp [h1])
    clear hB
    go_enter Try.func53, Try.ntmps53
    go_wp2
    go_ret
    exact ⟨by rw [HB.out]; rfl, by repeat (first | exact Below.refl _ _ | apply Below.drew | (refine Below.alloc ?_ (by simp; try omega) _))⟩
  · by_cases h2 : c = c'
    · by_cases h3 : x < x'
      · have HB := Lib.hid (show B = true by rw [hB]; simp [h2, h3])
        have e2 : (c == c') = true := by simpa using h2
        have d1 : decide (c' < c) = false := by simpa using h1
        clear h2 hB
        go_enter Try.func53, Try.ntmps53
        go_wp2
        go_ret
        exact ⟨by rw [HB.out]; rfl, by repeat (first | exact Below.refl _ _ | apply Below.drew | (refine Below.alloc ?_ (by simp; try omega) _))⟩
      · have HB := Lib.hid (show B = false by rw [hB]; simp [h1, h3])
        have e2 : (c == c') = true := by simpa using h2
        have d1 : decide (c' < c) = false := by simpa using h1
        clear h2 hB
        go_enter Try.func53, Try.ntmps53
        go_wp2
        go_ret
        exact ⟨by rw [HB.out]; rfl, by repeat (first | exact Below.refl _ _ | apply Below.drew | (refine Below.alloc ?_ (by simp; try omega) _))⟩
    · have HB := Lib.hid (show B = false by rw [hB]; simp [h2]; omega)
      have e2 : (c == c') = false := by simpa using h2
      have d1 : decide (c' < c) = false := by simpa using h1
      clear hB
      go_enter Try.func53, Try.ntmps53
      go_wp2
      go_ret
      exact ⟨by rw [HB.out]; rfl, by repeat (first | exact Below.refl _ _ | apply Below.drew | (refine Below.alloc ?_ (by simp; try omega) _))⟩
theorem SX.less (h : SX g f blk W0 d w) {i j : Nat} (hi : i < 64) (hj : j < 64) : Calls Try.prog 53 #[.slice (some ⟨blk, 0, none⟩) 64 64, .int .i64 i, .int .i64 j] w fun e w' => e = .returned (.bool (ltF f d[i]! d[j]!)) ∧ Hid (SX g f blk W0 d w') := by
  obtain ⟨q0, q1, q2⟩ := h.1.cells hi
  obtain ⟨q3, q4, q5⟩ := h.1.cells hj
  refine (less53x w blk i j hi hj _ _ _ _ _ _ h.1.lt q0 q1 q2 q3 q4 q5 (ltF f d[i]! d[j]!) (by simp [ltF])).mono ?_
  rintro e w' ⟨rfl, hb⟩
  exact ⟨rfl, Lib.hid (h.below hb)⟩
set_option maxHeartbeats 4000000 in
theorem swap54x (w : World) (blk i j : Nat) (hi : i < 64) (hj : j < 64) (s s' : ByteArray) (c x c' x' : Int)
    (i0 : w.cell? ⟨blk, i * 3, none⟩ = some (.string s)) (i1 : w.cell? ⟨blk, i * 3 + 1, none⟩ = some (.int .i32 c)) (i2 : w.cell? ⟨blk, i * 3 + 2, none⟩ = some (.int .u8 x))
    (j0 : w.cell? ⟨blk, j * 3, none⟩ = some (.string s')) (j1 : w.cell? ⟨blk, j * 3 + 1, none⟩ = some (.int .i32 c')) (j2 : w.cell? ⟨blk, j * 3 + 2, none⟩ = some (.int .u8 x'))
    (zi0 : w.frozen? ⟨blk, i * 3, none⟩ = false) (zi1 : w.frozen? ⟨blk, i * 3 + 1, none⟩ = false) (zi2 : w.frozen? ⟨blk, i * 3 + 2, none⟩ = false)
    (zj0 : w.frozen? ⟨blk, j * 3, none⟩ = false) (zj1 : w.frozen? ⟨blk, j * 3 + 1, none⟩ = false) (zj2 : w.frozen? ⟨blk, j * 3 + 2, none⟩ = false) (n : Nat) (hn : n = 64)
    (Q : World → Prop) (hQ : Q (((((((w.setCell ⟨blk, i * 3, none⟩ (.string s')).setCell ⟨blk, i * 3 + 1, none⟩ (.int .i32 c')).setCell ⟨blk, i * 3 + 2, none⟩ (.int .u8 x')).setCell ⟨blk, j * 3, none⟩ (.string s)).setCell ⟨blk, j * 3 + 1, none⟩ (.int .i32 c)).setCell ⟨blk, j * 3 + 2, none⟩ (.int .u8 x)).drew)) :
    Calls Try.prog 54 #[.slice (some ⟨blk, 0, none⟩) n n, .int .i64 i, .int .i64 j] w fun e w' => e = .returned (.tuple #[]) ∧ Q w' := by
  have q1 : (i : Int) < (n : Int) := by omega
  have q2 : (j : Int) < (n : Int) := by omega
  have HQ := Lib.hid hQ
  clear hQ hn
  by_cases e : i = j
  · subst e
    rw [i0] at j0
    cases j0
    rw [i1] at j1
    cases j1
    rw [i2] at j2
    cases j2
    go_enter Try.func54, Try.ntmps54
    go_wp2
    go_region
    all_goals
      go_end0
      exact ⟨rfl, HQ.out⟩
  · have e' : ¬ j = i := fun h => e h.symm
    have n1 : ¬ i * 3 = j * 3 := by omega
    have n2 : ¬ i * 3 = j * 3 + 1 := by omega
    have n3 : ¬ i * 3 = j * 3 + 2 := by omega
    have n4 : ¬ i * 3 + 1 = j * 3 := by omega
    have n5 : ¬ i * 3 + 1 = j * 3 + 2 := by omega
    have n6 : ¬ i * 3 + 2 = j * 3 := by omega
    have n7 : ¬ i * 3 + 2 = j * 3 + 1 := by omega
    have n8 : ¬ i * 3 + 1 = j * 3 + 1 := by omega
    have n9 : ¬ i * 3 + 2 = j * 3 + 2 := by omega
    go_enter Try.func54, Try.ntmps54
    go_wp2
    go_region
    all_goals
      go_end0
      exact ⟨rfl, HQ.out⟩
theorem SX.swap (h : SX g f blk W0 d w) {i j : Nat} (hi : i < 64) (hj : j < 64) : Calls Try.prog 54 #[.slice (some ⟨blk, 0, none⟩) 64 64, .int .i64 i, .int .i64 j] w fun e w' => e = .returned (.tuple #[]) ∧ Hid (SX g f blk W0 (swp d i j) w') := by
  obtain ⟨q0, q1, q2⟩ := h.1.cells hi
  obtain ⟨q3, q4, q5⟩ := h.1.cells hj
  have hz := fun k => h.1.2.frozen k
  have he := swap_end h.1 hi hj
  exact swap54x w blk i j hi hj _ _ _ _ _ _ q0 q1 q2 q3 q4 q5 (hz _) (hz _) (hz _) (hz _) (hz _) (hz _) 64 rfl (fun w' => Hid (SX g f blk W0 (swp d i j) w')) (Lib.hid ⟨he.1, h.2.trans he.2⟩)
end
end Go.Proofs.Ytiocceoogapkcaa.Aux
