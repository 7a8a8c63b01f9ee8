/- Contracts of functions that the law of this seat reaches, and plain facts; no condition. -/
import Derived.Test.YtiocceoogapkcaaProg
import Derived.WalkKit
import Derived.ProofKit
import Derived.OpenShut
import Derived.ShutString
import Derived.Test.YtiocceoogapkcaaAid
import Derived.Test.YtiocceoogapkcaaH
import Derived.Sort.LotA
import Derived.Sort.LotB
import Derived.Sort.LotC
import Derived.Sort.LotD3
import Derived.ArgAppend
import Derived.WalkSmall
import Derived.WalkSpells
import Derived.LoopTactic
import Derived.Deep.LoopGhost
import Derived.Deep.CutBlock
import Derived.Deep.DeepCutAuto
import Derived.IntWalk
import Derived.Outline
import Derived.Deep.QuietTactic
import Derived.BigQuiet
import Derived.RegionTactic
import Derived.StillTailTactics
import Derived.Shelf.Small.Bits
import Derived.Shelf.Lays
import Derived.Laws.BitsAllLaws
import Derived.Laws.BitsLemmas
import Derived.BigRegion
import Derived.Laws.OwnMore
import Derived.Laws.Rows
namespace Go.Proofs.Ytiocceoogapkcaa.Aux
open Go.ChangeShapes Go.WideShapes Go.ChangeAt Go.RowKit
open Go.ChangeMaps (open_string shut_string)
set_option linter.unusedVariables false
set_option linter.unusedSimpArgs false
open Fl Str Pb Qd PlainAid Aux
open Go.Sort (swp)
def rn : Go.Shelf.Ren := ⟨fun | 125 => 16 | 128 => 19 | 129 => 20 | n => n, fun | 46 => 53 | 51 => 57 | 53 => 59 | n => n, fun | n => n⟩
theorem ly : Go.Proofs.Lays.n125 Try.prog rn where
  mixed := by kernel_rfl
  f125 := Try.func16.trans (congrArg some (by kernel_rfl))
  f128 := Try.func19.trans (congrArg some (by kernel_rfl))
  f129 := Try.func20.trans (congrArg some (by kernel_rfl))
  t3 := Try.underlying3
  a3 := fun w => by kernel_rfl
  z3 := fun w => by kernel_rfl
  v3 := fun w => by kernel_rfl
  t4 := Try.underlying4
  a4 := fun w => by kernel_rfl
  z4 := fun w => by kernel_rfl
  v4 := fun w => by kernel_rfl
  t5 := Try.underlying5
  a5 := fun w => by kernel_rfl
  z5 := fun w => by kernel_rfl
  v5 := fun w => by kernel_rfl
  t9 := Try.underlying9
  a9 := fun w => by kernel_rfl
  z9 := fun w => by kernel_rfl
  v9 := fun w => by kernel_rfl
  t46 := Try.underlying53
  a46 := fun w => by kernel_rfl
  z46 := fun w => by kernel_rfl
  v46 := fun w => by kernel_rfl
  t51 := Try.underlying57
  a51 := fun w => by kernel_rfl
  z51 := fun w => by kernel_rfl
  v51 := fun w => by kernel_rfl
  t53 := Try.underlying59
  a53 := fun w => by kernel_rfl
  z53 := fun w => by kernel_rfl
  v53 := fun w => by kernel_rfl
def lenOk (n l : Nat) : Bool := (l == 4 && decide (8 ≤ n) && decide (n < 16)) || (l == 5 && decide (16 ≤ n) && decide (n < 32)) || (l == 6 && decide (32 ≤ n) && decide (n < 64)) || (l == 7 && n == 64)
theorem lenT : ∀ n : Fin 65, 8 ≤ n.val → lenOk n.val (Lib.bitLen n.val) = true := by decide
theorem len16 (n : Nat) (h0 : 8 ≤ n) (h1 : n ≤ 64) (w : World) : Calls Try.prog 16 #[.int .u64 (n : Int)] w fun e w' => ∃ l : Nat, (e = .returned (.int .i64 (l : Int)) ∧ w' = w) ∧ lenOk n l = true :=
  (Any.bits_Len ly (n : Int) w (by omega) (by omega)).mono fun e w' ⟨he, hw⟩ => ⟨Lib.bitLen n, ⟨by rw [he]; simp, hw⟩, lenT ⟨n, by omega⟩ h0⟩
theorem lenOk_cases {n l : Nat} (h : lenOk n l = true) : (l = 4 ∧ 8 ≤ n ∧ n < 16) ∨ (l = 5 ∧ 16 ≤ n ∧ n < 32) ∨ (l = 6 ∧ 32 ≤ n ∧ n < 64) ∨ (l = 7 ∧ n = 64) := by
  simp only [lenOk, Bool.or_eq_true, Bool.and_eq_true, beq_iff_eq, decide_eq_true_eq] at h
  omega
/-- The next power of two: its exponent, itself. -/
def Pw (n : Nat) (w : World) (e : Ending) (w' : World) : Prop := ∃ m : Nat, e = .returned (.int .u64 (m : Int)) ∧ w' = w ∧ ((m = 16 ∧ 8 ≤ n ∧ n < 16) ∨ (m = 32 ∧ 16 ≤ n ∧ n < 32) ∨ (m = 64 ∧ 32 ≤ n ∧ n < 64) ∨ (m = 128 ∧ n = 64))
set_option maxHeartbeats 4000000 in
theorem pow31 (n : Nat) (h0 : 8 ≤ n) (h1 : n ≤ 64) (w : World) : Calls Try.prog 31 #[.int .i64 (n : Int)] w (Pw n w) := by
  have HL := Lib.hid (len16 n h0 h1 w)
  go_enter Try.func31, Try.ntmps31
  go_wp2_with fail
  refine HL.out.mono ?_
  rintro e w' ⟨l, ⟨rfl, rfl⟩, hl⟩
  rcases lenOk_cases hl with ⟨rfl, a1, a2⟩ | ⟨rfl, a1, a2⟩ | ⟨rfl, a1, a2⟩ | ⟨rfl, a1⟩
  · go_wp2_with fail
    go_ret
    exact ⟨16, rfl, rfl, by omega⟩
  · go_wp2_with fail
    go_ret
    exact ⟨32, rfl, rfl, by omega⟩
  · go_wp2_with fail
    go_ret
    exact ⟨64, rfl, rfl, by omega⟩
  · go_wp2_with fail
    go_ret
    exact ⟨128, rfl, rfl, by omega⟩
theorem xor_rng (a b : Int) : 0 ≤ bits .xor .u64 a b ∧ bits .xor .u64 a b < 18446744073709551616 := by
  have e : ∃ z : Int, bits .xor .u64 a b = IntKind.u64.wrap z := ⟨_, rfl⟩
  obtain ⟨z, e⟩ := e
  rw [e, IntKind.wrap_u64]
  omega
def Nx (xb : Nat) (w : World) (e : Ending) (w' : World) : Prop := ∃ r : Int, e = .returned (.int .u64 r) ∧ 0 ≤ r ∧ r < 18446744073709551616 ∧ w'.cell? ⟨xb, 0, none⟩ = some (.int .u64 r) ∧ w'.frozen? ⟨xb, 0, none⟩ = false ∧ Chg (fun k => k = xb) w w'
theorem nx_fin {xb : Nat} {w w3 : World} {v0 : Value} (h : w3.cell? ⟨xb, 0, none⟩ = some v0) (hf : w3.frozen? ⟨xb, 0, none⟩ = false) (hc : Chg (fun k => k = xb) w w3) (a b : Int) : Nx xb w (.returned (.int .u64 (bits .xor .u64 a b))) (w3.setCell ⟨xb, 0, none⟩ (.int .u64 (bits .xor .u64 a b))) :=
  ⟨_, rfl, (xor_rng a b).1, (xor_rng a b).2, World.cell?_setCell_same _ _ _ (by rw [h]), by simpa using hf, Chg.setCell (S := fun k => k = xb) hc (.inl rfl) _⟩
theorem xs_step {xb : Nat} {w w3 : World} (h : (∃ v0, w3.cell? ⟨xb, 0, none⟩ = some v0) ∧ w3.frozen? ⟨xb, 0, none⟩ = false ∧ Chg (fun k => k = xb) w w3) (v : Value) : (w3.setCell ⟨xb, 0, none⟩ v).drew.cell? ⟨xb, 0, none⟩ = some v ∧ (w3.setCell ⟨xb, 0, none⟩ v).drew.frozen? ⟨xb, 0, none⟩ = false ∧ Chg (fun k => k = xb) w (w3.setCell ⟨xb, 0, none⟩ v).drew := by
  obtain ⟨⟨v0, h1⟩, h2, h3⟩ := h
  exact ⟨World.cell?_setCell_same _ _ _ (by rw [h1]), by simpa using h2, (Chg.setCell (S := fun k => k = xb) h3 (.inl rfl) _).drewR⟩
set_option maxRecDepth 100000 in
set_option maxHeartbeats 8000000 in
theorem next32 (xb : Nat) (z : Int) (w : World) (hc : w.cell? ⟨xb, 0, none⟩ = some (.int .u64 z)) (hf : w.frozen? ⟨xb, 0, none⟩ = false) : Calls Try.prog 32 #[.pointer (some ⟨xb, 0, none⟩)] w (Nx xb w) := by
  have HX : Hid ((∃ v0, w.cell? ⟨xb, 0, none⟩ = some v0) ∧ w.frozen? ⟨xb, 0, none⟩ = false ∧ Chg (fun k => k = xb) w w) := Lib.hid ⟨⟨_, hc⟩, hf, Chg.refl _ w⟩
  go_enter Try.func32, Try.ntmps32
  go_wp2_with fail
  go_still_tail 9, (by kernel_rfl)
  repeat still_step
  try refine wpStill_nil ?_
  go_wp2_with fail
  obtain ⟨x1, hx1⟩ : ∃ x, x = bits .xor .u64 z (IntKind.u64.wrap (z * 8192)) := ⟨_, rfl⟩
  have r1 := xor_rng z (IntKind.u64.wrap (z * 8192))
  rw [← hx1] at r1 ⊢
  obtain ⟨c1, f1, g1⟩ := xs_step HX.out (.int .u64 x1)
  generalize (w.setCell ⟨xb, 0, none⟩ (.int .u64 x1)).drew = W1 at c1 f1 g1 ⊢
  have H1 : Hid ((∃ v0, W1.cell? ⟨xb, 0, none⟩ = some v0) ∧ W1.frozen? ⟨xb, 0, none⟩ = false ∧ Chg (fun k => k = xb) w W1) := Lib.hid ⟨⟨_, c1⟩, f1, g1⟩
  obtain ⟨r1a, r1b⟩ := r1
  clear hx1 g1
  clear hc hf
  go_still_tail 9, (by kernel_rfl)
  repeat still_step
  try refine wpStill_nil ?_
  go_wp2_with fail
  obtain ⟨x2, hx2⟩ : ∃ x, x = bits .xor .u64 x1 (x1 / 128) := ⟨_, rfl⟩
  have r2 := xor_rng x1 (x1 / 128)
  rw [← hx2] at r2 ⊢
  obtain ⟨c2, f2, g2⟩ := xs_step H1.out (.int .u64 x2)
  generalize (W1.setCell ⟨xb, 0, none⟩ (.int .u64 x2)).drew = W2 at c2 f2 g2 ⊢
  have H2 : Hid ((∃ v0, W2.cell? ⟨xb, 0, none⟩ = some v0) ∧ W2.frozen? ⟨xb, 0, none⟩ = false ∧ Chg (fun k => k = xb) w W2) := Lib.hid ⟨⟨_, c2⟩, f2, g2⟩
  obtain ⟨r2a, r2b⟩ := r2
  clear hx2 g2
  clear c1 f1
  go_still_tail 9, (by kernel_rfl)
  repeat still_step
  try refine wpStill_nil ?_
  go_wp2_with fail
  obtain ⟨x3, hx3⟩ : ∃ x, x = bits .xor .u64 x2 (IntKind.u64.wrap (x2 * 131072)) := ⟨_, rfl⟩
  have r3 := xor_rng x2 (IntKind.u64.wrap (x2 * 131072))
  rw [← hx3] at r3 ⊢
  obtain ⟨c3, f3, g3⟩ := xs_step H2.out (.int .u64 x3)
  generalize (W2.setCell ⟨xb, 0, none⟩ (.int .u64 x3)).drew = W3 at c3 f3 g3 ⊢
  have H3 : Hid ((∃ v0, W3.cell? ⟨xb, 0, none⟩ = some v0) ∧ W3.frozen? ⟨xb, 0, none⟩ = false ∧ Chg (fun k => k = xb) w W3) := Lib.hid ⟨⟨_, c3⟩, f3, g3⟩
  obtain ⟨r3a, r3b⟩ := r3
  clear hx3 g3
  clear c2 f2
  go_ret
  exact ⟨x3, rfl, r3a, r3b, c3, f3, H3.out.2.2⟩
end Go.Proofs.Ytiocceoogapkcaa.Aux
