/- The answer of isIdentifierOrNumericConstantOrPropertyAccess on ten shapes of expressions: true for identifiers, dot and index accesses; for a number exactly when it is above every finite number or not equal to itself; false otherwise. No condition. -/
import Derived.Test.YtpgchpfdeefloabRows
import Derived.WalkKit
import Derived.ProofKit
import Derived.OpenShut
import Derived.ShutString
import Derived.Test.YtpgchpfdeefloabFacts
import Derived.Test.YtpgchpfdeefloabAid
import Derived.Laws.Cover2
import Derived.WalkSpells
import Derived.WalkLawsBesides
namespace Go.Proofs.Ytpgchpfdeefloab.fnIsIdentOrNumCaseTable
open Go.ChangeShapes Go.WideShapes Go.ChangeAt Go.RowKit
open Go.ChangeMaps (open_string shut_string)
set_option linter.unusedVariables false

theorem own : ownKnob Try.prog.godebug = none := by kernel_rfl
theorem laidOut : laidOutB Try.prog = true := by kernel_rfl

theorem ta40_40 (b : Addr) (w : World) : (Instr.typeAssert (.iface 40 (.pointer (some b))) 27 40 true).run Try.prog w = .ok (.tuple #[.pointer (some b), .bool true]) w := by kernel_rfl
theorem ta40_43 (b : Addr) (w : World) : (Instr.typeAssert (.iface 40 (.pointer (some b))) 27 43 true).run Try.prog w = .ok (.tuple #[.pointer none, .bool false]) w := by kernel_rfl
theorem ta40_47 (b : Addr) (w : World) : (Instr.typeAssert (.iface 40 (.pointer (some b))) 27 47 true).run Try.prog w = .ok (.tuple #[.pointer none, .bool false]) w := by kernel_rfl
theorem ta40_48 (b : Addr) (w : World) : (Instr.typeAssert (.iface 40 (.pointer (some b))) 27 48 true).run Try.prog w = .ok (.tuple #[.pointer none, .bool false]) w := by kernel_rfl
theorem ta43_40 (b : Addr) (w : World) : (Instr.typeAssert (.iface 43 (.pointer (some b))) 27 40 true).run Try.prog w = .ok (.tuple #[.pointer none, .bool false]) w := by kernel_rfl
theorem ta43_43 (b : Addr) (w : World) : (Instr.typeAssert (.iface 43 (.pointer (some b))) 27 43 true).run Try.prog w = .ok (.tuple #[.pointer (some b), .bool true]) w := by kernel_rfl
theorem ta43_47 (b : Addr) (w : World) : (Instr.typeAssert (.iface 43 (.pointer (some b))) 27 47 true).run Try.prog w = .ok (.tuple #[.pointer none, .bool false]) w := by kernel_rfl
theorem ta43_48 (b : Addr) (w : World) : (Instr.typeAssert (.iface 43 (.pointer (some b))) 27 48 true).run Try.prog w = .ok (.tuple #[.pointer none, .bool false]) w := by kernel_rfl
theorem ta47_40 (b : Addr) (w : World) : (Instr.typeAssert (.iface 47 (.pointer (some b))) 27 40 true).run Try.prog w = .ok (.tuple #[.pointer none, .bool false]) w := by kernel_rfl
theorem ta47_43 (b : Addr) (w : World) : (Instr.typeAssert (.iface 47 (.pointer (some b))) 27 43 true).run Try.prog w = .ok (.tuple #[.pointer none, .bool false]) w := by kernel_rfl
theorem ta47_47 (b : Addr) (w : World) : (Instr.typeAssert (.iface 47 (.pointer (some b))) 27 47 true).run Try.prog w = .ok (.tuple #[.pointer (some b), .bool true]) w := by kernel_rfl
theorem ta47_48 (b : Addr) (w : World) : (Instr.typeAssert (.iface 47 (.pointer (some b))) 27 48 true).run Try.prog w = .ok (.tuple #[.pointer none, .bool false]) w := by kernel_rfl
theorem ta48_40 (b : Addr) (w : World) : (Instr.typeAssert (.iface 48 (.pointer (some b))) 27 40 true).run Try.prog w = .ok (.tuple #[.pointer none, .bool false]) w := by kernel_rfl
theorem ta48_43 (b : Addr) (w : World) : (Instr.typeAssert (.iface 48 (.pointer (some b))) 27 43 true).run Try.prog w = .ok (.tuple #[.pointer none, .bool false]) w := by kernel_rfl
theorem ta48_47 (b : Addr) (w : World) : (Instr.typeAssert (.iface 48 (.pointer (some b))) 27 47 true).run Try.prog w = .ok (.tuple #[.pointer none, .bool false]) w := by kernel_rfl
theorem ta48_48 (b : Addr) (w : World) : (Instr.typeAssert (.iface 48 (.pointer (some b))) 27 48 true).run Try.prog w = .ok (.tuple #[.pointer (some b), .bool true]) w := by kernel_rfl
theorem ta53_40 (b : Addr) (w : World) : (Instr.typeAssert (.iface 53 (.pointer (some b))) 27 40 true).run Try.prog w = .ok (.tuple #[.pointer none, .bool false]) w := by kernel_rfl
theorem ta53_43 (b : Addr) (w : World) : (Instr.typeAssert (.iface 53 (.pointer (some b))) 27 43 true).run Try.prog w = .ok (.tuple #[.pointer none, .bool false]) w := by kernel_rfl
theorem ta53_47 (b : Addr) (w : World) : (Instr.typeAssert (.iface 53 (.pointer (some b))) 27 47 true).run Try.prog w = .ok (.tuple #[.pointer none, .bool false]) w := by kernel_rfl
theorem ta53_48 (b : Addr) (w : World) : (Instr.typeAssert (.iface 53 (.pointer (some b))) 27 48 true).run Try.prog w = .ok (.tuple #[.pointer none, .bool false]) w := by kernel_rfl
theorem ta56_40 (b : Addr) (w : World) : (Instr.typeAssert (.iface 56 (.pointer (some b))) 27 40 true).run Try.prog w = .ok (.tuple #[.pointer none, .bool false]) w := by kernel_rfl
theorem ta56_43 (b : Addr) (w : World) : (Instr.typeAssert (.iface 56 (.pointer (some b))) 27 43 true).run Try.prog w = .ok (.tuple #[.pointer none, .bool false]) w := by kernel_rfl
theorem ta56_47 (b : Addr) (w : World) : (Instr.typeAssert (.iface 56 (.pointer (some b))) 27 47 true).run Try.prog w = .ok (.tuple #[.pointer none, .bool false]) w := by kernel_rfl
theorem ta56_48 (b : Addr) (w : World) : (Instr.typeAssert (.iface 56 (.pointer (some b))) 27 48 true).run Try.prog w = .ok (.tuple #[.pointer none, .bool false]) w := by kernel_rfl
theorem ta59_40 (b : Addr) (w : World) : (Instr.typeAssert (.iface 59 (.pointer (some b))) 27 40 true).run Try.prog w = .ok (.tuple #[.pointer none, .bool false]) w := by kernel_rfl
theorem ta59_43 (b : Addr) (w : World) : (Instr.typeAssert (.iface 59 (.pointer (some b))) 27 43 true).run Try.prog w = .ok (.tuple #[.pointer none, .bool false]) w := by kernel_rfl
theorem ta59_47 (b : Addr) (w : World) : (Instr.typeAssert (.iface 59 (.pointer (some b))) 27 47 true).run Try.prog w = .ok (.tuple #[.pointer none, .bool false]) w := by kernel_rfl
theorem ta59_48 (b : Addr) (w : World) : (Instr.typeAssert (.iface 59 (.pointer (some b))) 27 48 true).run Try.prog w = .ok (.tuple #[.pointer none, .bool false]) w := by kernel_rfl
theorem ta62_40 (b : Addr) (w : World) : (Instr.typeAssert (.iface 62 (.pointer (some b))) 27 40 true).run Try.prog w = .ok (.tuple #[.pointer none, .bool false]) w := by kernel_rfl
theorem ta62_43 (b : Addr) (w : World) : (Instr.typeAssert (.iface 62 (.pointer (some b))) 27 43 true).run Try.prog w = .ok (.tuple #[.pointer none, .bool false]) w := by kernel_rfl
theorem ta62_47 (b : Addr) (w : World) : (Instr.typeAssert (.iface 62 (.pointer (some b))) 27 47 true).run Try.prog w = .ok (.tuple #[.pointer none, .bool false]) w := by kernel_rfl
theorem ta62_48 (b : Addr) (w : World) : (Instr.typeAssert (.iface 62 (.pointer (some b))) 27 48 true).run Try.prog w = .ok (.tuple #[.pointer none, .bool false]) w := by kernel_rfl
theorem ta65_40 (b : Addr) (w : World) : (Instr.typeAssert (.iface 65 (.pointer (some b))) 27 40 true).run Try.prog w = .ok (.tuple #[.pointer none, .bool false]) w := by kernel_rfl
theorem ta65_43 (b : Addr) (w : World) : (Instr.typeAssert (.iface 65 (.pointer (some b))) 27 43 true).run Try.prog w = .ok (.tuple #[.pointer none, .bool false]) w := by kernel_rfl
theorem ta65_47 (b : Addr) (w : World) : (Instr.typeAssert (.iface 65 (.pointer (some b))) 27 47 true).run Try.prog w = .ok (.tuple #[.pointer none, .bool false]) w := by kernel_rfl
theorem ta65_48 (b : Addr) (w : World) : (Instr.typeAssert (.iface 65 (.pointer (some b))) 27 48 true).run Try.prog w = .ok (.tuple #[.pointer none, .bool false]) w := by kernel_rfl
theorem ta0_40 (w : World) : (Instr.typeAssert .nilIface 27 40 true).run Try.prog w = .ok (.tuple #[.pointer none, .bool false]) w := by kernel_rfl
theorem ta0_43 (w : World) : (Instr.typeAssert .nilIface 27 43 true).run Try.prog w = .ok (.tuple #[.pointer none, .bool false]) w := by kernel_rfl
theorem ta0_47 (w : World) : (Instr.typeAssert .nilIface 27 47 true).run Try.prog w = .ok (.tuple #[.pointer none, .bool false]) w := by kernel_rfl
theorem ta0_48 (w : World) : (Instr.typeAssert .nilIface 27 48 true).run Try.prog w = .ok (.tuple #[.pointer none, .bool false]) w := by kernel_rfl
set_option maxRecDepth 100000 in
set_option maxHeartbeats 1000000 in
theorem t40 (b : Addr) (p : Addr) (l : Int) (w : World) :
    Calls Try.prog 25 #[.pointer (some p), .agg #[.iface 40 (.pointer (some b)), .int .i32 l]] w fun e w' => e = .returned (.bool true) ∧ Below w.heap.size w w' := by
  have h40 := ta40_40 b
  have h43 := ta40_43 b
  have h47 := ta40_47 b
  have h48 := ta40_48 b
  go_enter Try.func25, Try.ntmps25
  go_wp2
  all_goals
    go_ret
    exact ⟨rfl, by repeat (first | exact Below.refl _ _ | apply Below.drew | (refine Below.alloc ?_ (by simp; try omega) _))⟩
set_option maxRecDepth 100000 in
set_option maxHeartbeats 1000000 in
theorem t43 (b : Addr) (p : Addr) (l : Int) (w : World) :
    Calls Try.prog 25 #[.pointer (some p), .agg #[.iface 43 (.pointer (some b)), .int .i32 l]] w fun e w' => e = .returned (.bool true) ∧ Below w.heap.size w w' := by
  have h40 := ta43_40 b
  have h43 := ta43_43 b
  have h47 := ta43_47 b
  have h48 := ta43_48 b
  go_enter Try.func25, Try.ntmps25
  go_wp2
  all_goals
    go_ret
    exact ⟨rfl, by repeat (first | exact Below.refl _ _ | apply Below.drew | (refine Below.alloc ?_ (by simp; try omega) _))⟩
set_option maxRecDepth 100000 in
set_option maxHeartbeats 1000000 in
theorem t47 (b : Addr) (p : Addr) (l : Int) (w : World) :
    Calls Try.prog 25 #[.pointer (some p), .agg #[.iface 47 (.pointer (some b)), .int .i32 l]] w fun e w' => e = .returned (.bool true) ∧ Below w.heap.size w w' := by
  have h40 := ta47_40 b
  have h43 := ta47_43 b
  have h47 := ta47_47 b
  have h48 := ta47_48 b
  go_enter Try.func25, Try.ntmps25
  go_wp2
  all_goals
    go_ret
    exact ⟨rfl, by repeat (first | exact Below.refl _ _ | apply Below.drew | (refine Below.alloc ?_ (by simp; try omega) _))⟩
set_option maxRecDepth 100000 in
set_option maxHeartbeats 1000000 in
theorem t53 (b : Addr) (p : Addr) (l : Int) (w : World) :
    Calls Try.prog 25 #[.pointer (some p), .agg #[.iface 53 (.pointer (some b)), .int .i32 l]] w fun e w' => e = .returned (.bool false) ∧ Below w.heap.size w w' := by
  have h40 := ta53_40 b
  have h43 := ta53_43 b
  have h47 := ta53_47 b
  have h48 := ta53_48 b
  go_enter Try.func25, Try.ntmps25
  go_wp2
  all_goals
    go_ret
    exact ⟨rfl, by repeat (first | exact Below.refl _ _ | apply Below.drew | (refine Below.alloc ?_ (by simp; try omega) _))⟩
set_option maxRecDepth 100000 in
set_option maxHeartbeats 1000000 in
theorem t56 (b : Addr) (p : Addr) (l : Int) (w : World) :
    Calls Try.prog 25 #[.pointer (some p), .agg #[.iface 56 (.pointer (some b)), .int .i32 l]] w fun e w' => e = .returned (.bool false) ∧ Below w.heap.size w w' := by
  have h40 := ta56_40 b
  have h43 := ta56_43 b
  have h47 := ta56_47 b
  have h48 := ta56_48 b
  go_enter Try.func25, Try.ntmps25
  go_wp2
  all_goals
    go_ret
    exact ⟨rfl, by repeat (first | exact Below.refl _ _ | apply Below.drew | (refine Below.alloc ?_ (by simp; try omega) _))⟩
set_option maxRecDepth 100000 in
set_option maxHeartbeats 1000000 in
theorem t59 (b : Addr) (p : Addr) (l : Int) (w : World) :
    Calls Try.prog 25 #[.pointer (some p), .agg #[.iface 59 (.pointer (some b)), .int .i32 l]] w fun e w' => e = .returned (.bool false) ∧ Below w.heap.size w w' := by
  have h40 := ta59_40 b
  have h43 := ta59_43 b
  have h47 := ta59_47 b
  have h48 := ta59_48 b
  go_enter Try.func25, Try.ntmps25
  go_wp2
  all_goals
    go_ret
    exact ⟨rfl, by repeat (first | exact Below.refl _ _ | apply Below.drew | (refine Below.alloc ?_ (by simp; try omega) _))⟩
set_option maxRecDepth 100000 in
set_option maxHeartbeats 1000000 in
theorem t62 (b : Addr) (p : Addr) (l : Int) (w : World) :
    Calls Try.prog 25 #[.pointer (some p), .agg #[.iface 62 (.pointer (some b)), .int .i32 l]] w fun e w' => e = .returned (.bool false) ∧ Below w.heap.size w w' := by
  have h40 := ta62_40 b
  have h43 := ta62_43 b
  have h47 := ta62_47 b
  have h48 := ta62_48 b
  go_enter Try.func25, Try.ntmps25
  go_wp2
  all_goals
    go_ret
    exact ⟨rfl, by repeat (first | exact Below.refl _ _ | apply Below.drew | (refine Below.alloc ?_ (by simp; try omega) _))⟩
set_option maxRecDepth 100000 in
set_option maxHeartbeats 1000000 in
theorem t65 (b : Addr) (p : Addr) (l : Int) (w : World) :
    Calls Try.prog 25 #[.pointer (some p), .agg #[.iface 65 (.pointer (some b)), .int .i32 l]] w fun e w' => e = .returned (.bool false) ∧ Below w.heap.size w w' := by
  have h40 := ta65_40 b
  have h43 := ta65_43 b
  have h47 := ta65_47 b
  have h48 := ta65_48 b
  go_enter Try.func25, Try.ntmps25
  go_wp2
  all_goals
    go_ret
    exact ⟨rfl, by repeat (first | exact Below.refl _ _ | apply Below.drew | (refine Below.alloc ?_ (by simp; try omega) _))⟩
set_option maxRecDepth 100000 in
set_option maxHeartbeats 1000000 in
theorem t0 (p : Addr) (l : Int) (w : World) :
    Calls Try.prog 25 #[.pointer (some p), .agg #[.nilIface, .int .i32 l]] w fun e w' => e = .returned (.bool false) ∧ Below w.heap.size w w' := by
  have h40 := ta0_40
  have h43 := ta0_43
  have h47 := ta0_47
  have h48 := ta0_48
  go_enter Try.func25, Try.ntmps25
  go_wp2
  all_goals
    go_ret
    exact ⟨rfl, by repeat (first | exact Below.refl _ _ | apply Below.drew | (refine Below.alloc ?_ (by simp; try omega) _))⟩
set_option maxRecDepth 100000 in
set_option maxHeartbeats 1000000 in
theorem t48 (b : Nat) (p : Addr) (l : Int) (v : _) (x y : Bool) (w : World) (hX : (FloatKind.f64.format.order v 9218868437227405311 == some Ordering.gt) = x) (hY : (FloatKind.f64.format.order v v != some Ordering.eq) = y)
    (hc : w.cell? ⟨b, 0, none⟩ = some (.float .f64 v)) (hb : b < w.heap.size) :
    Calls Try.prog 25 #[.pointer (some p), .agg #[.iface 48 (.pointer (some ⟨b, 0, none⟩)), .int .i32 l]] w fun e w' => e = .returned (.bool (x || y)) ∧ Below w.heap.size w w' := by
  have h40 := ta48_40 ⟨b, 0, none⟩
  have h43 := ta48_43 ⟨b, 0, none⟩
  have h47 := ta48_47 ⟨b, 0, none⟩
  have h48 := ta48_48 ⟨b, 0, none⟩
  have hX' : FloatKind.f64.format.order v 9218868437227405311 = some Ordering.gt ↔ x = true := by rw [← hX]; simp
  cases x <;> cases y
  all_goals
    go_enter Try.func25, Try.ntmps25
    go_wp2
    go_ret
    exact ⟨rfl, by repeat (first | exact Below.refl _ _ | apply Below.drew | (refine Below.alloc ?_ (by simp; try omega) _))⟩
theorem zz (k : Int) (v : _) (s : ByteArray) (w : World) (h1 : s.size ≤ maxLen) :
    Calls Try.prog 11 #[.int .u8 k, .float .f64 v, .string s] w fun e w' => (∃ v, e = .returned (.bool v)) ∧ w = w' := by
  unfold maxLen at h1
  go_enter Try.func11, Try.ntmps11
  go_wp2
  all_goals
    go_ret
    exact ⟨⟨_, rfl⟩, rfl⟩
set_option maxRecDepth 100000 in
set_option maxHeartbeats 4000000 in
theorem case0 (a0 : Int) (a1 : _) (a2 : ByteArray) (x y : Bool) (w : World) (b0 : 0 ≤ a0 ∧ a0 ≤ 255) (w2 : a2.size ≤ maxLen) (v2 : a2.size ≤ 9223372036854775807)
    (hX : (FloatKind.f64.format.order a1 9218868437227405311 == some Ordering.gt) = x) (hY : (FloatKind.f64.format.order a1 a1 != some Ordering.eq) = y)
    (hm : a0 % 10 = 0) :
    Calls Try.prog 4 #[.int .u8 a0, .float .f64 a1, .string a2] w fun e w' => e = .returned (.bool true) ∧ Below w.heap.size w w' := by
  clear hX hY
  go_enter Try.func4, Try.ntmps4
  go_wp2_with (first
    | (go_at_call 11; ((with_reducible refine (zz _ _ _ _ w2).mono ?_); rintro e w' ⟨⟨v, rfl⟩, rfl⟩))
    | (go_at_call 12; go_in)
    | (go_at_call 25; ((with_reducible refine (t40 _ _ _ _).mono ?_); rintro e w' ⟨rfl, hb⟩)))
  · go_ret
    exact ⟨rfl, Below.refl _ _⟩
  · go_ret
    exact ⟨rfl, Below.refl _ _⟩
  · go_ret
    refine ⟨rfl, Below.trans ?_ (hb.mono (by simp; try omega))⟩
    repeat (first | exact Below.refl _ _ | apply Below.drew | (refine Below.alloc ?_ (by simp; try omega) _))
set_option maxRecDepth 100000 in
set_option maxHeartbeats 4000000 in
theorem case1 (a0 : Int) (a1 : _) (a2 : ByteArray) (x y : Bool) (w : World) (b0 : 0 ≤ a0 ∧ a0 ≤ 255) (w2 : a2.size ≤ maxLen) (v2 : a2.size ≤ 9223372036854775807)
    (hX : (FloatKind.f64.format.order a1 9218868437227405311 == some Ordering.gt) = x) (hY : (FloatKind.f64.format.order a1 a1 != some Ordering.eq) = y)
    (hm : a0 % 10 = 1) :
    Calls Try.prog 4 #[.int .u8 a0, .float .f64 a1, .string a2] w fun e w' => e = .returned (.bool true) ∧ Below w.heap.size w w' := by
  clear hX hY
  go_enter Try.func4, Try.ntmps4
  go_wp2_with (first
    | (go_at_call 11; ((with_reducible refine (zz _ _ _ _ w2).mono ?_); rintro e w' ⟨⟨v, rfl⟩, rfl⟩))
    | (go_at_call 12; go_in)
    | (go_at_call 25; ((with_reducible refine (t43 _ _ _ _).mono ?_); rintro e w' ⟨rfl, hb⟩)))
  · go_ret
    exact ⟨rfl, Below.refl _ _⟩
  · go_ret
    exact ⟨rfl, Below.refl _ _⟩
  · go_ret
    refine ⟨rfl, Below.trans ?_ (hb.mono (by simp; try omega))⟩
    repeat (first | exact Below.refl _ _ | apply Below.drew | (refine Below.alloc ?_ (by simp; try omega) _))
set_option maxRecDepth 100000 in
set_option maxHeartbeats 4000000 in
theorem case2 (a0 : Int) (a1 : _) (a2 : ByteArray) (x y : Bool) (w : World) (b0 : 0 ≤ a0 ∧ a0 ≤ 255) (w2 : a2.size ≤ maxLen) (v2 : a2.size ≤ 9223372036854775807)
    (hX : (FloatKind.f64.format.order a1 9218868437227405311 == some Ordering.gt) = x) (hY : (FloatKind.f64.format.order a1 a1 != some Ordering.eq) = y)
    (hm : a0 % 10 = 2) :
    Calls Try.prog 4 #[.int .u8 a0, .float .f64 a1, .string a2] w fun e w' => e = .returned (.bool true) ∧ Below w.heap.size w w' := by
  clear hX hY
  go_enter Try.func4, Try.ntmps4
  go_wp2_with (first
    | (go_at_call 11; ((with_reducible refine (zz _ _ _ _ w2).mono ?_); rintro e w' ⟨⟨v, rfl⟩, rfl⟩))
    | (go_at_call 12; go_in)
    | (go_at_call 25; ((with_reducible refine (t47 _ _ _ _).mono ?_); rintro e w' ⟨rfl, hb⟩)))
  · go_ret
    exact ⟨rfl, Below.refl _ _⟩
  · go_ret
    exact ⟨rfl, Below.refl _ _⟩
  · go_ret
    refine ⟨rfl, Below.trans ?_ (hb.mono (by simp; try omega))⟩
    repeat (first | exact Below.refl _ _ | apply Below.drew | (refine Below.alloc ?_ (by simp; try omega) _))
set_option maxRecDepth 100000 in
set_option maxHeartbeats 4000000 in
theorem case3 (a0 : Int) (a1 : _) (a2 : ByteArray) (x y : Bool) (w : World) (b0 : 0 ≤ a0 ∧ a0 ≤ 255) (w2 : a2.size ≤ maxLen) (v2 : a2.size ≤ 9223372036854775807)
    (hX : (FloatKind.f64.format.order a1 9218868437227405311 == some Ordering.gt) = x) (hY : (FloatKind.f64.format.order a1 a1 != some Ordering.eq) = y)
    (hm : a0 % 10 = 3) :
    Calls Try.prog 4 #[.int .u8 a0, .float .f64 a1, .string a2] w fun e w' => e = .returned (.bool true) ∧ Below w.heap.size w w' := by
  have hX' : FloatKind.f64.format.order a1 9218868437227405311 = some Ordering.gt ↔ x = true := by rw [← hX]; simp
  cases x <;> cases y
  all_goals
    go_enter Try.func4, Try.ntmps4
    go_wp2_with (first
      | (go_at_call 11; ((with_reducible refine (zz _ _ _ _ w2).mono ?_); rintro e w' ⟨⟨v, rfl⟩, rfl⟩))
      | (go_at_call 12; go_in)
      | (go_at_call 25; ((with_reducible refine (t48 _ _ _ _ _ _ _ hX hY (by go_simp) (by simp)).mono ?_); rintro e w' ⟨rfl, hb⟩)))
    · go_ret
      exact ⟨rfl, Below.refl _ _⟩
    · go_ret
      exact ⟨rfl, Below.refl _ _⟩
    · go_ret
      refine ⟨rfl, Below.trans ?_ (hb.mono (by simp; try omega))⟩
      repeat (first | exact Below.refl _ _ | apply Below.drew | (refine Below.alloc ?_ (by simp; try omega) _))
set_option maxRecDepth 100000 in
set_option maxHeartbeats 4000000 in
theorem case4 (a0 : Int) (a1 : _) (a2 : ByteArray) (x y : Bool) (w : World) (b0 : 0 ≤ a0 ∧ a0 ≤ 255) (w2 : a2.size ≤ maxLen) (v2 : a2.size ≤ 9223372036854775807)
    (hX : (FloatKind.f64.format.order a1 9218868437227405311 == some Ordering.gt) = x) (hY : (FloatKind.f64.format.order a1 a1 != some Ordering.eq) = y)
    (hm : a0 % 10 = 4) :
    Calls Try.prog 4 #[.int .u8 a0, .float .f64 a1, .string a2] w fun e w' => e = .returned (.bool true) ∧ Below w.heap.size w w' := by
  clear hX hY
  go_enter Try.func4, Try.ntmps4
  go_wp2_with (first
    | (go_at_call 11; ((with_reducible refine (zz _ _ _ _ w2).mono ?_); rintro e w' ⟨⟨v, rfl⟩, rfl⟩))
    | (go_at_call 12; go_in)
    | (go_at_call 25; ((with_reducible refine (t53 _ _ _ _).mono ?_); rintro e w' ⟨rfl, hb⟩)))
  · go_ret
    exact ⟨rfl, Below.refl _ _⟩
  · go_ret
    exact ⟨rfl, Below.refl _ _⟩
  · go_ret
    refine ⟨rfl, Below.trans ?_ (hb.mono (by simp; try omega))⟩
    repeat (first | exact Below.refl _ _ | apply Below.drew | (refine Below.alloc ?_ (by simp; try omega) _))
set_option maxRecDepth 100000 in
set_option maxHeartbeats 4000000 in
theorem case5 (a0 : Int) (a1 : _) (a2 : ByteArray) (x y : Bool) (w : World) (b0 : 0 ≤ a0 ∧ a0 ≤ 255) (w2 : a2.size ≤ maxLen) (v2 : a2.size ≤ 9223372036854775807)
    (hX : (FloatKind.f64.format.order a1 9218868437227405311 == some Ordering.gt) = x) (hY : (FloatKind.f64.format.order a1 a1 != some Ordering.eq) = y)
    (hm : a0 % 10 = 5) :
    Calls Try.prog 4 #[.int .u8 a0, .float .f64 a1, .string a2] w fun e w' => e = .returned (.bool true) ∧ Below w.heap.size w w' := by
  clear hX hY
  go_enter Try.func4, Try.ntmps4
  go_wp2_with (first
    | (go_at_call 11; ((with_reducible refine (zz _ _ _ _ w2).mono ?_); rintro e w' ⟨⟨v, rfl⟩, rfl⟩))
    | (go_at_call 12; go_in)
    | (go_at_call 25; ((with_reducible refine (t56 _ _ _ _).mono ?_); rintro e w' ⟨rfl, hb⟩)))
  · go_ret
    exact ⟨rfl, Below.refl _ _⟩
  · go_ret
    exact ⟨rfl, Below.refl _ _⟩
  · go_ret
    refine ⟨rfl, Below.trans ?_ (hb.mono (by simp; try omega))⟩
    repeat (first | exact Below.refl _ _ | apply Below.drew | (refine Below.alloc ?_ (by simp; try omega) _))
set_option maxRecDepth 100000 in
set_option maxHeartbeats 4000000 in
theorem case6 (a0 : Int) (a1 : _) (a2 : ByteArray) (x y : Bool) (w : World) (b0 : 0 ≤ a0 ∧ a0 ≤ 255) (w2 : a2.size ≤ maxLen) (v2 : a2.size ≤ 9223372036854775807)
    (hX : (FloatKind.f64.format.order a1 9218868437227405311 == some Ordering.gt) = x) (hY : (FloatKind.f64.format.order a1 a1 != some Ordering.eq) = y)
    (hm : a0 % 10 = 6) :
    Calls Try.prog 4 #[.int .u8 a0, .float .f64 a1, .string a2] w fun e w' => e = .returned (.bool true) ∧ Below w.heap.size w w' := by
  clear hX hY
  go_enter Try.func4, Try.ntmps4
  go_wp2_with (first
    | (go_at_call 11; ((with_reducible refine (zz _ _ _ _ w2).mono ?_); rintro e w' ⟨⟨v, rfl⟩, rfl⟩))
    | (go_at_call 12; go_in)
    | (go_at_call 25; ((with_reducible refine (t59 _ _ _ _).mono ?_); rintro e w' ⟨rfl, hb⟩)))
  · go_ret
    exact ⟨rfl, Below.refl _ _⟩
  · go_ret
    exact ⟨rfl, Below.refl _ _⟩
  · go_ret
    refine ⟨rfl, Below.trans ?_ (hb.mono (by simp; try omega))⟩
    repeat (first | exact Below.refl _ _ | apply Below.drew | (refine Below.alloc ?_ (by simp; try omega) _))
set_option maxRecDepth 100000 in
set_option maxHeartbeats 4000000 in
theorem case7 (a0 : Int) (a1 : _) (a2 : ByteArray) (x y : Bool) (w : World) (b0 : 0 ≤ a0 ∧ a0 ≤ 255) (w2 : a2.size ≤ maxLen) (v2 : a2.size ≤ 9223372036854775807)
    (hX : (FloatKind.f64.format.order a1 9218868437227405311 == some Ordering.gt) = x) (hY : (FloatKind.f64.format.order a1 a1 != some Ordering.eq) = y)
    (hm : a0 % 10 = 7) :
    Calls Try.prog 4 #[.int .u8 a0, .float .f64 a1, .string a2] w fun e w' => e = .returned (.bool true) ∧ Below w.heap.size w w' := by
  clear hX hY
  go_enter Try.func4, Try.ntmps4
  go_wp2_with (first
    | (go_at_call 11; ((with_reducible refine (zz _ _ _ _ w2).mono ?_); rintro e w' ⟨⟨v, rfl⟩, rfl⟩))
    | (go_at_call 12; go_in)
    | (go_at_call 25; ((with_reducible refine (t62 _ _ _ _).mono ?_); rintro e w' ⟨rfl, hb⟩)))
  · go_ret
    exact ⟨rfl, Below.refl _ _⟩
  · go_ret
    exact ⟨rfl, Below.refl _ _⟩
  · go_ret
    refine ⟨rfl, Below.trans ?_ (hb.mono (by simp; try omega))⟩
    repeat (first | exact Below.refl _ _ | apply Below.drew | (refine Below.alloc ?_ (by simp; try omega) _))
set_option maxRecDepth 100000 in
set_option maxHeartbeats 4000000 in
theorem case8 (a0 : Int) (a1 : _) (a2 : ByteArray) (x y : Bool) (w : World) (b0 : 0 ≤ a0 ∧ a0 ≤ 255) (w2 : a2.size ≤ maxLen) (v2 : a2.size ≤ 9223372036854775807)
    (hX : (FloatKind.f64.format.order a1 9218868437227405311 == some Ordering.gt) = x) (hY : (FloatKind.f64.format.order a1 a1 != some Ordering.eq) = y)
    (hm : a0 % 10 = 8) :
    Calls Try.prog 4 #[.int .u8 a0, .float .f64 a1, .string a2] w fun e w' => e = .returned (.bool true) ∧ Below w.heap.size w w' := by
  clear hX hY
  go_enter Try.func4, Try.ntmps4
  go_wp2_with (first
    | (go_at_call 11; ((with_reducible refine (zz _ _ _ _ w2).mono ?_); rintro e w' ⟨⟨v, rfl⟩, rfl⟩))
    | (go_at_call 12; go_in)
    | (go_at_call 25; ((with_reducible refine (t65 _ _ _ _).mono ?_); rintro e w' ⟨rfl, hb⟩)))
  · go_ret
    exact ⟨rfl, Below.refl _ _⟩
  · go_ret
    exact ⟨rfl, Below.refl _ _⟩
  · go_ret
    refine ⟨rfl, Below.trans ?_ (hb.mono (by simp; try omega))⟩
    repeat (first | exact Below.refl _ _ | apply Below.drew | (refine Below.alloc ?_ (by simp; try omega) _))
set_option maxRecDepth 100000 in
set_option maxHeartbeats 4000000 in
theorem case9 (a0 : Int) (a1 : _) (a2 : ByteArray) (x y : Bool) (w : World) (b0 : 0 ≤ a0 ∧ a0 ≤ 255) (w2 : a2.size ≤ maxLen) (v2 : a2.size ≤ 9223372036854775807)
    (hX : (FloatKind.f64.format.order a1 9218868437227405311 == some Ordering.gt) = x) (hY : (FloatKind.f64.format.order a1 a1 != some Ordering.eq) = y)
    (hm : a0 % 10 = 9) :
    Calls Try.prog 4 #[.int .u8 a0, .float .f64 a1, .string a2] w fun e w' => e = .returned (.bool true) ∧ Below w.heap.size w w' := by
  clear hX hY
  go_enter Try.func4, Try.ntmps4
  go_wp2_with (first
    | (go_at_call 11; ((with_reducible refine (zz _ _ _ _ w2).mono ?_); rintro e w' ⟨⟨v, rfl⟩, rfl⟩))
    | (go_at_call 12; go_in)
    | (go_at_call 25; ((with_reducible refine (t0 _ _ _).mono ?_); rintro e w' ⟨rfl, hb⟩)))
  · go_ret
    exact ⟨rfl, Below.refl _ _⟩
  · go_ret
    exact ⟨rfl, Below.refl _ _⟩
  · go_ret
    refine ⟨rfl, Below.trans ?_ (hb.mono (by simp; try omega))⟩
    repeat (first | exact Below.refl _ _ | apply Below.drew | (refine Below.alloc ?_ (by simp; try omega) _))

set_option maxRecDepth 100000 in
set_option maxHeartbeats 8000000 in
theorem walk (a0 : Int) (a1 : _) (a2 : ByteArray) (w : World) (w0 : (Lit.int .u8 a0).wf = true) (w2 : a2.size ≤ maxLen) :
    Calls Try.prog 4 #[.int .u8 a0, .float .f64 a1, .string a2] w fun e w' => e = .returned (.bool true) ∧ Below w.heap.size w w' := by
  have b0 := Aid.u8_of w0
  have v2 : a2.size ≤ 9223372036854775807 := w2
  have hm : a0 % 10 = 0 ∨ a0 % 10 = 1 ∨ a0 % 10 = 2 ∨ a0 % 10 = 3 ∨ a0 % 10 = 4 ∨ a0 % 10 = 5 ∨ a0 % 10 = 6 ∨ a0 % 10 = 7 ∨ a0 % 10 = 8 ∨ a0 % 10 = 9 := by omega
  rcases hm with hm | hm | hm | hm | hm | hm | hm | hm | hm | hm
  · exact case0 a0 a1 a2 _ _ w b0 w2 v2 rfl rfl hm
  · exact case1 a0 a1 a2 _ _ w b0 w2 v2 rfl rfl hm
  · exact case2 a0 a1 a2 _ _ w b0 w2 v2 rfl rfl hm
  · exact case3 a0 a1 a2 _ _ w b0 w2 v2 rfl rfl hm
  · exact case4 a0 a1 a2 _ _ w b0 w2 v2 rfl rfl hm
  · exact case5 a0 a1 a2 _ _ w b0 w2 v2 rfl rfl hm
  · exact case6 a0 a1 a2 _ _ w b0 w2 v2 rfl rfl hm
  · exact case7 a0 a1 a2 _ _ w b0 w2 v2 rfl rfl hm
  · exact case8 a0 a1 a2 _ _ w b0 w2 v2 rfl rfl hm
  · exact case9 a0 a1 a2 _ _ w b0 w2 v2 rfl rfl hm

set_option maxRecDepth 100000 in
theorem lifted (os : Os) (started : os.Started) (H : Type) (enc : TypeId × Value → H) :
    ReturnsInHanded {} Try.checked os 4 .any (Rows.fnIsIdentOrNumCaseTableSpec.pre6 enc Try.prog Try.f4 Rows.fnIsIdentOrNumCaseTableRow.domain false) (Rows.fnIsIdentOrNumCaseTableSpec.post enc Try.prog Try.f4 false true false false) := by
  refine returnsInHanded_of_change (C := Try.checked) own started (by kernel_rfl) Try.func4
    (ChangeSpec.witness6 (enc := enc) (C := Try.checked) false ⟨#[], #[.int .u8 0, .float .f64 0, .string ByteArray.empty], []⟩ 8 (by kernel_rfl) (by kernel_rfl) (by kernel_rfl) (by kernel_rfl)) ?_
  intro W base args ds gs before hval0 hW hcnd _
  have hval : ∀ (j : Nat) t v, Try.f4.params[j]? = some t → args[j]? = some v → Value.okWide Try.prog W .any base t v := hval0
  have hW' := hW
  obtain ⟨p, q, hA0, hV, rfl, hfz, hnd⟩ := hW
  have hA : DataW.TrodAll enc Try.prog W 0 (fun _ => true) true Try.f4.params.toList args.toList ds p := hA0
  rw [Try.params4] at hA hval
  obtain ⟨v0, vs0, d0, ds0, p0, q0, hargs, rfl, rfl, h0, r0⟩ := trodAll_cons hA
  obtain ⟨v1, vs1, d1, ds1, p1, q1, rfl, rfl, rfl, h1, r1⟩ := trodAll_cons r0
  obtain ⟨v2, vs2, d2, ds2, p2, q2, rfl, rfl, rfl, h2, r2⟩ := trodAll_cons r1
  obtain ⟨rfl, rfl, rfl⟩ := trodAll_nil r2
  obtain rfl : args = #[v0, v1, v2] := by cases args; simp_all
  obtain ⟨rfl, rfl⟩ := trodVars_none hV
  obtain ⟨a0, rfl, rfl, rfl, w0⟩ := open_int Try.underlying5 (hval 0 5 v0 rfl rfl) h0
  have k1 := h1
  have lt1 : ∀ x ∈ p1, x.block < W.heap.size := by obtain ⟨m, hm⟩ := k1; exact DataW.trod_lt m _ _ _ hm
  obtain ⟨a1, rfl, _, _, _⟩ := open_float Try.underlying22 (hval 1 22 v1 rfl rfl) h1
  obtain ⟨a2, rfl, rfl, rfl, w2⟩ := open_string Try.underlying9 (hval 2 9 v2 rfl rfl) h2
  clear hA0 hval0
  refine (walk a0 a1 a2 W w0 w2).mono fun e W' ⟨he, bel⟩ => ?_
  subst he
  exact ⟨_, rfl, _, _, _, [], _, [], hW', trodAll_mk1 (shut_bool Try.underlying4 _), (trodAll_cons_mk (shut_int Try.underlying5 w0) (trodAll_cons_mk (Below.trod laidOut (by kernel_rfl) (of_decide_eq_true (by kernel_rfl)) k1 bel lt1) (trodAll_cons_mk (shut_string Try.underlying9 w2) trodAll_mk0))), rfl, bel.frame _, fun h => by cases h⟩

theorem joined : joinedFacts Try.prog 4 Try.f4 Rows.fnIsIdentOrNumCaseTableSpec Rows.fnIsIdentOrNumCaseTableRow = true := by
  unfold joinedFacts
  rw [Facts.enter, Facts.lifts, Facts.make]
  kernel_rfl

theorem over : Rows.fnIsIdentOrNumCaseTableRow.holds Try.pinned (OpenSpec.ofChange Rows.fnIsIdentOrNumCaseTableSpec) :=
  OpenClaim.holds_of_wide 4 Try.f4 rfl rfl rfl rfl rfl rfl rfl ⟨rfl, rfl, rfl, rfl, rfl⟩ rfl rfl rfl rfl rfl (by kernel_rfl) Try.func4 joined
    (of_decide_eq_true (by kernel_rfl)) (by unfold Func.isWrapper; first | (rw [if_pos (by decide +kernel)]; kernel_rfl) | (rw [if_neg (by decide +kernel)]; exact ⟨rfl, rfl⟩))
    (fun os started H enc _ => lifted os started H enc)

theorem proved : Rows.FnIsIdentOrNumCaseTableSaid :=
  over
#print axioms proved
end Go.Proofs.Ytpgchpfdeefloab.fnIsIdentOrNumCaseTable
