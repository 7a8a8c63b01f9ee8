/- getBool answers (b, true) when the node is the boolean b, and (false, false) for every other kind. No condition. -/
import Derived.Test.YtpgchpfdeefloabRows
import Derived.WalkKit
import Derived.ProofKit
import Derived.OpenShut
import Derived.ShutString
import Derived.Test.YtpgchpfdeefloabFacts
import Derived.Test.YtpgchpfdeefloabAid
import Derived.Laws.Cover2
import Derived.Test.YtpgchpfdeefloabSl
import Derived.LoopTactic
import Derived.WalkSpells
import Derived.WalkLawsBesides
namespace Go.Proofs.Ytpgchpfdeefloab.fnGetBoolAnswersOnlyBooleans
open Go.ChangeShapes Go.WideShapes Go.ChangeAt Go.RowKit
open Go.ChangeMaps (open_string shut_string)
set_option linter.unusedVariables false

theorem own : ownKnob Try.prog.godebug = none := by kernel_rfl
theorem laidOut : laidOutB Try.prog = true := by kernel_rfl

open Sl
theorem cpy_info : (Try.prog.info? 82).map (fun i => (i.zero, i.size, i.bytes)) = some (some (.int .u16 0), 1, 2) := by kernel_rfl
theorem cpy (a : Option Addr) (len cap : Nat) (zs : List Int) (w : World) (h : Sl .u16 w a len zs) (hlen : len ≤ 17592186044416) :
    Calls Try.prog 8 #[.slice a len cap] w (Copied .u16 w a len zs) := by
  have hnil : ∀ w : World, (binOp .eql 23 (.slice a len cap) (.slice none 0 0)).run Try.prog w = .ok (.bool a.isNone) w := fun w => Lib.run_eql_slice_nil w 23 82 _ _ _ _ _ Try.underlying23
  have hmk := run_make_ints (P := Try.prog) Try.underlying23 cpy_info (by omega) len hlen
  cases a with
  | none =>
    have H := Lib.hid (Copied.nil h)
    go_enter Try.func8, Try.ntmps8
    go_wp2
    go_ret
    exact H.out
  | some x =>
    have HL := Lib.hid h.len
    go_enter Try.func8, Try.ntmps8
    go_wp2
    go_loopw [4] (fun i wr => ∃ k : Nat, k ≤ len ∧ i = .int .i64 k ∧ Blk .u16 wr w.heap.size 82 (partOf zs k) ∧ Below w.heap.size w wr) (fun i _ => len - (intOf i).toNat)
    case atStart => exact ⟨0, by omega, rfl, by rw [partOf_zero, HL.out]; exact Blk.made _ _ _ _, (Below.refl _ _).alloc (Nat.le_refl _) _⟩
    case round =>
      obtain ⟨k, hk, rfl, hb, hl⟩ := hrel
      by_cases hlt : k < len
      · obtain ⟨b, off, e, hlb, hc⟩ := h.at k hlt
        injection e with e
        subst e
        have hc' : wr.cell? ⟨b, off + k, none⟩ = some (.int .u16 (nth zs k)) := by rw [hl.cell (p := ⟨b, off + k, none⟩) hlb]; exact hc
        have hd := hb.cell k (by rw [partOf_len _ _ (by rw [HL.out]; omega), HL.out]; exact hlt)
        have hz := hb.frozen k
        have hk2 : (k : Int) < (len : Int) := by omega
        clear hc
        go_wp2
        go_roundw
        case rel => exact ⟨k + 1, by omega, by go_num, by rw [← partOf_set zs k (by rw [HL.out]; exact hlt)]; exact hb.set k _, hl.setCell (Nat.le_refl _) _⟩
        case measure => simp [intOf]; omega
      · obtain rfl : k = len := by omega
        rw [show partOf zs k = zs by rw [← HL.out]; exact partOf_all zs] at hb
        go_wp2
        go_ret
        exact Copied.mk HL.out (by unfold maxLen; omega) hb hl (Nat.le_refl _)

theorem ta56 (b : Addr) (w : World) : (Instr.typeAssert (.iface 56 (.pointer (some b))) 27 65 true).run Try.prog w = .ok (.tuple #[.pointer none, .bool false]) w := by kernel_rfl
theorem ta48 (b : Addr) (w : World) : (Instr.typeAssert (.iface 48 (.pointer (some b))) 27 65 true).run Try.prog w = .ok (.tuple #[.pointer none, .bool false]) w := by kernel_rfl
theorem ta178 (b : Addr) (w : World) : (Instr.typeAssert (.iface 178 (.pointer (some b))) 27 65 true).run Try.prog w = .ok (.tuple #[.pointer none, .bool false]) w := by kernel_rfl
theorem ta181 (b : Addr) (w : World) : (Instr.typeAssert (.iface 181 (.pointer (some b))) 27 65 true).run Try.prog w = .ok (.tuple #[.pointer none, .bool false]) w := by kernel_rfl
theorem ta0 (w : World) : (Instr.typeAssert .nilIface 27 65 true).run Try.prog w = .ok (.tuple #[.pointer none, .bool false]) w := by kernel_rfl
theorem ta65 (b : Addr) (w : World) : (Instr.typeAssert (.iface 65 (.pointer (some b))) 27 65 true).run Try.prog w = .ok (.tuple #[.pointer (some b), .bool true]) w := by kernel_rfl
/-- Not a boolean node. -/
def Other (v : Value) : Prop := v = .nilIface ∨ (∃ b : Addr, v = .iface 56 (.pointer (some b))) ∨ (∃ b : Addr, v = .iface 48 (.pointer (some b))) ∨ (∃ b : Addr, v = .iface 178 (.pointer (some b))) ∨ (∃ b : Addr, v = .iface 181 (.pointer (some b)))
theorem other_ta {v : Value} (h : Other v) (w : World) : (Instr.typeAssert v 27 65 true).run Try.prog w = .ok (.tuple #[.pointer none, .bool false]) w := by
  rcases h with rfl | ⟨b, rfl⟩ | ⟨b, rfl⟩ | ⟨b, rfl⟩ | ⟨b, rfl⟩
  · exact ta0 w
  · exact ta56 b w
  · exact ta48 b w
  · exact ta178 b w
  · exact ta181 b w
theorem gbT (b : Nat) (v : Bool) (l : Int) (w : World) (hc : w.cell? ⟨b, 0, none⟩ = some (.bool v)) (hb : b < w.heap.size) :
    Calls Try.prog 10 #[.agg #[.iface 65 (.pointer (some ⟨b, 0, none⟩)), .int .i32 l]] w fun e w' => e = .returned (.tuple #[.bool v, .bool true]) ∧ Below w.heap.size w w' := by
  have h := ta65 ⟨b, 0, none⟩
  go_enter Try.func10, Try.ntmps10
  go_wp2
  all_goals
    go_ret2
    exact ⟨rfl, by repeat (first | exact Below.refl _ _ | apply Below.drew | (refine Below.alloc ?_ (by simp; try omega) _))⟩
theorem gbF (x : Value) (l : Int) (w : World) (hx : Other x) :
    Calls Try.prog 10 #[.agg #[x, .int .i32 l]] w fun e w' => e = .returned (.tuple #[.bool false, .bool false]) ∧ Below w.heap.size w w' := by
  have h := other_ta hx
  rcases hx with rfl | ⟨b, rfl⟩ | ⟨b, rfl⟩ | ⟨b, rfl⟩ | ⟨b, rfl⟩
  all_goals
    go_enter Try.func10, Try.ntmps10
    go_wp2
    all_goals
      go_ret2
      exact ⟨rfl, by repeat (first | exact Below.refl _ _ | apply Below.drew | (refine Below.alloc ?_ (by simp; try omega) _))⟩
def MadeB (w : World) (bb : Bool) (e : Ending) (w' : World) : Prop := ∃ b : Nat, e = .returned (.agg #[.iface 65 (.pointer (some ⟨b, 0, none⟩)), .int .i32 0]) ∧ w'.cell? ⟨b, 0, none⟩ = some (.bool bb) ∧ w.heap.size ≤ b ∧ b < w'.heap.size ∧ Below w.heap.size w w'
def MadeO (d : TypeId) (w : World) (e : Ending) (w' : World) : Prop := ∃ b : Addr, e = .returned (.agg #[.iface d (.pointer (some b)), .int .i32 0]) ∧ Below w.heap.size w w'
def MadeN (w : World) (e : Ending) (w' : World) : Prop := e = .returned (.agg #[.nilIface, .int .i32 0]) ∧ Below w.heap.size w w'
theorem e18 (bb : Bool) (w : World) : Calls Try.prog 18 #[.bool bb] w (MadeB w bb) := by
  go_enter Try.func18, Try.ntmps18
  go_wp2
  exact bodyPost_ret (v := .agg #[.iface 65 (.pointer (some ⟨w.heap.size + 1, 0, none⟩)), .int .i32 0]) (by simp [results, Try.results18, go_sem]) rfl ⟨_, rfl, by go_simp, by omega, by simp, by repeat (first | exact Below.refl _ _ | apply Below.drew | (refine Below.alloc ?_ (by simp; try omega) _))⟩
theorem e19 (a : Option Addr) (len cap : Nat) (w : World) : Calls Try.prog 19 #[.slice a len cap] w (MadeO 56 w) := by
  go_enter Try.func19, Try.ntmps19
  go_wp2
  exact bodyPost_ret (v := .agg #[.iface 56 (.pointer (some ⟨w.heap.size + 1, 0, none⟩)), .int .i32 0]) (by simp [results, Try.results19, go_sem]) rfl ⟨_, rfl, by repeat (first | exact Below.refl _ _ | apply Below.drew | (refine Below.alloc ?_ (by simp; try omega) _))⟩
theorem e20 (f : _) (w : World) : Calls Try.prog 20 #[.float .f64 f] w (MadeO 48 w) := by
  go_enter Try.func20, Try.ntmps20
  go_wp2
  exact bodyPost_ret (v := .agg #[.iface 48 (.pointer (some ⟨w.heap.size + 1, 0, none⟩)), .int .i32 0]) (by simp [results, Try.results20, go_sem]) rfl ⟨_, rfl, by repeat (first | exact Below.refl _ _ | apply Below.drew | (refine Below.alloc ?_ (by simp; try omega) _))⟩
theorem e21 (w : World) : Calls Try.prog 21 #[] w (MadeO 178 w) := by
  go_enter Try.func21, Try.ntmps21
  go_wp2
  exact bodyPost_ret (v := .agg #[.iface 178 (.pointer (some ⟨w.heap.size + 1, 0, none⟩)), .int .i32 0]) (by simp [results, Try.results21, go_sem]) rfl ⟨_, rfl, by repeat (first | exact Below.refl _ _ | apply Below.drew | (refine Below.alloc ?_ (by simp; try omega) _))⟩
theorem e22 (w : World) : Calls Try.prog 22 #[] w (MadeN w) := by
  go_enter Try.func22, Try.ntmps22
  go_wp2
  exact bodyPost_ret (v := .agg #[.nilIface, .int .i32 0]) (by simp [results, Try.results22, go_sem]) rfl ⟨rfl, by repeat (first | exact Below.refl _ _ | apply Below.drew | (refine Below.alloc ?_ (by simp; try omega) _))⟩
theorem e23 (a : Option Addr) (len cap : Nat) (w : World) : Calls Try.prog 23 #[.slice a len cap] w (MadeO 181 w) := by
  go_enter Try.func23, Try.ntmps23
  go_wp2
  exact bodyPost_ret (v := .agg #[.iface 181 (.pointer (some ⟨w.heap.size + 1, 0, none⟩)), .int .i32 0]) (by simp [results, Try.results23, go_sem]) rfl ⟨_, rfl, by repeat (first | exact Below.refl _ _ | apply Below.drew | (refine Below.alloc ?_ (by simp; try omega) _))⟩
def BltB (w : World) (bb : Bool) (e : Ending) (w' : World) : Prop := ∃ b : Nat, e = .returned (.tuple #[.agg #[.iface 65 (.pointer (some ⟨b, 0, none⟩)), .int .i32 0], .int .u8 0]) ∧ w'.cell? ⟨b, 0, none⟩ = some (.bool bb) ∧ b < w'.heap.size ∧ Below w.heap.size w w'
def BltO (w : World) (k : Int) (d : TypeId) (e : Ending) (w' : World) : Prop := ∃ b : Addr, e = .returned (.tuple #[.agg #[.iface d (.pointer (some b)), .int .i32 0], .int .u8 k]) ∧ Below w.heap.size w w'
def BltN (w : World) (e : Ending) (w' : World) : Prop := e = .returned (.tuple #[.agg #[.nilIface, .int .i32 0], .int .u8 4]) ∧ Below w.heap.size w w'
theorem old2 {w w1 : World} {x y : Value} {t : TypeId} (hb : Below (w.alloc (.cells #[x, y] t)).heap.size (w.alloc (.cells #[x, y] t)) w1) :
    w1.cell? ⟨w.heap.size, 0, none⟩ = some x ∧ w1.cell? ⟨w.heap.size, 1, none⟩ = some y ∧ w1.frozen? ⟨w.heap.size, 0, none⟩ = false ∧ w1.frozen? ⟨w.heap.size, 1, none⟩ = false ∧ w.heap.size < w1.heap.size := by
  refine ⟨?_, ?_, ?_, ?_, by have := hb.size; simp at this; omega⟩
  · rw [hb.cell (p := ⟨w.heap.size, 0, none⟩) (by simp)]; go_simp
  · rw [hb.cell (p := ⟨w.heap.size, 1, none⟩) (by simp)]; go_simp
  · rw [hb.frozen (p := ⟨w.heap.size, 0, none⟩) (by simp)]; go_simp
  · rw [hb.frozen (p := ⟨w.heap.size, 1, none⟩) (by simp)]; go_simp
theorem bld0 (k : Int) (bb : Bool) (f : _) (a : Option Addr) (len cap : Nat) (w : World) (hk : 0 ≤ k ∧ k ≤ 255) (h : k % 6 = 0) :
    Calls Try.prog 9 #[.int .u8 k, .bool bb, .float .f64 f, .slice a len cap] w (BltB w bb) := by
  go_enter Try.func9, Try.ntmps9
  go_wp2_with (go_at_call 18; ((with_reducible refine (e18 _ _).mono ?_); rintro e w1 ⟨b, rfl, hb0, hb1, hb2, hb⟩; obtain ⟨q0, q1, q2, q3, q4⟩ := old2 hb; have hne : ¬ b = w.heap.size := (by simp at hb1; omega)))
  refine bodyPost_ret (v := .tuple #[.agg #[.iface 65 (.pointer (some ⟨b, 0, none⟩)), .int .i32 0], .int .u8 0]) (by simp [results, Try.results9, go_sem, q0, q1]) rfl ⟨b, rfl, by go_simp, by simpa [World.setCell] using hb2, ?_⟩
  refine Below.setCell (Below.setCell (((Below.refl _ _).alloc (Nat.le_refl _) _).trans (hb.mono (by simp))) (by simp) _) (by simp) _
theorem bld1 (k : Int) (bb : Bool) (f : _) (a : Option Addr) (len cap : Nat) (w : World) (hk : 0 ≤ k ∧ k ≤ 255) (h : k % 6 = 1) :
    Calls Try.prog 9 #[.int .u8 k, .bool bb, .float .f64 f, .slice a len cap] w (BltO w 1 56) := by
  go_enter Try.func9, Try.ntmps9
  go_wp2_with (go_at_call 19; ((with_reducible refine (e19 _ _ _ _).mono ?_); rintro e w1 ⟨b, rfl, hb⟩; obtain ⟨q0, q1, q2, q3, q4⟩ := old2 hb))
  refine bodyPost_ret (v := .tuple #[.agg #[.iface 56 (.pointer (some b)), .int .i32 0], .int .u8 1]) (by simp [results, Try.results9, go_sem, q0, q1]) rfl ⟨_, rfl, ?_⟩
  refine Below.setCell (Below.setCell (((Below.refl _ _).alloc (Nat.le_refl _) _).trans (hb.mono (by simp))) (by simp) _) (by simp) _
theorem bld2 (k : Int) (bb : Bool) (f : _) (a : Option Addr) (len cap : Nat) (w : World) (hk : 0 ≤ k ∧ k ≤ 255) (h : k % 6 = 2) :
    Calls Try.prog 9 #[.int .u8 k, .bool bb, .float .f64 f, .slice a len cap] w (BltO w 2 48) := by
  go_enter Try.func9, Try.ntmps9
  go_wp2_with (go_at_call 20; ((with_reducible refine (e20 _ _).mono ?_); rintro e w1 ⟨b, rfl, hb⟩; obtain ⟨q0, q1, q2, q3, q4⟩ := old2 hb))
  refine bodyPost_ret (v := .tuple #[.agg #[.iface 48 (.pointer (some b)), .int .i32 0], .int .u8 2]) (by simp [results, Try.results9, go_sem, q0, q1]) rfl ⟨_, rfl, ?_⟩
  refine Below.setCell (Below.setCell (((Below.refl _ _).alloc (Nat.le_refl _) _).trans (hb.mono (by simp))) (by simp) _) (by simp) _
theorem bld3 (k : Int) (bb : Bool) (f : _) (a : Option Addr) (len cap : Nat) (w : World) (hk : 0 ≤ k ∧ k ≤ 255) (h : k % 6 = 3) :
    Calls Try.prog 9 #[.int .u8 k, .bool bb, .float .f64 f, .slice a len cap] w (BltO w 3 178) := by
  go_enter Try.func9, Try.ntmps9
  go_wp2_with (go_at_call 21; ((with_reducible refine (e21 _).mono ?_); rintro e w1 ⟨b, rfl, hb⟩; obtain ⟨q0, q1, q2, q3, q4⟩ := old2 hb))
  refine bodyPost_ret (v := .tuple #[.agg #[.iface 178 (.pointer (some b)), .int .i32 0], .int .u8 3]) (by simp [results, Try.results9, go_sem, q0, q1]) rfl ⟨_, rfl, ?_⟩
  refine Below.setCell (Below.setCell (((Below.refl _ _).alloc (Nat.le_refl _) _).trans (hb.mono (by simp))) (by simp) _) (by simp) _
theorem bld4 (k : Int) (bb : Bool) (f : _) (a : Option Addr) (len cap : Nat) (w : World) (hk : 0 ≤ k ∧ k ≤ 255) (h : k % 6 = 4) :
    Calls Try.prog 9 #[.int .u8 k, .bool bb, .float .f64 f, .slice a len cap] w (BltN w) := by
  go_enter Try.func9, Try.ntmps9
  go_wp2_with (go_at_call 22; ((with_reducible refine (e22 _).mono ?_); rintro e w1 ⟨rfl, hb⟩; obtain ⟨q0, q1, q2, q3, q4⟩ := old2 hb))
  refine bodyPost_ret (v := .tuple #[.agg #[.nilIface, .int .i32 0], .int .u8 4]) (by simp [results, Try.results9, go_sem, q0, q1]) rfl ⟨rfl, ?_⟩
  refine Below.setCell (Below.setCell (((Below.refl _ _).alloc (Nat.le_refl _) _).trans (hb.mono (by simp))) (by simp) _) (by simp) _
theorem bld5 (k : Int) (bb : Bool) (f : _) (a : Option Addr) (len cap : Nat) (w : World) (hk : 0 ≤ k ∧ k ≤ 255) (h : k % 6 = 5) :
    Calls Try.prog 9 #[.int .u8 k, .bool bb, .float .f64 f, .slice a len cap] w (BltO w 5 181) := by
  go_enter Try.func9, Try.ntmps9
  go_wp2_with (go_at_call 23; ((with_reducible refine (e23 _ _ _ _).mono ?_); rintro e w1 ⟨b, rfl, hb⟩; obtain ⟨q0, q1, q2, q3, q4⟩ := old2 hb))
  refine bodyPost_ret (v := .tuple #[.agg #[.iface 181 (.pointer (some b)), .int .i32 0], .int .u8 5]) (by simp [results, Try.results9, go_sem, q0, q1]) rfl ⟨_, rfl, ?_⟩
  refine Below.setCell (Below.setCell (((Below.refl _ _).alloc (Nat.le_refl _) _).trans (hb.mono (by simp))) (by simp) _) (by simp) _
theorem zz (k : Int) (bb : Bool) (f : _) (a : Option Addr) (len cap : Nat) (w : World) (h1 : len ≤ maxLen) :
    Calls Try.prog 7 #[.int .u8 k, .bool bb, .float .f64 f, .slice a len cap] w fun e w' => (∃ v, e = .returned (.bool v)) ∧ w = w' := by
  unfold maxLen at h1
  go_enter Try.func7, Try.ntmps7
  go_wp2
  all_goals
    go_ret
    exact ⟨⟨_, rfl⟩, rfl⟩
theorem oth56 (b : Addr) : Other (.iface 56 (.pointer (some b))) := .inr (.inl ⟨_, rfl⟩)
theorem oth48 (b : Addr) : Other (.iface 48 (.pointer (some b))) := .inr (.inr (.inl ⟨_, rfl⟩))
theorem oth178 (b : Addr) : Other (.iface 178 (.pointer (some b))) := .inr (.inr (.inr (.inl ⟨_, rfl⟩)))
theorem othN : Other .nilIface := .inl rfl
theorem oth181 (b : Addr) : Other (.iface 181 (.pointer (some b))) := .inr (.inr (.inr (.inr ⟨_, rfl⟩)))
set_option maxHeartbeats 2000000 in
theorem case0 (k : Int) (bb : Bool) (f : _) (a : Option Addr) (len cap : Nat) (zs : List Int) (w : World) (hk : 0 ≤ k ∧ k ≤ 255) (h : k % 6 = 0) (hs : Sl .u16 w a len zs) (hl : len ≤ maxLen) :
    Calls Try.prog 3 #[.int .u8 k, .bool bb, .float .f64 f, .slice a len cap] w fun e w' => e = .returned (.bool true) ∧ Below w.heap.size w w' := by
  have hl' : len ≤ 9223372036854775807 := hl
  by_cases hb : 524288 < len
  · go_enter Try.func3, Try.ntmps3
    go_wp2_with (go_at_call 7; ((with_reducible refine (zz _ _ _ _ _ _ _ hl).mono ?_); rintro e w' ⟨⟨v, rfl⟩, rfl⟩))
    all_goals
      go_ret
      exact ⟨rfl, Below.refl _ _⟩
  go_enter Try.func3, Try.ntmps3
  go_wp2_with (first
    | (go_at_call 7; ((with_reducible refine (zz _ _ _ _ _ _ _ hl).mono ?_); rintro e w' ⟨⟨v, rfl⟩, rfl⟩))
    | (go_at_call 8; ((with_reducible refine (cpy _ _ _ _ _ hs (by omega)).mono ?_); rintro e w1 ⟨a', cap', rfl, _, _, _, hb1, _, _⟩))
    | (go_at_call 9; ((with_reducible refine (bld0 _ _ _ _ _ _ _ hk h).mono ?_); rintro e w2 ⟨b, rfl, hc, hlt, hb2⟩))
    | (go_at_call 10; ((with_reducible refine (gbT _ bb _ _ (by go_simp) (by simp; omega)).mono ?_); rintro e w3 ⟨rfl, hb3⟩)))
  · go_ret
    exact ⟨rfl, Below.refl _ _⟩
  · have h2 : Below w.heap.size w w2 := hb1.trans (hb2.mono hb1.size)
    have h4 : w.heap.size ≤ w2.heap.size := h2.size
    go_ret
    refine ⟨by simp, (h2.alloc h4 _).trans (hb3.mono (by simp; omega))⟩
set_option maxHeartbeats 2000000 in
theorem case1 (k : Int) (bb : Bool) (f : _) (a : Option Addr) (len cap : Nat) (zs : List Int) (w : World) (hk : 0 ≤ k ∧ k ≤ 255) (h : k % 6 = 1) (hs : Sl .u16 w a len zs) (hl : len ≤ maxLen) :
    Calls Try.prog 3 #[.int .u8 k, .bool bb, .float .f64 f, .slice a len cap] w fun e w' => e = .returned (.bool true) ∧ Below w.heap.size w w' := by
  have hl' : len ≤ 9223372036854775807 := hl
  by_cases hb : 524288 < len
  · go_enter Try.func3, Try.ntmps3
    go_wp2_with (go_at_call 7; ((with_reducible refine (zz _ _ _ _ _ _ _ hl).mono ?_); rintro e w' ⟨⟨v, rfl⟩, rfl⟩))
    all_goals
      go_ret
      exact ⟨rfl, Below.refl _ _⟩
  go_enter Try.func3, Try.ntmps3
  go_wp2_with (first
    | (go_at_call 7; ((with_reducible refine (zz _ _ _ _ _ _ _ hl).mono ?_); rintro e w' ⟨⟨v, rfl⟩, rfl⟩))
    | (go_at_call 8; ((with_reducible refine (cpy _ _ _ _ _ hs (by omega)).mono ?_); rintro e w1 ⟨a', cap', rfl, _, _, _, hb1, _, _⟩))
    | (go_at_call 9; ((with_reducible refine (bld1 _ _ _ _ _ _ _ hk h).mono ?_); rintro e w2 ⟨b, rfl, hb2⟩))
    | (go_at_call 10; ((with_reducible refine (gbF _ _ _ (oth56 _)).mono ?_); rintro e w3 ⟨rfl, hb3⟩)))
  · go_ret
    exact ⟨rfl, Below.refl _ _⟩
  · have h2 : Below w.heap.size w w2 := hb1.trans (hb2.mono hb1.size)
    have h4 : w.heap.size ≤ w2.heap.size := h2.size
    go_ret
    refine ⟨by simp, (h2.alloc h4 _).trans (hb3.mono (by simp; omega))⟩
set_option maxHeartbeats 2000000 in
theorem case2 (k : Int) (bb : Bool) (f : _) (a : Option Addr) (len cap : Nat) (zs : List Int) (w : World) (hk : 0 ≤ k ∧ k ≤ 255) (h : k % 6 = 2) (hs : Sl .u16 w a len zs) (hl : len ≤ maxLen) :
    Calls Try.prog 3 #[.int .u8 k, .bool bb, .float .f64 f, .slice a len cap] w fun e w' => e = .returned (.bool true) ∧ Below w.heap.size w w' := by
  have hl' : len ≤ 9223372036854775807 := hl
  by_cases hb : 524288 < len
  · go_enter Try.func3, Try.ntmps3
    go_wp2_with (go_at_call 7; ((with_reducible refine (zz _ _ _ _ _ _ _ hl).mono ?_); rintro e w' ⟨⟨v, rfl⟩, rfl⟩))
    all_goals
      go_ret
      exact ⟨rfl, Below.refl _ _⟩
  go_enter Try.func3, Try.ntmps3
  go_wp2_with (first
    | (go_at_call 7; ((with_reducible refine (zz _ _ _ _ _ _ _ hl).mono ?_); rintro e w' ⟨⟨v, rfl⟩, rfl⟩))
    | (go_at_call 8; ((with_reducible refine (cpy _ _ _ _ _ hs (by omega)).mono ?_); rintro e w1 ⟨a', cap', rfl, _, _, _, hb1, _, _⟩))
    | (go_at_call 9; ((with_reducible refine (bld2 _ _ _ _ _ _ _ hk h).mono ?_); rintro e w2 ⟨b, rfl, hb2⟩))
    | (go_at_call 10; ((with_reducible refine (gbF _ _ _ (oth48 _)).mono ?_); rintro e w3 ⟨rfl, hb3⟩)))
  · go_ret
    exact ⟨rfl, Below.refl _ _⟩
  · have h2 : Below w.heap.size w w2 := hb1.trans (hb2.mono hb1.size)
    have h4 : w.heap.size ≤ w2.heap.size := h2.size
    go_ret
    refine ⟨by simp, (h2.alloc h4 _).trans (hb3.mono (by simp; omega))⟩
set_option maxHeartbeats 2000000 in
theorem case3 (k : Int) (bb : Bool) (f : _) (a : Option Addr) (len cap : Nat) (zs : List Int) (w : World) (hk : 0 ≤ k ∧ k ≤ 255) (h : k % 6 = 3) (hs : Sl .u16 w a len zs) (hl : len ≤ maxLen) :
    Calls Try.prog 3 #[.int .u8 k, .bool bb, .float .f64 f, .slice a len cap] w fun e w' => e = .returned (.bool true) ∧ Below w.heap.size w w' := by
  have hl' : len ≤ 9223372036854775807 := hl
  by_cases hb : 524288 < len
  · go_enter Try.func3, Try.ntmps3
    go_wp2_with (go_at_call 7; ((with_reducible refine (zz _ _ _ _ _ _ _ hl).mono ?_); rintro e w' ⟨⟨v, rfl⟩, rfl⟩))
    all_goals
      go_ret
      exact ⟨rfl, Below.refl _ _⟩
  go_enter Try.func3, Try.ntmps3
  go_wp2_with (first
    | (go_at_call 7; ((with_reducible refine (zz _ _ _ _ _ _ _ hl).mono ?_); rintro e w' ⟨⟨v, rfl⟩, rfl⟩))
    | (go_at_call 8; ((with_reducible refine (cpy _ _ _ _ _ hs (by omega)).mono ?_); rintro e w1 ⟨a', cap', rfl, _, _, _, hb1, _, _⟩))
    | (go_at_call 9; ((with_reducible refine (bld3 _ _ _ _ _ _ _ hk h).mono ?_); rintro e w2 ⟨b, rfl, hb2⟩))
    | (go_at_call 10; ((with_reducible refine (gbF _ _ _ (oth178 _)).mono ?_); rintro e w3 ⟨rfl, hb3⟩)))
  · go_ret
    exact ⟨rfl, Below.refl _ _⟩
  · have h2 : Below w.heap.size w w2 := hb1.trans (hb2.mono hb1.size)
    have h4 : w.heap.size ≤ w2.heap.size := h2.size
    go_ret
    refine ⟨by simp, (h2.alloc h4 _).trans (hb3.mono (by simp; omega))⟩
set_option maxHeartbeats 2000000 in
theorem case4 (k : Int) (bb : Bool) (f : _) (a : Option Addr) (len cap : Nat) (zs : List Int) (w : World) (hk : 0 ≤ k ∧ k ≤ 255) (h : k % 6 = 4) (hs : Sl .u16 w a len zs) (hl : len ≤ maxLen) :
    Calls Try.prog 3 #[.int .u8 k, .bool bb, .float .f64 f, .slice a len cap] w fun e w' => e = .returned (.bool true) ∧ Below w.heap.size w w' := by
  have hl' : len ≤ 9223372036854775807 := hl
  by_cases hb : 524288 < len
  · go_enter Try.func3, Try.ntmps3
    go_wp2_with (go_at_call 7; ((with_reducible refine (zz _ _ _ _ _ _ _ hl).mono ?_); rintro e w' ⟨⟨v, rfl⟩, rfl⟩))
    all_goals
      go_ret
      exact ⟨rfl, Below.refl _ _⟩
  go_enter Try.func3, Try.ntmps3
  go_wp2_with (first
    | (go_at_call 7; ((with_reducible refine (zz _ _ _ _ _ _ _ hl).mono ?_); rintro e w' ⟨⟨v, rfl⟩, rfl⟩))
    | (go_at_call 8; ((with_reducible refine (cpy _ _ _ _ _ hs (by omega)).mono ?_); rintro e w1 ⟨a', cap', rfl, _, _, _, hb1, _, _⟩))
    | (go_at_call 9; ((with_reducible refine (bld4 _ _ _ _ _ _ _ hk h).mono ?_); rintro e w2 ⟨rfl, hb2⟩))
    | (go_at_call 10; ((with_reducible refine (gbF _ _ _ (othN)).mono ?_); rintro e w3 ⟨rfl, hb3⟩)))
  · go_ret
    exact ⟨rfl, Below.refl _ _⟩
  · have h2 : Below w.heap.size w w2 := hb1.trans (hb2.mono hb1.size)
    have h4 : w.heap.size ≤ w2.heap.size := h2.size
    go_ret
    refine ⟨by simp, (h2.alloc h4 _).trans (hb3.mono (by simp; omega))⟩
set_option maxHeartbeats 2000000 in
theorem case5 (k : Int) (bb : Bool) (f : _) (a : Option Addr) (len cap : Nat) (zs : List Int) (w : World) (hk : 0 ≤ k ∧ k ≤ 255) (h : k % 6 = 5) (hs : Sl .u16 w a len zs) (hl : len ≤ maxLen) :
    Calls Try.prog 3 #[.int .u8 k, .bool bb, .float .f64 f, .slice a len cap] w fun e w' => e = .returned (.bool true) ∧ Below w.heap.size w w' := by
  have hl' : len ≤ 9223372036854775807 := hl
  by_cases hb : 524288 < len
  · go_enter Try.func3, Try.ntmps3
    go_wp2_with (go_at_call 7; ((with_reducible refine (zz _ _ _ _ _ _ _ hl).mono ?_); rintro e w' ⟨⟨v, rfl⟩, rfl⟩))
    all_goals
      go_ret
      exact ⟨rfl, Below.refl _ _⟩
  go_enter Try.func3, Try.ntmps3
  go_wp2_with (first
    | (go_at_call 7; ((with_reducible refine (zz _ _ _ _ _ _ _ hl).mono ?_); rintro e w' ⟨⟨v, rfl⟩, rfl⟩))
    | (go_at_call 8; ((with_reducible refine (cpy _ _ _ _ _ hs (by omega)).mono ?_); rintro e w1 ⟨a', cap', rfl, _, _, _, hb1, _, _⟩))
    | (go_at_call 9; ((with_reducible refine (bld5 _ _ _ _ _ _ _ hk h).mono ?_); rintro e w2 ⟨b, rfl, hb2⟩))
    | (go_at_call 10; ((with_reducible refine (gbF _ _ _ (oth181 _)).mono ?_); rintro e w3 ⟨rfl, hb3⟩)))
  · go_ret
    exact ⟨rfl, Below.refl _ _⟩
  · have h2 : Below w.heap.size w w2 := hb1.trans (hb2.mono hb1.size)
    have h4 : w.heap.size ≤ w2.heap.size := h2.size
    go_ret
    refine ⟨by simp, (h2.alloc h4 _).trans (hb3.mono (by simp; omega))⟩

set_option maxRecDepth 100000 in
set_option maxHeartbeats 4000000 in
theorem walk (a0 : Int) (a1 : Bool) (a2 : _) (a3 : Option Addr) (len3 cap3 : Nat) (z3 : List Int) (w : World) (w0 : (Lit.int .u8 a0).wf = true) (w3 : Aid.IsRow .u16 w a3 len3 cap3 z3) :
    Calls Try.prog 3 #[.int .u8 a0, .bool a1, .float .f64 a2, .slice a3 len3 cap3] w fun e w' => e = .returned (.bool true) ∧ Below w.heap.size w w' := by
  obtain ⟨s3, _, c3, m3, _⟩ := Sl.of_row w3
  have b0 := Aid.u8_of w0
  have hm : a0 % 6 = 0 ∨ a0 % 6 = 1 ∨ a0 % 6 = 2 ∨ a0 % 6 = 3 ∨ a0 % 6 = 4 ∨ a0 % 6 = 5 := by omega
  rcases hm with hm | hm | hm | hm | hm | hm
  · exact case0 a0 a1 a2 a3 len3 cap3 _ w b0 hm s3 (by omega)
  · exact case1 a0 a1 a2 a3 len3 cap3 _ w b0 hm s3 (by omega)
  · exact case2 a0 a1 a2 a3 len3 cap3 _ w b0 hm s3 (by omega)
  · exact case3 a0 a1 a2 a3 len3 cap3 _ w b0 hm s3 (by omega)
  · exact case4 a0 a1 a2 a3 len3 cap3 _ w b0 hm s3 (by omega)
  · exact case5 a0 a1 a2 a3 len3 cap3 _ w b0 hm s3 (by omega)

set_option maxRecDepth 100000 in
theorem lifted (os : Os) (started : os.Started) (H : Type) (enc : TypeId × Value → H) :
    ReturnsInHanded {} Try.checked os 3 .any (Rows.fnGetBoolAnswersOnlyBooleansSpec.pre6 enc Try.prog Try.f3 Rows.fnGetBoolAnswersOnlyBooleansRow.domain false) (Rows.fnGetBoolAnswersOnlyBooleansSpec.post enc Try.prog Try.f3 false true false false) := by
  refine returnsInHanded_of_change (C := Try.checked) own started (by kernel_rfl) Try.func3
    (ChangeSpec.witness6 (enc := enc) (C := Try.checked) false ⟨#[], #[.int .u8 0, .bool false, .float .f64 0, .slice none 0 0], []⟩ 8 (by kernel_rfl) (by kernel_rfl) (by kernel_rfl) (by kernel_rfl)) ?_
  intro W base args ds gs before hval0 hW hcnd _
  have hval : ∀ (j : Nat) t v, Try.f3.params[j]? = some t → args[j]? = some v → Value.okWide Try.prog W .any base t v := hval0
  have hW' := hW
  obtain ⟨p, q, hA0, hV, rfl, hfz, hnd⟩ := hW
  have hA : DataW.TrodAll enc Try.prog W 0 (fun _ => true) true Try.f3.params.toList args.toList ds p := hA0
  rw [Try.params3] at hA hval
  obtain ⟨v0, vs0, d0, ds0, p0, q0, hargs, rfl, rfl, h0, r0⟩ := trodAll_cons hA
  obtain ⟨v1, vs1, d1, ds1, p1, q1, rfl, rfl, rfl, h1, r1⟩ := trodAll_cons r0
  obtain ⟨v2, vs2, d2, ds2, p2, q2, rfl, rfl, rfl, h2, r2⟩ := trodAll_cons r1
  obtain ⟨v3, vs3, d3, ds3, p3, q3, rfl, rfl, rfl, h3, r3⟩ := trodAll_cons r2
  obtain ⟨rfl, rfl, rfl⟩ := trodAll_nil r3
  obtain rfl : args = #[v0, v1, v2, v3] := by cases args; simp_all
  obtain ⟨rfl, rfl⟩ := trodVars_none hV
  obtain ⟨a0, rfl, rfl, rfl, w0⟩ := open_int Try.underlying5 (hval 0 5 v0 rfl rfl) h0
  obtain ⟨a1, rfl, rfl, rfl⟩ := open_bool Try.underlying4 (hval 1 4 v1 rfl rfl) h1
  have k2 := h2
  have lt2 : ∀ x ∈ p2, x.block < W.heap.size := by obtain ⟨m, hm⟩ := k2; exact DataW.trod_lt m _ _ _ hm
  obtain ⟨a2, rfl, _, _, _⟩ := open_float Try.underlying22 (hval 2 22 v2 rfl rfl) h2
  obtain ⟨a3, len3, cap3, rfl⟩ := okWide_slice Try.underlying23 (hval 3 23 v3 rfl rfl)
  have k3 := h3
  have lt3 : ∀ x ∈ p3, x.block < W.heap.size := by obtain ⟨m, hm⟩ := k3; exact DataW.trod_lt m _ _ _ hm
  obtain ⟨z3, w3⟩ := Aid.open_row Try.underlying23 Try.underlying82 (by kernel_rfl) h3
  clear hA0 hval0
  refine (walk a0 a1 a2 a3 len3 cap3 z3 W w0 w3).mono fun e W' ⟨he, bel⟩ => ?_
  subst he
  exact ⟨_, rfl, _, _, _, [], _, [], hW', trodAll_mk1 (shut_bool Try.underlying4 _), (trodAll_cons_mk (shut_int Try.underlying5 w0) (trodAll_cons_mk (shut_bool Try.underlying4 _) (trodAll_cons_mk (Below.trod laidOut (by kernel_rfl) (of_decide_eq_true (by kernel_rfl)) k2 bel lt2) (trodAll_cons_mk (Below.trod laidOut (by kernel_rfl) (of_decide_eq_true (by kernel_rfl)) k3 bel lt3) trodAll_mk0)))), rfl, bel.frame _, fun h => by cases h⟩

theorem joined : joinedFacts Try.prog 3 Try.f3 Rows.fnGetBoolAnswersOnlyBooleansSpec Rows.fnGetBoolAnswersOnlyBooleansRow = true := by
  unfold joinedFacts
  rw [Facts.enter, Facts.lifts, Facts.make]
  kernel_rfl

theorem over : Rows.fnGetBoolAnswersOnlyBooleansRow.holds Try.pinned (OpenSpec.ofChange Rows.fnGetBoolAnswersOnlyBooleansSpec) :=
  OpenClaim.holds_of_wide 3 Try.f3 rfl rfl rfl rfl rfl rfl rfl ⟨rfl, rfl, rfl, rfl, rfl⟩ rfl rfl rfl rfl rfl (by kernel_rfl) Try.func3 joined
    (of_decide_eq_true (by kernel_rfl)) (by unfold Func.isWrapper; first | (rw [if_pos (by decide +kernel)]; kernel_rfl) | (rw [if_neg (by decide +kernel)]; exact ⟨rfl, rfl⟩))
    (fun os started H enc _ => lifted os started H enc)

theorem proved : Rows.FnGetBoolAnswersOnlyBooleansSaid :=
  over
#print axioms proved
end Go.Proofs.Ytpgchpfdeefloab.fnGetBoolAnswersOnlyBooleans
