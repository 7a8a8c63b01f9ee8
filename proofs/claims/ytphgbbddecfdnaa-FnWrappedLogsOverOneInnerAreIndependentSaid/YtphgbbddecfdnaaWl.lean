/- WrappedLogs: contracts of the mutex, the wraps and the pair; no condition. -/
import Derived.Test.YtphgbbddecfdnaaProg
import Derived.WalkKit
import Derived.ProofKit
import Derived.OpenShut
import Derived.ShutString
import Derived.Test.YtphgbbddecfdnaaAid
import Derived.Test.YtphgbbddecfdnaaFl
import Derived.WalkSpells
import Derived.LoopTactic
import Derived.Outline
import Derived.Deep.QuietTactic
import Derived.BigQuiet
import Derived.Defers
import Derived.Laws.Pointers
import Derived.Laws.LoneSync
import Derived.Laws.EntriesVeiled
import Derived.Deep.DeepCutAuto
import Derived.IntWalk
namespace Go.Proofs.Ytphgbbddecfdnaa.wl
open Go.ChangeShapes Go.WideShapes Go.ChangeAt Go.RowKit
open Go.ChangeMaps (open_string shut_string)
set_option linter.unusedVariables false
open Fl
theorem disable (w : World) : (callFunc 30 #[]).run Try.prog w = .ok (.value (.tuple #[])) w := run_call_mark0 Try.func30 (by kernel_rfl) (by kernel_rfl) (by kernel_rfl) .disable (by kernel_rfl) w
theorem enable (w : World) : (callFunc 32 #[]).run Try.prog w = .ok (.value (.tuple #[])) w := run_call_mark0 Try.func32 (by kernel_rfl) (by kernel_rfl) (by kernel_rfl) .enable (by kernel_rfl) w
theorem acquire (a : Addr) (w : World) : (callFunc 33 #[.pointer (some a)]).run Try.prog w = .ok (.value (.tuple #[])) w := run_call_marked Try.func33 (by kernel_rfl) (by kernel_rfl) (by kernel_rfl) .acquire (by kernel_rfl) a w
theorem releaseMerge (a : Addr) (w : World) : (callFunc 35 #[.pointer (some a)]).run Try.prog w = .ok (.value (.tuple #[])) w := run_call_marked Try.func35 (by kernel_rfl) (by kernel_rfl) (by kernel_rfl) .releaseMerge (by kernel_rfl) a w
set_option maxRecDepth 100000 in
theorem unlock_deferred (a : Addr) (u : FrameMode) (w : World) (hc : w.cell? a = some (.int .i32 1)) (hz : w.frozen? a = false) :
    CallsD Try.prog 25 #[.pointer (some a)] u w fun e u' w' => u' = u ∧ (e = .returned (.tuple #[]) ∧ w' = w.setCell a (.int .i32 0)) := by
  have hd := disable
  have he := enable
  have hr := releaseMerge
  have hcv := run_convert_to_unsafe (P := Try.prog) (src := 75) (dst := 79) Try.underlying75 Try.underlying79 (by kernel_rfl) hc
  have hadd := run_call_add (P := Try.prog) Try.func36 (by kernel_rfl) (by kernel_rfl) (by kernel_rfl) .i32 (by kernel_rfl) (y := -1) (s := 0) hc hz (by simp [go_sem]; rfl)
  go_enter_d Try.func25, Try.ntmps25
  go_wp2
  go_end0
  go_wp2
  go_end0
  exact ⟨rfl, rfl⟩
set_option maxRecDepth 100000 in
theorem lock_ (a : Addr) (w : World) (hc : w.cell? a = some (.int .i32 0)) (hz : w.frozen? a = false) :
    Calls Try.prog 24 #[.pointer (some a)] w fun e w' => e = .returned (.tuple #[]) ∧ w' = w.setCell a (.int .i32 1) := by
  have hd := disable
  have he := enable
  have ha := acquire
  have hcas := run_call_cas_hit (P := Try.prog) Try.func31 (by kernel_rfl) (by kernel_rfl) (by kernel_rfl) .i32 (by kernel_rfl) (y := 1) hc hz
  have h0' : (w.setCell a (.int .i32 1)).cell? a = some (.int .i32 1) := by simp [go_sem, hc]
  have hcv := run_convert_to_unsafe (P := Try.prog) (src := 75) (dst := 79) Try.underlying75 Try.underlying79 (by kernel_rfl) h0'
  go_enter Try.func24, Try.ntmps24
  go_wp2
  first | go_end0 | (simp only [Exit.inBlock, Exit.then]; refine bodyPost_ret (results_none rfl _ _ _) rfl ?_) | refine bodyPost_ret (results_none rfl _ _ _) rfl ?_
  go_wp2
  go_end0
  exact ⟨rfl, rfl⟩
structure Eff (w w' : World) (m h : Nat) (y : Bool) : Prop where
  at_ : w'.cell? ⟨h, 0, none⟩ = some (.bool y)
  cell : ∀ b o, b < w.heap.size → (b ≠ h ∨ o ≠ 0) → w'.cell? ⟨b, o, none⟩ = w.cell? ⟨b, o, none⟩
  frozen : ∀ b o, b < w.heap.size → w'.frozen? ⟨b, o, none⟩ = w.frozen? ⟨b, o, none⟩
  size : w.heap.size ≤ w'.heap.size
  below : ∀ B, B ≤ m → B ≤ h → B ≤ w.heap.size → Below B w w'
theorem set_same {w : World} {a : Addr} {u v : Value} (h : w.cell? a = some u) : (w.setCell a v).cell? a = some v := by simp [go_sem, h]
theorem set_other {w : World} {a p : Addr} {v : Value} (h : p ≠ a) : (w.setCell a v).cell? p = w.cell? p := World.cell?_setCell_other w a p v (fun e => h e.symm)
theorem size_set (w : World) (a : Addr) (v : Value) : (w.setCell a v).heap.size = w.heap.size := by simp [World.setCell]
theorem frozen_set (w : World) (a p : Addr) (v : Value) : (w.setCell a v).frozen? p = w.frozen? p := by simp
theorem frozen_al (w : World) (o : Obj) (p : Addr) (h : p.block < w.heap.size) : (w.alloc o).frozen? p = w.frozen? p := ((Below.refl _ _).alloc (Nat.le_refl _) o).frozen h
theorem ne_of {b o m : Nat} (h : ¬ (b = m ∧ o = 0)) : (⟨b, o, none⟩ : Addr) ≠ ⟨m, 0, none⟩ := fun e => h (by injection e with e1 e2; exact ⟨e1, e2⟩)
theorem eff_has (w : World) (m h : Nat) (x : Bool) (hm : w.cell? ⟨m, 0, none⟩ = some (.int .i32 0)) (hh : w.cell? ⟨h, 0, none⟩ = some (.bool x)) (hne : m ≠ h) :
    Eff w ((w.setCell ⟨m, 0, none⟩ (.int .i32 1)).setCell ⟨m, 0, none⟩ (.int .i32 0)) m h x := by
  have hall : ∀ b o, ((w.setCell ⟨m, 0, none⟩ (.int .i32 1)).setCell ⟨m, 0, none⟩ (.int .i32 0)).cell? ⟨b, o, none⟩ = w.cell? ⟨b, o, none⟩ := by
    intro b o
    by_cases e : b = m ∧ o = 0
    · obtain ⟨rfl, rfl⟩ := e
      rw [set_same (set_same hm), hm]
    · rw [set_other (ne_of e), set_other (ne_of e)]
  exact ⟨by rw [hall, hh], fun b o _ _ => hall b o, fun b o _ => by simp, by simp, fun B hB _ _ => ((Below.refl _ _).setCell hB _).setCell hB _⟩
theorem eff_add (w : World) (m h : Nat) (x : Bool) (o1 o2 : Obj) (hm : w.cell? ⟨m, 0, none⟩ = some (.int .i32 0)) (hh : w.cell? ⟨h, 0, none⟩ = some (.bool x)) (hne : m ≠ h) (lm : m < w.heap.size) (lh : h < w.heap.size) :
    Eff w (((((w.setCell ⟨m, 0, none⟩ (.int .i32 1)).setCell ⟨h, 0, none⟩ (.bool true)).alloc o1).alloc o2).setCell ⟨m, 0, none⟩ (.int .i32 0)) m h true := by
  have hmh : (⟨m, 0, none⟩ : Addr) ≠ ⟨h, 0, none⟩ := fun e => hne (by injection e)
  have hhm : (⟨h, 0, none⟩ : Addr) ≠ ⟨m, 0, none⟩ := fun e => hmh e.symm
  have hal : ∀ b o, b < w.heap.size → ((((w.setCell ⟨m, 0, none⟩ (.int .i32 1)).setCell ⟨h, 0, none⟩ (.bool true)).alloc o1).alloc o2).cell? ⟨b, o, none⟩ = ((w.setCell ⟨m, 0, none⟩ (.int .i32 1)).setCell ⟨h, 0, none⟩ (.bool true)).cell? ⟨b, o, none⟩ := by
    intro b o hb
    rw [World.cell?_alloc_lt _ _ _ (by simp; omega), World.cell?_alloc_lt _ _ _ (by simp; omega)]
  refine ⟨?_, fun b o hb hno => ?_, fun b o hb => ?_, by simp; omega, fun B hB hB2 hB3 => ?_⟩
  · rw [set_other hhm, hal _ _ lh, set_same (by rw [set_other hhm, hh])]
  · by_cases e : b = m ∧ o = 0
    · obtain ⟨rfl, rfl⟩ := e
      rw [set_same (u := .int .i32 1) (by rw [hal _ _ lm, set_other hmh, set_same hm]), hm]
    · rw [set_other (ne_of e), hal _ _ hb, set_other (ne_of (by omega)), set_other (ne_of e)]
  · rw [frozen_set, frozen_al _ _ _ (by simp; omega), frozen_al _ _ _ (by simp; omega), frozen_set, frozen_set]
  · exact (((((Below.refl _ _).setCell hB _).setCell hB2 _).alloc (by simp; omega) _).alloc (by simp; omega) _).setCell hB _
theorem eff_not (w : World) (m h : Nat) (x : Bool) (o1 o2 : Obj) (hh : w.cell? ⟨h, 0, none⟩ = some (.bool x)) (lh : h < w.heap.size) : Eff w ((w.alloc o1).alloc o2) m h x := by
  refine ⟨?_, fun b o hb hno => ?_, fun b o hb => ?_, by simp; omega, fun B hB hB2 hB3 => ?_⟩
  · rw [World.cell?_alloc_lt _ _ _ (by simp; omega), World.cell?_alloc_lt _ _ _ (by simp; omega), hh]
  · rw [World.cell?_alloc_lt _ _ _ (by simp; omega), World.cell?_alloc_lt _ _ _ (by simp; omega)]
  · rw [frozen_al _ _ _ (by simp; omega), frozen_al _ _ _ (by simp; omega)]
  · exact ((Below.refl _ _).alloc hB3 _).alloc (by simp; omega) _
/-- The wrap at l, its lock m, its mark h, its inner function's variable f; x: has it seen an error? -/
structure Wr (w : World) (l m h f : Nat) (x : Bool) : Prop where
  l0 : w.cell? ⟨l, 0, none⟩ = some (.func (Fn.func 23) #[] #[.pointer (some ⟨m, 0, none⟩), .pointer (some ⟨h, 0, none⟩), .pointer (some ⟨f, 0, none⟩)])
  l1 : w.cell? ⟨l, 1, none⟩ = some (.func (Fn.func 26) #[] #[.pointer (some ⟨m, 0, none⟩), .pointer (some ⟨h, 0, none⟩)])
  m0 : w.cell? ⟨m, 0, none⟩ = some (.int .i32 0)
  mz : w.frozen? ⟨m, 0, none⟩ = false
  h0 : w.cell? ⟨h, 0, none⟩ = some (.bool x)
  hz : w.frozen? ⟨h, 0, none⟩ = false
  f0 : w.cell? ⟨f, 0, none⟩ = some (.func (Fn.func 21) #[] #[])
theorem Wr.self {w w' : World} {l m h f : Nat} {x y : Bool} (W : Wr w l m h f x) (E : Eff w w' m h y) (hl : l ≠ h) (hm : m ≠ h) (hf : f ≠ h) : Wr w' l m h f y :=
  ⟨by rw [E.cell _ _ (lt_of_cell W.l0) (.inl hl), W.l0], by rw [E.cell _ _ (lt_of_cell W.l1) (.inl hl), W.l1], by rw [E.cell _ _ (lt_of_cell W.m0) (.inl hm), W.m0], by rw [E.frozen _ _ (lt_of_cell W.m0), W.mz], E.at_, by rw [E.frozen _ _ (lt_of_cell W.h0), W.hz], by rw [E.cell _ _ (lt_of_cell W.f0) (.inl hf), W.f0]⟩
theorem Wr.other {w w' : World} {l m h f m' h' : Nat} {x y : Bool} (W : Wr w l m h f x) (E : Eff w w' m' h' y) (hl : l ≠ h') (hm : m ≠ h') (hh : h ≠ h') (hf : f ≠ h') : Wr w' l m h f x :=
  ⟨by rw [E.cell _ _ (lt_of_cell W.l0) (.inl hl), W.l0], by rw [E.cell _ _ (lt_of_cell W.l1) (.inl hl), W.l1], by rw [E.cell _ _ (lt_of_cell W.m0) (.inl hm), W.m0], by rw [E.frozen _ _ (lt_of_cell W.m0), W.mz], by rw [E.cell _ _ (lt_of_cell W.h0) (.inl hh), W.h0], by rw [E.frozen _ _ (lt_of_cell W.h0), W.hz], by rw [E.cell _ _ (lt_of_cell W.f0) (.inl hf), W.f0]⟩
theorem has26 (m h : Nat) (x : Bool) (w : World) (hm : w.cell? ⟨m, 0, none⟩ = some (.int .i32 0)) (fm : w.frozen? ⟨m, 0, none⟩ = false) (hh : w.cell? ⟨h, 0, none⟩ = some (.bool x)) (hne : m ≠ h) :
    Calls Try.prog 26 #[.pointer (some ⟨m, 0, none⟩), .pointer (some ⟨h, 0, none⟩)] w fun e w' => e = .returned (.bool x) ∧ w' = (w.setCell ⟨m, 0, none⟩ (.int .i32 1)).setCell ⟨m, 0, none⟩ (.int .i32 0) := by
  have hne' : ¬ h = m := fun e => hne e.symm
  go_enter_defers Try.func26, Try.ntmps26
  go_wp2_with (go_at_call 24; refine (lock_ _ _ hm fm).mono ?_; rintro e w' ⟨rfl, rfl⟩)
  refine leaves_cons (f := 25) (args := #[.pointer (some ⟨m, 0, none⟩)]) (by simp) (by simp [go_sem]) ?_
  refine (unlock_deferred ⟨m, 0, none⟩ .returning _ ?_ ?_).mono ?_
  · simp [go_sem, hm]
  · simp [fm]
  rintro e u' w'' ⟨rfl, rfl, rfl⟩
  exact ⟨_, results_tmp rfl _ _ _, rfl, rfl⟩
theorem has14 (l m h f : Nat) (x : Bool) (w : World) (W : Wr w l m h f x) (hne : m ≠ h) : Calls Try.prog 14 #[.pointer (some ⟨l, 0, none⟩)] w fun e w' => e = .returned (.bool x) ∧ Eff w w' m h x := by
  have l1 := W.l1
  have W' := Lib.hid W
  clear W
  go_enter Try.func14, Try.ntmps14
  go_wp2_with (go_at_call 26; refine (has26 m h x _ W'.out.m0 W'.out.mz W'.out.h0 hne).mono ?_; rintro e w' ⟨rfl, rfl⟩)
  go_ret
  exact ⟨rfl, eff_has w m h x W'.out.m0 W'.out.h0 hne⟩
set_option maxRecDepth 100000 in
theorem add_err (m h f : Nat) (x : Bool) (w : World) (hm : w.cell? ⟨m, 0, none⟩ = some (.int .i32 0)) (fm : w.frozen? ⟨m, 0, none⟩ = false) (hh : w.cell? ⟨h, 0, none⟩ = some (.bool x)) (fh : w.frozen? ⟨h, 0, none⟩ = false) (hf : w.cell? ⟨f, 0, none⟩ = some (.func (Fn.func 21) #[] #[])) (hne : m ≠ h) (hnf : m ≠ f) (hhf : h ≠ f)
   (lm : m < w.heap.size) (lh : h < w.heap.size) (lf : f < w.heap.size) :
    Calls Try.prog 23 #[.agg #[.slice none 0 0, .string ⟨#[]⟩, .nilIface, .pointer none, .string ⟨#[]⟩, .bool false, .int .u8 0, .int .u8 0], .pointer (some ⟨m, 0, none⟩), .pointer (some ⟨h, 0, none⟩), .pointer (some ⟨f, 0, none⟩)] w fun e w' => e = .returned (.tuple #[]) ∧ Eff w w' m h true := by
  have hne' : ¬ h = m := fun e => hne e.symm
  have hnf' : ¬ f = m := fun e => hnf e.symm
  have hhf' : ¬ f = h := fun e => hhf e.symm
  have HE := fun o1 o2 => Lib.hid (eff_add w m h x o1 o2 hm hh hne lm lh)
  go_enter_defers Try.func23, Try.ntmps23
  go_wp2_with (first | (go_at_call 24; refine (lock_ _ _ (by go_simp) (by go_simp)).mono ?_; rintro e w' ⟨rfl, rfl⟩) | (go_at_call 21; go_in))
  go_end0
  go_wp2_with fail
  refine leaves_cons (f := 25) (args := #[.pointer (some ⟨m, 0, none⟩)]) (by simp) (by simp [go_sem]) ?_
  refine (unlock_deferred ⟨m, 0, none⟩ .returning _ ?_ ?_).mono ?_
  · go_simp
  · go_simp
  rintro e u' w'' ⟨rfl, rfl, rfl⟩
  exact ⟨_, results_none rfl _ _ _, rfl, (HE _ _).out⟩
set_option maxRecDepth 100000 in
theorem add_not (m h f : Nat) (x : Bool) (k : Int) (w : World) (hk : (k == 0) = false) (hh : w.cell? ⟨h, 0, none⟩ = some (.bool x)) (hf : w.cell? ⟨f, 0, none⟩ = some (.func (Fn.func 21) #[] #[])) (lh : h < w.heap.size) (lf : f < w.heap.size) :
    Calls Try.prog 23 #[.agg #[.slice none 0 0, .string ⟨#[]⟩, .nilIface, .pointer none, .string ⟨#[]⟩, .bool false, .int .u8 k, .int .u8 0], .pointer (some ⟨m, 0, none⟩), .pointer (some ⟨h, 0, none⟩), .pointer (some ⟨f, 0, none⟩)] w fun e w' => e = .returned (.tuple #[]) ∧ Eff w w' m h x := by
  have HE := fun o1 o2 => Lib.hid (eff_not w m h x o1 o2 hh lh)
  go_enter_defers Try.func23, Try.ntmps23
  go_wp2_with (go_at_call 21; go_in)
  go_end0
  go_wp2_with fail
  exact ⟨_, results_none rfl _ _ _, rfl, (HE _ _).out⟩
def yes (x : Bool) (k : Int) : Bool := if k = 0 then true else x
set_option maxRecDepth 100000 in
theorem add15 (l m h f : Nat) (x : Bool) (k : Int) (w : World) (W : Wr w l m h f x) (hne : m ≠ h) (hnf : m ≠ f) (hhf : h ≠ f) :
    Calls Try.prog 15 #[.pointer (some ⟨l, 0, none⟩), .int .u8 k] w fun e w' => e = .returned (.tuple #[]) ∧ Eff w w' m h (yes x k) := by
  have l0 := W.l0
  have W' := Lib.hid W
  clear W
  by_cases hk : k = 0
  · subst hk
    go_enter Try.func15, Try.ntmps15
    go_wp2_with (go_at_call 23; refine (add_err m h f x _ W'.out.m0 W'.out.mz W'.out.h0 W'.out.hz W'.out.f0 hne hnf hhf (lt_of_cell W'.out.m0) (lt_of_cell W'.out.h0) (lt_of_cell W'.out.f0)).mono ?_; rintro e w' ⟨rfl, E⟩)
    go_end0
    exact ⟨rfl, E⟩
  · have H := Lib.hid (show yes x k = x by simp [yes, hk])
    have hk2 : (k == 0) = false := by simpa using hk
    go_enter Try.func15, Try.ntmps15
    go_wp2_with (go_at_call 23; refine (add_not m h f x k _ hk2 W'.out.h0 W'.out.f0 (lt_of_cell W'.out.h0) (lt_of_cell W'.out.f0)).mono ?_; rintro e w' ⟨rfl, E⟩)
    go_end0
    exact ⟨rfl, by rw [H.out]; exact E⟩
def Pair (w : World) (e : Ending) (w' : World) : Prop :=
  ∃ l m h f l' m' h' f' : Nat, e = .returned (.tuple #[.pointer (some ⟨l, 0, none⟩), .pointer (some ⟨l', 0, none⟩)]) ∧ Wr w' l m h f false ∧ Wr w' l' m' h' f' false ∧ Below w.heap.size w w' ∧
    (w.heap.size ≤ m ∧ m < h ∧ h < f ∧ f < l ∧ l < m' ∧ m' < h' ∧ h' < f' ∧ f' < l')
theorem inner18 (w : World) : Calls Try.prog 18 #[] w fun e w' => e = .returned (.agg #[.func (Fn.func 21) #[] #[], .func (Fn.func 22) #[] #[], .nilFunc, .nilFunc, .int .i8 0, .map none]) ∧ w' = w.alloc (.cells #[.func (Fn.func 21) #[] #[], .func (Fn.func 22) #[] #[], .nilFunc, .nilFunc, .int .i8 0, .map none] 54) := by
  go_enter Try.func18, Try.ntmps18
  go_wp2
  refine bodyPost_ret (v := .agg #[.func (Fn.func 21) #[] #[], .func (Fn.func 22) #[] #[], .nilFunc, .nilFunc, .int .i8 0, .map none]) (by simp [results, Try.results18, go_sem]) rfl ⟨rfl, rfl⟩
def logV (m h f : Nat) : Array Value := #[.func (Fn.func 23) #[] #[.pointer (some ⟨m, 0, none⟩), .pointer (some ⟨h, 0, none⟩), .pointer (some ⟨f, 0, none⟩)], .func (Fn.func 26) #[] #[.pointer (some ⟨m, 0, none⟩), .pointer (some ⟨h, 0, none⟩)], .nilFunc, .nilFunc, .int .i8 0, .map none]
structure Wl (w : World) (m h f : Nat) : Prop where
  m0 : w.cell? ⟨m, 0, none⟩ = some (.int .i32 0)
  mz : w.frozen? ⟨m, 0, none⟩ = false
  h0 : w.cell? ⟨h, 0, none⟩ = some (.bool false)
  hz : w.frozen? ⟨h, 0, none⟩ = false
  f0 : w.cell? ⟨f, 0, none⟩ = some (.func (Fn.func 21) #[] #[])
def Wrap (w : World) (e : Ending) (w' : World) : Prop := ∃ m h f : Nat, e = .returned (.agg (logV m h f)) ∧ Wl w' m h f ∧ Below w.heap.size w w' ∧ w.heap.size ≤ m ∧ m < h ∧ h < f ∧ f < w'.heap.size
set_option maxRecDepth 100000 in
set_option maxHeartbeats 2000000 in
theorem wrap19 (w : World) : Calls Try.prog 19 #[.agg #[.func (Fn.func 21) #[] #[], .func (Fn.func 22) #[] #[], .nilFunc, .nilFunc, .int .i8 0, .map none]] w (Wrap w) := by
  have hmf : ∀ (fn : Fn) (first cap : Array Value) (w : World), (Instr.makeFunc fn first cap).run Try.prog w = .ok (.func fn first cap) w := fun _ _ _ _ => rfl
  go_enter Try.func19, Try.ntmps19
  go_wp2
  refine bodyPost_ret (v := .agg (logV (w.heap.size + 1 + 1) (w.heap.size + 1 + 1 + 1) (w.heap.size + 1 + 1 + 1 + 1))) (by simp [results, Try.results19, go_sem, logV]) rfl ?_
  refine ⟨_, _, _, rfl, ⟨by go_simp, by go_simp, by go_simp, by go_simp, by go_simp⟩, ?_, by omega, by omega, by omega, by simp⟩
  exact (((((Below.refl _ _).alloc (Nat.le_refl _) _).alloc (by simp) _).alloc (by simp; omega) _).alloc (by simp; omega) _).alloc (by simp; omega) _
def inV : Array Value := #[.func (Fn.func 21) #[] #[], .func (Fn.func 22) #[] #[], .nilFunc, .nilFunc, .int .i8 0, .map none]
theorem Wr.mk' {w : World} {m h f l : Nat} (W : Wl w m h f) (l0 : w.cell? ⟨l, 0, none⟩ = (logV m h f)[0]?) (l1 : w.cell? ⟨l, 1, none⟩ = (logV m h f)[1]?) : Wr w l m h f false :=
  ⟨l0, l1, W.m0, W.mz, W.h0, W.hz, W.f0⟩
theorem Wl.below {w w' : World} {m h f B : Nat} (W : Wl w m h f) (b : Below B w w') (hm : m < B) (hh : h < B) (hf : f < B) : Wl w' m h f :=
  ⟨by rw [b.cell (p := ⟨m, 0, none⟩) hm, W.m0], by rw [b.frozen (p := ⟨m, 0, none⟩) hm, W.mz], by rw [b.cell (p := ⟨h, 0, none⟩) hh, W.h0], by rw [b.frozen (p := ⟨h, 0, none⟩) hh, W.hz], by rw [b.cell (p := ⟨f, 0, none⟩) hf, W.f0]⟩
theorem Wr.below {w w' : World} {l m h f B : Nat} {x : Bool} (W : Wr w l m h f x) (b : Below B w w') (hl : l < B) (hm : m < B) (hh : h < B) (hf : f < B) : Wr w' l m h f x :=
  ⟨by rw [b.cell (p := ⟨l, 0, none⟩) hl, W.l0], by rw [b.cell (p := ⟨l, 1, none⟩) hl, W.l1], by rw [b.cell (p := ⟨m, 0, none⟩) hm, W.m0], by rw [b.frozen (p := ⟨m, 0, none⟩) hm, W.mz], by rw [b.cell (p := ⟨h, 0, none⟩) hh, W.h0], by rw [b.frozen (p := ⟨h, 0, none⟩) hh, W.hz], by rw [b.cell (p := ⟨f, 0, none⟩) hf, W.f0]⟩
theorem wrap_alloc {w : World} {m h f : Nat} {t : TypeId} (W : Wl w m h f) (hm : m < w.heap.size) (hh : h < w.heap.size) (hf : f < w.heap.size) : Wr (w.alloc (.cells (logV m h f) t)) w.heap.size m h f false :=
  Wr.mk' (W.below ((Below.refl _ _).alloc (Nat.le_refl _) _) hm hh hf) (by simp [go_sem, logV]) (by simp [go_sem, logV])
set_option maxRecDepth 100000 in
set_option maxHeartbeats 2000000 in
theorem pair (w : World) : Calls Try.prog 13 #[] w (Pair w) := by
  go_enter Try.func13, Try.ntmps13
  go_wp2_with fail
  refine (inner18 _).mono ?_
  rintro e w' ⟨rfl, rfl⟩
  go_wp2_with fail
  refine (wrap19 _).mono ?_
  rintro e w1 ⟨m, h, f, rfl, h1⟩
  have H1 := Lib.hid h1
  have hlt : w.heap.size + 1 < w1.heap.size := by have := h1.2.2; simp at this; omega
  have hin : ∀ i, i < 6 → w1.cell? ⟨w.heap.size + 1, i, none⟩ = inV[i]? := fun i hi => by
    rw [h1.2.1.cell (p := ⟨w.heap.size + 1, i, none⟩) (by simp)]
    simp [go_sem, inV]
  clear h1
  have c0 := hin 0 (by omega)
  have c1 := hin 1 (by omega)
  have c2 := hin 2 (by omega)
  have c3 := hin 3 (by omega)
  have c4 := hin 4 (by omega)
  have c5 := hin 5 (by omega)
  clear hin
  simp [inV] at c0 c1 c2 c3 c4 c5
  unfold logV
  go_wp2_with fail
  refine (wrap19 _).mono ?_
  rintro e w2 ⟨m', h', f', rfl, h2⟩
  have H2 := Lib.hid h2
  clear h2
  have hl1 := Lib.hid c0
  unfold logV
  go_wp2_with fail
  go_ret2
  obtain ⟨W1, b1, o1, o2, o3, o4⟩ := H1.out
  obtain ⟨W2, b2, p1, p2, p3, p4⟩ := H2.out
  simp at b1 o1 b2 p1
  refine ⟨w1.heap.size, m, h, f, w2.heap.size, m', h', f', rfl, ?_, ?_, ?_, by omega⟩
  · exact (wrap_alloc (t := 54) W1 (by omega) (by omega) (by omega)).below (b2.alloc (by omega) _) (by omega) (by omega) (by omega) (by omega)
  · exact wrap_alloc W2 (by omega) (by omega) (by omega)
  · refine Below.trans ?_ (Below.trans (b1.mono (by omega)) (Below.trans ?_ ((b2.mono (by omega)).alloc (by omega) _)))
    · exact ((Below.refl _ _).alloc (Nat.le_refl _) _).alloc (by simp) _
    · exact (Below.refl _ _).alloc (by omega) _

end Go.Proofs.Ytphgbbddecfdnaa.wl
