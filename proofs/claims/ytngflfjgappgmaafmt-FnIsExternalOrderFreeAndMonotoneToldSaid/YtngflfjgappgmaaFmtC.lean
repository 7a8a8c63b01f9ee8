/- Contracts of functions that the law of this seat reaches, and plain facts; no condition. -/
import Derived.Test.YtngflfjgappgmaaFmtProg
import Derived.WalkKit
import Derived.ProofKit
import Derived.OpenShut
import Derived.ShutString
import Derived.Test.YtngflfjgappgmaaFmtAid
import Derived.Test.YtngflfjgappgmaaFmtA
import Derived.ArgAppend
import Derived.WalkSpells
import Derived.LoopTactic
import Derived.IntWalk
import Derived.Outline
import Derived.Deep.QuietTactic
import Derived.BigQuiet
import Derived.Deep.RegionHeld3
import Derived.Deep.RegionLaw
import Derived.StillTailTactics
namespace Go.Proofs.YtngflfjgappgmaaFmt.Aux
open Go.ChangeShapes Go.WideShapes Go.ChangeAt Go.RowKit
open Go.ChangeMaps (open_string shut_string)
set_option linter.unusedVariables false
open Fl Str Pb Qd Mp PlainAid Aux
/-- While the patterns are asked. -/
def Ir (w wr : World) : Prop := Below w.heap.size w wr ∧ wr.heap[w.heap.size]? = some (.cells #[.pointer none, .pointer none, .pointer none, .int .u8 0] 40 (0, 0))
theorem Ir.alloc {w wr : World} (h : Ir w wr) (o : Obj) : Ir w (wr.alloc o) := ⟨h.1.alloc h.1.size _, (Below.heap_alloc _ _ _ (lt_of_blk h.2)).trans h.2⟩
theorem Ir.drewN {w wr : World} (h : Ir w wr) (n : Nat) : Ir w (wr.drewN n) := ⟨below_drewN h.1 n, h.2⟩
theorem Ir.start (w : World) (o : Obj) : Ir w ((w.alloc (.cells #[.pointer none, .pointer none, .pointer none, .int .u8 0] 40)).alloc o) :=
  ⟨by (repeat' (first | exact Below.refl _ _ | refine Below.drewR ?_ | (refine Below.alloc ?_ (by simp; omega) _) | (refine Below.alloc ?_ (by simp) _) | (refine Below.setCell ?_ (by simp; omega) _) | (refine Below.setCell ?_ (by simp) _))), by rw [Below.heap_alloc _ _ _ (by simp)]; exact heap_alloc_new _ _⟩
theorem Ir.cell {w wr : World} (h : Ir w wr) : wr.cell? ⟨w.heap.size, 2, none⟩ = some (.pointer none) := by rw [cell_of_row wr _ 2 _ _ _ h.2]; rfl
theorem fit_no1 {s p q : ByteArray} (h : ¬ p.size + q.size ≤ s.size) : fit s p q = false := by unfold fit; rw [if_neg h]
theorem fit_no2 {s p q : ByteArray} (h : preB s p = false) : fit s p q = false := by unfold fit; rw [h]; simp
theorem fit_no3 {s p q : ByteArray} (h : sufB s q = false) : fit s p q = false := by unfold fit; rw [h]; simp
theorem fit_yes {s p q : ByteArray} (h : p.size + q.size ≤ s.size) (h1 : preB s p = true) (h2 : sufB s q = true) : fit s p q = true := by unfold fit; rw [if_pos h, h1, h2]; rfl
def qV : Value := .agg #[.pointer none, .pointer none, .pointer none, .int .u8 0]
def isP (b : Bool) (w : World) (e : Ending) (w' : World) : Prop := e = .returned (.bool b) ∧ Below w.heap.size w w'
set_option maxHeartbeats 4000000 in
set_option maxRecDepth 100000 in
theorem isX (m : Option Nat) (pa : Option Addr) (n pc : Nat) (ex : Bool) (s : ByteArray) (K : Int) (P S : Nat → ByteArray) (w : World) (hm : Mq w (.map m) ex s) (hp : Pt w pa n P S) (hn : n ≤ 2097152) (hs : s.size ≤ 1048576) (hP : ∀ i, i < n → (P i).size ≤ 1048576) (hS : ∀ i, i < n → (S i).size ≤ 1048576) :
    Calls Tryf.prog 10 #[.agg #[.pointer none, .pointer none, .pointer none, .int .u8 0], .agg #[.map m, .slice pa n pc], .string s, .int .u8 K] w (isP (isx K ex s P S n) w) := by
  by_cases hk0 : K = 0
  · subst hk0
    have H := Lib.hid (show isx 0 ex s P S n = false by unfold isx; rw [if_pos rfl])
    go_enter Tryf.func10, Tryf.ntmps10
    go_wp2_with fail
    go_ret
    exact ⟨by rw [H.out]; rfl, by (repeat' (first | exact Below.refl _ _ | refine Below.drewR ?_ | (refine Below.alloc ?_ (by simp; omega) _) | (refine Below.alloc ?_ (by simp) _) | (refine Below.setCell ?_ (by simp; omega) _) | (refine Below.setCell ?_ (by simp) _)))⟩
  have e0 : (K == 0) = false := by simpa using hk0
  have HL := Lib.hid ((hm.below (((Below.refl w.heap.size w).alloc (Nat.le_refl _) (.cells #[.pointer none, .pointer none, .pointer none, .int .u8 0] 40)).alloc (by simp) (.cells #[.map m, .slice pa n pc] 30))).look (by unfold maxLen; omega))
  have HI := Lib.hid (Ir.start w (.cells #[.map m, .slice pa n pc] 30))
  have H1 := Lib.hid hp
  have HP := Lib.hid hP
  have HS := Lib.hid hS
  have HX : Hid (isx K ex s P S n = (ex || anyFit s P S n)) := Lib.hid (by unfold isx; rw [if_neg hk0])
  clear hm hp hP hS hk0
  cases ex
  · go_enter Tryf.func10, Tryf.ntmps10
    go_wp2_with (at_lookup; refine wpList_look rfl _ _ 27 true rfl rfl rfl HL.out ?_)
    go_loopw [12, 26] (fun b i wr => ∃ k : Nat, k ≤ n ∧ i = .int .i64 k ∧ Hid (Ir w wr ∧ anyFit s P S k = false)) (fun _ i _ => n - (intOf i).toNat)
    case atStart => exact ⟨0, Nat.zero_le _, rfl, Lib.hid ⟨HI.out, rfl⟩⟩
    case round =>
      obtain ⟨k, hk, rfl, HR⟩ := hrel
      by_cases hlt : k < n
      · obtain ⟨b, rfl, hb, x0, x1⟩ := H1.out.below HR.out.1.1 k hlt
        have c2 := HR.out.1.cell
        have hl := lt_of_blk HR.out.1.2
        have p1 := HP.out k hlt
        have p2 := HS.out k hlt
        have hk2 : (k : Int) < (n : Int) := by omega
        have e1 : IntKind.i64.wrap (((P k).size : Int) + ((S k).size : Int)) = ((P k).size : Int) + ((S k).size : Int) := IntWalk.i64_in _ (by omega)
        by_cases hf : (P k).size + (S k).size ≤ s.size
        · have hf2 : ((P k).size : Int) + ((S k).size : Int) ≤ (s.size : Int) := by omega
          have HC1 := Lib.hid (fun (v : Bool) (w : World) (hv : preB s (P k) = v) => hpf s (P k) v w (by unfold maxLen; omega) (by omega) hv)
          have HC2 := Lib.hid (fun (v : Bool) (w : World) (hv : sufB s (S k) = v) => hsf s (S k) v w (by unfold maxLen; omega) (by omega) hv)
          have HF := Lib.hid hf
          clear hf
          cases hpre : preB s (P k)
          · have HN : Hid (anyFit s P S (k + 1) = false) := Lib.hid (by simp only [anyFit]; rw [HR.out.2, fit_no2 hpre]; rfl)
            go_wp2_with fail
            refine (HC1.out false _ hpre).mono ?_
            rintro e w1 ⟨rfl, rfl⟩
            go_wp2_with fail
            go_roundw
            case rel => exact ⟨k + 1, by omega, by go_num, Lib.hid ⟨HR.out.1.alloc _, HN.out⟩⟩
            case measure => simp [intOf]; omega
          · cases hsuf : sufB s (S k)
            · have HN : Hid (anyFit s P S (k + 1) = false) := Lib.hid (by simp only [anyFit]; rw [HR.out.2, fit_no3 hsuf]; rfl)
              go_wp2_with fail
              refine (HC1.out true _ hpre).mono ?_
              rintro e w1 ⟨rfl, rfl⟩
              go_wp2_with fail
              refine (HC2.out false _ hsuf).mono ?_
              rintro e w1 ⟨rfl, rfl⟩
              go_wp2_with fail
              go_roundw
              case rel => exact ⟨k + 1, by omega, by go_num, Lib.hid ⟨HR.out.1.alloc _, HN.out⟩⟩
              case measure => simp [intOf]; omega
            · have HN : Hid (isx K false s P S n = true) := Lib.hid (by rw [HX.out, Bool.false_or, any_iff]; exact ⟨k, hlt, fit_yes HF.out hpre hsuf⟩)
              go_wp2_with fail
              refine (HC1.out true _ hpre).mono ?_
              rintro e w1 ⟨rfl, rfl⟩
              go_wp2_with fail
              refine (HC2.out true _ hsuf).mono ?_
              rintro e w1 ⟨rfl, rfl⟩
              go_wp2_with fail
              go_ret
              exact ⟨by rw [HN.out]; rfl, (HR.out.1.alloc _).1⟩
        · have HN : Hid (anyFit s P S (k + 1) = false) := Lib.hid (by simp only [anyFit]; rw [HR.out.2, fit_no1 hf]; rfl)
          have hf2 : ¬ ((P k).size : Int) + ((S k).size : Int) ≤ (s.size : Int) := by omega
          clear hf
          go_wp2_with fail
          go_roundw
          case rel => exact ⟨k + 1, by omega, by go_num, Lib.hid ⟨HR.out.1.alloc _, HN.out⟩⟩
          case measure => simp [intOf]; omega
      · obtain rfl : k = n := by omega
        have hk2 : ¬ (k : Int) < (k : Int) := by omega
        have HN : Hid (isx K false s P S k = false) := Lib.hid (by rw [HX.out, HR.out.2]; rfl)
        go_wp2_with fail
        go_ret
        exact ⟨by rw [HN.out]; rfl, HR.out.1.1⟩
  · have HN : Hid (isx K true s P S n = true) := Lib.hid (by rw [HX.out]; rfl)
    go_enter Tryf.func10, Tryf.ntmps10
    go_wp2_with (at_lookup; refine wpList_look rfl _ _ 27 true rfl rfl rfl HL.out ?_)
    go_ret
    exact ⟨by rw [HN.out]; rfl, HI.out.1⟩
theorem askX (m : Option Nat) (pa : Option Addr) (n pc : Nat) (ex : Bool) (s : ByteArray) (K : Int) (P S : Nat → ByteArray) (w : World) (hm : Mq w (.map m) ex s) (hp : Pt w pa n P S) (hn : n ≤ 2097152) (hs : s.size ≤ 1048576) (hP : ∀ i, i < n → (P i).size ≤ 1048576) (hS : ∀ i, i < n → (S i).size ≤ 1048576) :
    Calls Tryf.prog 6 #[.agg #[.map m, .slice pa n pc], .string s, .int .u8 K] w (isP (isx K ex s P S n) w) := by
  have HB : Hid (Below w.heap.size w (w.alloc (.cells #[.map m, .slice pa n pc] 30))) := Lib.hid (by (repeat' (first | exact Below.refl _ _ | refine Below.drewR ?_ | (refine Below.alloc ?_ (by simp; omega) _) | (refine Below.alloc ?_ (by simp) _) | (refine Below.setCell ?_ (by simp; omega) _) | (refine Below.setCell ?_ (by simp) _))))
  have HC := Lib.hid (isX m pa n pc ex s K P S _ (hm.below HB.out) (hp.below HB.out) hn hs hP hS)
  clear hm hp hP hS
  go_enter Tryf.func6, Tryf.ntmps6
  go_wp2_with fail
  refine HC.out.mono ?_
  rintro e w1 ⟨rfl, hb⟩
  have HB2 := Lib.hid (HB.out.trans (hb.mono HB.out.size))
  clear hb
  go_wp2_with fail
  go_ret
  exact ⟨rfl, HB2.out⟩
theorem zeqv (a b : ByteArray) (v : Bool) (w : World) (ha : a.size ≤ 1048576) (hb : b.size ≤ 1048576) (hv : eqB a b = v) : Calls Tryf.prog 11 #[.string a, .string b] w fun e w' => e = .returned (.bool v) ∧ ∃ n, w' = w.drewN n := by rw [← hv]; exact zeq a b w ha hb
set_option maxRecDepth 100000 in
theorem spl (s p q : ByteArray) (w : World) (hs : s.size ≤ 1048576) (hp : p.size ≤ 1048576) (hq : q.size ≤ 1048576) : Calls Tryf.prog 9 #[.string s, .string p, .string q] w fun e w' => e = .returned (.bool (fit s p q)) ∧ ∃ n, w' = w.drewN n := by
  by_cases h1 : (s.size : Int) < (p.size : Int)
  · have H := Lib.hid (show fit s p q = false from fit_no1 (by omega))
    go_enter Tryf.func9, Tryf.ntmps9
    go_wp2_with fail
    go_ret
    exact ⟨by rw [H.out]; rfl, 0, rfl⟩
  have e1 : IntKind.i64.wrap ((s.size : Int) - (p.size : Int)) = (s.size : Int) - (p.size : Int) := IntWalk.i64_in _ (by omega)
  by_cases h2 : (s.size : Int) - (p.size : Int) < (q.size : Int)
  · have H := Lib.hid (show fit s p q = false from fit_no1 (by omega))
    go_enter Tryf.func9, Tryf.ntmps9
    go_wp2_with fail
    go_ret
    exact ⟨by rw [H.out]; rfl, 0, rfl⟩
  have e2 : IntKind.i64.wrap ((s.size : Int) - (q.size : Int)) = (s.size : Int) - (q.size : Int) := IntWalk.i64_in _ (by omega)
  have E1 : Hid (preB s p = eqB (s.extract 0 p.size) p) := Lib.hid (by unfold preB; rw [if_pos (by omega)])
  have E2 : Hid (sufB s q = eqB (s.extract (s.size - q.size) s.size) q) := Lib.hid (by unfold sufB; rw [if_pos (by omega)])
  have hz1 : (s.extract 0 p.size).size ≤ 1048576 := by simp [ByteArray.size_extract]; omega
  have hz2 : (s.extract (s.size - q.size) s.size).size ≤ 1048576 := by simp [ByteArray.size_extract]; omega
  have HC1 := Lib.hid (fun (v : Bool) (w : World) hv => zeqv (s.extract 0 p.size) p v w hz1 hp hv)
  have HC2 := Lib.hid (fun (v : Bool) (w : World) hv => zeqv (s.extract (s.size - q.size) s.size) q v w hz2 hq hv)
  have hpq : p.size ≤ s.size := by omega
  have hqs : q.size ≤ s.size := by omega
  clear hz1 hz2
  cases hv1 : eqB (s.extract 0 p.size) p
  · have H := Lib.hid (show fit s p q = false from fit_no2 (by rw [E1.out]; exact hv1))
    go_enter Tryf.func9, Tryf.ntmps9
    go_wp2_with fail
    refine (HC1.out false _ hv1).mono ?_
    rintro e w1 ⟨rfl, n, rfl⟩
    go_wp2_with fail
    go_ret
    exact ⟨by rw [H.out]; rfl, n, rfl⟩
  cases hv2 : eqB (s.extract (s.size - q.size) s.size) q
  · have H := Lib.hid (show fit s p q = false from fit_no3 (by rw [E2.out]; exact hv2))
    go_enter Tryf.func9, Tryf.ntmps9
    go_wp2_with fail
    refine (HC1.out true _ hv1).mono ?_
    rintro e w1 ⟨rfl, n, rfl⟩
    go_wp2_with fail
    refine (HC2.out false _ hv2).mono ?_
    rintro e w1 ⟨rfl, n2, rfl⟩
    go_wp2_with fail
    go_ret
    exact ⟨by rw [H.out]; rfl, n + n2, rfl⟩
  · have H := Lib.hid (show fit s p q = true from fit_yes (by omega) (by rw [E1.out]; exact hv1) (by rw [E2.out]; exact hv2))
    go_enter Tryf.func9, Tryf.ntmps9
    go_wp2_with fail
    refine (HC1.out true _ hv1).mono ?_
    rintro e w1 ⟨rfl, n, rfl⟩
    go_wp2_with fail
    refine (HC2.out true _ hv2).mono ?_
    rintro e w1 ⟨rfl, n2, rfl⟩
    go_wp2_with fail
    go_ret
    exact ⟨by rw [H.out]; rfl, n + n2, rfl⟩
end Go.Proofs.YtngflfjgappgmaaFmt.Aux
