/- A write through Get on a copy of the map of symbols lands in one shared cell. No condition. -/
import Derived.Test.YtkkhfhbmcdpboaaRows
import Derived.WalkKit
import Derived.ProofKit
import Derived.OpenShut
import Derived.ShutString
import Derived.Test.YtkkhfhbmcdpboaaFacts
import Derived.Test.YtkkhfhbmcdpboaaAid
import Derived.Test.YtkkhfhbmcdpboaaFl
import Derived.Test.YtkkhfhbmcdpboaaPb
import Derived.Test.YtkkhfhbmcdpboaaQd
import Derived.WalkSpells
import Derived.LoopTactic
import Derived.IntWalk
import Derived.Outline
import Derived.Deep.QuietTactic
import Derived.BigQuiet
import Derived.Deep.RegionHeld3
import Derived.StillTailTactics
import Derived.LaidEqlPtr
namespace Go.Proofs.Ytkkhfhbmcdpboaa.fnGetWritesLandInOneSharedCell
open Go.ChangeShapes Go.WideShapes Go.ChangeAt Go.RowKit
open Go.ChangeMaps (open_string shut_string)
set_option linter.unusedVariables false

theorem own : ownKnob Try.prog.godebug = none := by kernel_rfl
theorem laidOut : laidOutB Try.prog = true := by kernel_rfl

open Fl Pb Qd
theorem intInfo : (Try.prog.info? 3).map (fun i => (i.zero, i.size, i.bytes)) = some (some (.int .i64 0), 1, 8) := by kernel_rfl
/-- make([]int, 0, c). -/
theorem mk0 (c : Nat) (hc : c ≤ 1048577) (w : World) : (Instr.makeSlice 28 (.int .i64 0) (.int .i64 c)).run Try.prog w = .ok (.slice (some ⟨w.heap.size, 0, none⟩) 0 c) (w.alloc (.cells (madeCells #[.int .i64 0] c) 3)) := by
  obtain ⟨i0, hi, hz0, hz1, hz2⟩ := info_parts intInfo
  have h := run_make (P := Try.prog) w 28 3 i0 _ Try.underlying28 hi hz0 .i64 .i64 0 (c : Int) (Int.le_refl _) (by omega) (by rw [hz2]; omega) (by omega)
  rw [hz1] at h
  simpa [Value.cells] using h
theorem own0 (B c : Nat) (hc : c ≤ 1048577) (w : World) (hB : B ≤ w.heap.size) : (w.alloc (.cells (madeCells #[.int .i64 0] c) 3)).ownsRow B 3 1 (.slice (some ⟨w.heap.size, 0, none⟩) 0 c) 0 [] :=
  ⟨rfl, .inr ⟨w.heap.size, c, _, rfl, hB, heap_alloc_new _ _, Nat.zero_le _, by unfold maxLen; omega, by rw [size_madeCells]; simp, by simp⟩⟩
/-- What is counted so far. -/
def Cnt (B : Nat) (w wr : World) (k : Nat) (v : Value) (pos : Int) : Prop :=
  ∃ C : List Int, wr.ownsRow B 3 1 v C.length (C.map (Value.int .i64)) ∧ (∀ c ∈ C, 0 ≤ c) ∧ C.sum = pos ∧ C.length = k ∧ Below B w wr
theorem Cnt.start (w : World) (c : Nat) (hc : c ≤ 1048577) : Cnt w.heap.size w (w.alloc (.cells (madeCells #[.int .i64 0] c) 3)) 0 (.slice (some ⟨w.heap.size, 0, none⟩) 0 c) 0 :=
  ⟨[], own0 _ c hc w (Nat.le_refl _), (fun c h => by cases h), rfl, rfl, by (repeat' (first | exact Below.refl _ _ | refine Below.drewR ?_ | (refine Below.alloc ?_ (by simp; omega) _) | (refine Below.alloc ?_ (by simp) _) | (refine Below.setCell ?_ (by simp; omega) _) | (refine Below.setCell ?_ (by simp) _)))⟩
theorem cell_new1 (w : World) (x : Value) (t : TypeId) : ∀ j u, [x][j]? = some u → (w.alloc (.cells #[x] t)).cell? ((⟨w.heap.size, 0, none⟩ : Addr).add j) = some u := by
  intro j u h
  cases j with
  | zero =>
    simp at h; subst h
    rw [show ((⟨w.heap.size, 0, none⟩ : Addr).add 0) = ⟨w.heap.size, 0, none⟩ from rfl, cell_of_row _ _ 0 _ t _ (heap_alloc_new _ _)]; rfl
  | succ j => simp at h
/-- One more count appended. -/
theorem Cnt.app {B k : Nat} {w wr : World} {v : Value} {pos c : Int} (h : Cnt B w wr k v pos) (hc : 0 ≤ c) (hk : k ≤ 1048576) (hB : B ≤ wr.heap.size) :
    ∃ v' w', (Builtin.append_ #[28, 28] 28 #[v, .slice (some ⟨wr.heap.size, 0, none⟩) 1 1]).run Try.prog (wr.alloc (.cells #[.int .i64 c] 3)) = .ok v' w' ∧ Cnt B w w' (k + 1) v' (pos + c) := by
  obtain ⟨C, ho, hn, hs, hl, hb⟩ := h
  obtain ⟨i0, hi, hz0, hz1, hz2⟩ := info_parts intInfo
  have hlen : (C.map (Value.int .i64)).length = C.length := by simp
  have ho2 : (wr.alloc (.cells #[.int .i64 c] 3)).ownsRow B 3 1 v (C.map (Value.int .i64)).length (C.map (Value.int .i64)) := by rw [hlen]; exact ho.alloc _
  obtain ⟨v', w', hr, h2, h3, h4⟩ := app_slice (P := Try.prog) (ty := 28) (wr.alloc (.cells #[.int .i64 c] 3)) Try.underlying28 hi hz0 hz1 hz2 rfl ho2 ⟨wr.heap.size, 0, none⟩ 1 1 [.int .i64 c] rfl (cell_new1 wr _ _) (by intro u hu; simp at hu; subst hu; rfl)
    (by rw [hlen]; unfold maxLen; omega) (by rw [hlen]; omega) (by simp; omega)
  refine ⟨v', w', hr, C ++ [c], ?_, ?_, ?_, by simp [hl], ?_⟩
  · rw [hlen] at h2
    simpa using h2
  · intro x hx
    rw [List.mem_append, List.mem_singleton] at hx
    rcases hx with hx | rfl
    · exact hn x hx
    · exact hc
  · simp [hs]
  · refine (hb.alloc hB (.cells #[.int .i64 c] 3)).trans ?_
    refine ⟨h3.os, h3.tape, h3.output, h3.size, fun i hi' => h3.block i (by simp; omega) fun e => ?_⟩
    have := (ho.lt i e.symm).1
    omega
def CntR (l : Nat) (n : Int) (w : World) (e : Ending) (w' : World) : Prop := ∃ v k, e = .returned v ∧ k ≤ l + 1 ∧ Cnt w.heap.size w w' k v n
set_option maxRecDepth 100000 in
theorem counts (a : Option Addr) (l cap : Nat) (Z : Nat → Int) (n : Nat) (w : World) (h : Fsl w a l (fun i => .int .u16 (Z i))) (hZ : ∀ i, i < l → 0 ≤ Z i ∧ Z i ≤ 65535) (hl : l ≤ 4096) (hn : n ≤ 4096) :
    Calls Try.prog 8 #[.slice a l cap, .int .i64 n] w (CntR l n w) := by
  have HZ := Lib.hid hZ
  have hm := mk0 (l + 1) (by omega)
  have e1 : ((l + 1 : Nat) : Int) = (l : Int) + 1 := by omega
  rw [e1] at hm
  clear e1 hZ
  have HS := Lib.hid (Cnt.start w (l + 1) (by omega))
  go_enter Try.func8, Try.ntmps8
  go_wp2_with fail
  go_loopw [5, 6, 7] (fun v p i wr => ∃ (k : Nat) (pos : Int), k ≤ l ∧ i = .int .i64 k ∧ p = .int .i64 pos ∧ 0 ≤ pos ∧ pos ≤ n ∧ Hid (Cnt w.heap.size w wr k v pos)) (fun _ _ i _ => l - (intOf i).toNat)
  case atStart => exact ⟨0, 0, by omega, rfl, rfl, by omega, by omega, HS⟩
  case round =>
    obtain ⟨k, pos, hk, rfl, rfl, hp0, hp1, HC⟩ := hrel
    have hsz : w.heap.size ≤ wr.heap.size := by obtain ⟨_, _, _, _, _, hb⟩ := HC.out; exact hb.size
    by_cases hlt : k < l
    · obtain ⟨b, off, rfl, hlb, hc0⟩ := h.at k hlt
      obtain ⟨z0, z1⟩ := HZ.out k hlt
      have hc : wr.cell? ⟨b, off + k, none⟩ = some (.int .u16 (Z k)) := by obtain ⟨_, _, _, _, _, hb⟩ := HC.out; rw [hb.cell (p := ⟨b, off + k, none⟩) hlb]; exact hc0
      clear hc0
      have hk2 : (k : Int) < (l : Int) := by omega
      by_cases hgt : (n : Int) - pos < Z k
      · have HA := Lib.hid (HC.out.app (c := (n : Int) - pos) (by omega) (by omega) hsz)
        go_wp2_with (at_builtin; refine wpList_app rfl _ _ #[28, 28] rfl rfl rfl HA.out ?_; intro v' w1 hcn; have HN := Lib.hid hcn; clear hcn)
        go_roundw
        case rel => exact ⟨k + 1, n, by omega, by go_num, by go_num, by omega, by omega, Lib.hid (by have := HN.out; rwa [show pos + ((n : Int) - pos) = n by omega] at this)⟩
        case measure => simp [intOf]; omega
      · have HA := Lib.hid (HC.out.app (c := Z k) z0 (by omega) hsz)
        go_wp2_with (at_builtin; refine wpList_app rfl _ _ #[28, 28] rfl rfl rfl HA.out ?_; intro v' w1 hcn; have HN := Lib.hid hcn; clear hcn)
        go_roundw
        case rel => exact ⟨k + 1, pos + Z k, by omega, by go_num, rfl, by omega, by omega, HN⟩
        case measure => simp [intOf]; omega
    · obtain rfl : k = l := by omega
      by_cases hpn : pos < (n : Int)
      · have HA := Lib.hid (HC.out.app (c := (n : Int) - pos) (by omega) (by omega) hsz)
        go_wp2_with (at_builtin; refine wpList_app rfl _ _ #[28, 28] rfl rfl rfl HA.out ?_; intro v' w1 hcn; have HN := Lib.hid hcn; clear hcn)
        go_ret
        exact ⟨_, k + 1, rfl, Nat.le_refl _, by have := HN.out; rwa [show pos + ((n : Int) - pos) = n by omega] at this⟩
      · obtain rfl : pos = (n : Int) := by omega
        go_wp2_with fail
        go_ret
        exact ⟨_, k, rfl, by omega, HC.out⟩
def psum (C : Nat → Nat) : Nat → Nat
  | 0 => 0
  | s + 1 => psum C s + C s
theorem psum_mono (C : Nat → Nat) {s t : Nat} (h : s ≤ t) : psum C s ≤ psum C t := by
  induction t with
  | zero => obtain rfl : s = 0 := by omega
            exact Nat.le_refl _
  | succ t ih =>
    by_cases e : s = t + 1
    · subst e; exact Nat.le_refl _
    · exact Nat.le_trans (ih (by omega)) (Nat.le_add_right _ _)
theorem psum_lt (C : Nat → Nat) {s t : Nat} (h : s < t) : psum C s + C s ≤ psum C t := psum_mono C (t := t) h
theorem psum_congr {C D : Nat → Nat} : ∀ s, (∀ i, i < s → C i = D i) → psum C s = psum D s
  | 0, _ => rfl
  | s + 1, h => by unfold psum; rw [psum_congr s fun i hi => h i (by omega), h s (by omega)]
theorem psum_cons (C : Nat → Nat) : ∀ n, psum C (n + 1) = C 0 + psum (fun i => C (i + 1)) n
  | 0 => by simp [psum]
  | n + 1 => by rw [psum, psum_cons C n, psum]; omega
theorem psum_list : ∀ L : List Int, (∀ c ∈ L, 0 ≤ c) → (psum (fun i => (L.getD i 0).toNat) L.length : Int) = L.sum
  | [], _ => rfl
  | x :: L, h => by
    have ih := psum_list L fun c hc => h c (List.mem_cons_of_mem _ hc)
    have hx := h x List.mem_cons_self
    rw [List.length_cons, psum_cons, List.sum_cons, ← ih]
    simp only [List.getD_cons_zero, List.getD_cons_succ]
    omega
/-- (s, j) is the place of the flat number x. -/
def At (C : Nat → Nat) (k x s j : Nat) : Prop := s < k ∧ j < C s ∧ psum C s + j = x
theorem At.uniq {C : Nat → Nat} {k x s j t i : Nat} (h : At C k x s j) (h2 : At C k x t i) : s = t ∧ j = i := by
  obtain ⟨a1, a2, a3⟩ := h
  obtain ⟨b1, b2, b3⟩ := h2
  have : s = t := by
    rcases Nat.lt_trichotomy s t with hl | hl | hl
    · have := psum_lt C hl; omega
    · exact hl
    · have := psum_lt C hl; omega
  subst this
  exact ⟨rfl, by omega⟩
theorem At.inj {C : Nat → Nat} {k x y s j : Nat} (h : At C k x s j) (h2 : At C k y s j) : x = y := by
  rw [← h.2.2, ← h2.2.2]
theorem At.ex {C : Nat → Nat} {k n x : Nat} (hk : psum C k = n) (hx : x < n) : ∃ s j, At C k x s j := by
  induction k generalizing n with
  | zero => simp [psum] at hk; omega
  | succ k ih =>
    by_cases h : x < psum C k
    · obtain ⟨s, j, a, b, c⟩ := ih rfl h
      exact ⟨s, j, by omega, b, c⟩
    · refine ⟨k, x - psum C k, Nat.lt_succ_self k, ?_, by omega⟩
      unfold psum at hk; omega
theorem At.of {C : Nat → Nat} {k n s j : Nat} (hk : psum C k = n) (hs : s < k) (hj : j < C s) : psum C s + j < n := by
  have := psum_lt C hs; omega
theorem Cnt.out {B : Nat} {w wr : World} {k n : Nat} {v : Value} (h : Cnt B w wr k v n) (hn : 0 < n) :
    ∃ g cap C, v = .slice (some ⟨g, 0, none⟩) k cap ∧ Fsl wr (some ⟨g, 0, none⟩) k (fun i => .int .i64 ((C i : Nat) : Int)) ∧ psum C k = n ∧ 0 < k ∧ B ≤ g := by
  obtain ⟨C, ho, hnn, hs, rfl, hb⟩ := h
  have hp := psum_list C hnn
  have h0 : 0 < C.length := by
    cases C with
    | nil => simp at hs; omega
    | cons a l => simp
  have ho' := ho
  rcases ho.2 with ⟨_, e⟩ | ⟨g, cap, cur, rfl, hbg, hg, hnc, hcm, hcs, htake⟩
  · omega
  · refine ⟨g, cap, fun i => (C.getD i 0).toNat, rfl, ⟨(fun e => by cases e), fun i hi => ⟨g, 0, rfl, (Array.getElem?_eq_some_iff.1 hg).1, ?_⟩⟩, by omega, h0, hbg⟩
    rw [Nat.zero_add, ho'.cellAt i (by omega)]
    have : C.getD i 0 = C[i] := by simp [List.getElem?_eq_getElem hi]
    have hge := hnn C[i] (List.getElem_mem hi)
    rw [List.getElem?_map, List.getElem?_eq_getElem hi]
    simp only [Option.map_some, this]
    rw [Int.toNat_of_nonneg hge]
theorem refInfo : (Try.prog.info? 40).map (fun i => (i.zero, i.size, i.bytes)) = some (some (.agg #[.int .u32 0, .int .u32 0]), 2, 8) := by kernel_rfl
/-- The refs of the flat numbers below i are laid. -/
def Rf (C : Nat → Nat) (k n : Nat) (b i : Nat) (wr : World) : Prop := ∃ V, Fblk wr b 40 (n * 2) V ∧ ∀ x, x < i → ∃ s j : Nat, At C k x s j ∧ V (x * 2) = .int .u32 s ∧ V (x * 2 + 1) = .int .u32 j
theorem Rf.step {C : Nat → Nat} {k n b i s j : Nat} {wr : World} (h : Rf C k n b i wr) (ha : At C k i s j) : Rf C k n b (i + 1) ((wr.setCell ⟨b, i * 2, none⟩ (.int .u32 s)).setCell ⟨b, i * 2 + 1, none⟩ (.int .u32 j)) := by
  obtain ⟨V, hV, hx⟩ := h
  refine ⟨_, (hV.set (i * 2) (.int .u32 s)).set (i * 2 + 1) (.int .u32 j), fun x hxi => ?_⟩
  by_cases e : x = i
  · subst e
    exact ⟨s, j, ha, by rw [upd_other _ _ _ _ (by omega), upd_same], upd_same _ _ _⟩
  · obtain ⟨s', j', q1, q2, q3⟩ := hx x (by omega)
    exact ⟨s', j', q1, by rw [upd_other _ _ _ _ (by omega), upd_other _ _ _ _ (by omega)]; exact q2, by rw [upd_other _ _ _ _ (by omega), upd_other _ _ _ _ (by omega)]; exact q3⟩
def RfR (C : Nat → Nat) (k n : Nat) (w : World) (e : Ending) (w' : World) : Prop := ∃ b, e = .returned (.slice (some ⟨b, 0, none⟩) n n) ∧ w.heap.size ≤ b ∧ Rf C k n b n w' ∧ Below w.heap.size w w'
set_option maxRecDepth 100000 in
theorem refs (g cap k n : Nat) (C : Nat → Nat) (w : World) (h : Fsl w (some ⟨g, 0, none⟩) k (fun i => .int .i64 ((C i : Nat) : Int))) (hp : psum C k = n) (hk : k ≤ 4097) (hn : n ≤ 4096) :
    Calls Try.prog 9 #[.slice (some ⟨g, 0, none⟩) k cap, .int .i64 n] w (RfR C k n w) := by
  have hC : ∀ s, s < k → C s ≤ 4096 := fun s hs => by have := psum_lt C hs; omega
  have HC := Lib.hid hC
  have HP := Lib.hid hp
  have hm := run_make_many (P := Try.prog) Try.underlying30 refInfo rfl (by omega) n (by omega)
  clear hC hp
  go_enter Try.func9, Try.ntmps9
  go_wp2_with fail
  go_loopw [6] (fun i wr => ∃ x : Nat, x ≤ n ∧ i = .int .i64 x ∧ Hid (Rf C k n w.heap.size x wr) ∧ Hid (Below w.heap.size w wr)) (fun i _ => n - (intOf i).toNat)
  case atStart => exact ⟨0, by omega, rfl, Lib.hid ⟨_, Fblk.madeMany _ _ _ _, fun x hx => absurd hx (Nat.not_lt_zero _)⟩, Lib.hid (by (repeat' (first | exact Below.refl _ _ | refine Below.drewR ?_ | (refine Below.alloc ?_ (by simp; omega) _) | (refine Below.alloc ?_ (by simp) _) | (refine Below.setCell ?_ (by simp; omega) _) | (refine Below.setCell ?_ (by simp) _))))⟩
  case round =>
    obtain ⟨x, hx, rfl, HR, HB⟩ := hrel
    by_cases hlt : x < n
    · have hx2 : (x : Int) < (n : Int) := by omega
      have h' := Lib.hid (h.below HB.out)
      obtain ⟨wo, rfl⟩ : ∃ wo : World, wo = wr := ⟨_, rfl⟩
      go_wp2_with fail
      go_loop [7, 8] (fun r s => ∃ t rest : Nat, s = .int .i64 t ∧ r = .int .i64 rest ∧ t ≤ k ∧ rest ≤ 4096 ∧ Hid (psum C t + rest = x)) (fun _ s => k - (intOf s).toNat)
      case atStart => exact ⟨0, x, rfl, rfl, by omega, by omega, Lib.hid (by simp [psum])⟩
      case round =>
        obtain ⟨t, rest, rfl, rfl, ht, hr, HS⟩ := hrel
        have htk : t < k := by
          have h1 := HS.out
          have h2 := HP.out
          by_cases e : t < k
          · exact e
          · obtain rfl : t = k := by omega
            omega
        have hcl := h'.out.cell t htk
        rw [Nat.zero_add] at hcl
        have hct := HC.out t htk
        have ht2 : (t : Int) < (k : Int) := by omega
        by_cases hge : C t ≤ rest
        · have hge2 : ((C t : Nat) : Int) ≤ (rest : Int) := by omega
          go_wp2_with fail
          go_round
          case rel => exact ⟨t + 1, rest - C t, by go_num, by simp; omega, by omega, by omega, Lib.hid (by have := HS.out; unfold psum; omega)⟩
          case measure => simp [intOf]; omega
        · have hge2 : ¬ ((C t : Nat) : Int) ≤ (rest : Int) := by omega
          have hge3 : decide (((C t : Nat) : Int) ≤ (rest : Int)) = false := by simp; omega
          have hat : At C k x t rest := ⟨htk, by omega, HS.out⟩
          have HA := Lib.hid hat
          obtain ⟨V, hV, _⟩ := HR.out
          have hd0 := hV.cell (x * 2) (by omega)
          have hd1 := hV.cell (x * 2 + 1) (by omega)
          have hf0 := hV.frozen (x * 2)
          have hf1 := hV.frozen (x * 2 + 1)
          clear hat hV
          go_wp2_with fail
          go_roundw
          case rel => exact ⟨x + 1, by omega, by go_num, Lib.hid (HR.out.step HA.out), Lib.hid ((HB.out.setCell (Nat.le_refl _) _).setCell (Nat.le_refl _) _)⟩
          case measure => simp [intOf]; omega
    · obtain rfl : x = n := by omega
      go_wp2_with fail
      go_ret
      exact ⟨_, rfl, Nat.le_refl _, HR.out, HB.out⟩
/-- The place of x. -/
noncomputable def plS (C : Nat → Nat) (k x : Nat) : Nat := haveI := Classical.propDecidable (∃ s j, At C k x s j); if h : ∃ s j, At C k x s j then Classical.choose h else 0
noncomputable def plJ (C : Nat → Nat) (k x : Nat) : Nat := x - psum C (plS C k x)
theorem at_pl {C : Nat → Nat} {k n x : Nat} (hk : psum C k = n) (hx : x < n) : At C k x (plS C k x) (plJ C k x) := by
  have h := At.ex hk hx
  have e : plS C k x = Classical.choose h := by unfold plS; rw [dif_pos h]
  obtain ⟨j, hj⟩ := Classical.choose_spec h
  rw [← e] at hj
  have : plJ C k x = j := by unfold plJ; have := hj.2.2; omega
  rw [this]; exact hj
theorem pl_at {C : Nat → Nat} {k x s j : Nat} (h : At C k x s j) : plS C k x = s ∧ plJ C k x = j := by
  have hx : ∃ s j, At C k x s j := ⟨s, j, h⟩
  have e : plS C k x = Classical.choose hx := by unfold plS; rw [dif_pos hx]
  obtain ⟨i, hi⟩ := Classical.choose_spec hx
  rw [← e] at hi
  obtain ⟨q1, q2⟩ := hi.uniq h
  refine ⟨q1, ?_⟩
  unfold plJ
  have := hi.2.2
  have := h.2.2
  rw [q1] at *
  omega
def invV : Value := .int .u32 4294967295
/-- The two words of a link to t (none: below 0). -/
noncomputable def lkS (C : Nat → Nat) (k : Nat) (t : Int) : Value := if t < 0 then invV else .int .u32 (plS C k t.toNat : Nat)
noncomputable def lkJ (C : Nat → Nat) (k : Nat) (t : Int) : Value := if t < 0 then invV else .int .u32 (plJ C k t.toNat : Nat)
def at32 (U : Nat → Int) (l i : Nat) : Int := if i < l then U i else 0
theorem inval (w : World) : Calls Try.prog 17 #[] w fun e w' => e = .returned (.agg #[.int .u32 4294967295, .int .u32 4294967295]) ∧ Below w.heap.size w w' := by
  go_enter Try.func17, Try.ntmps17
  go_wp2_with fail
  exact bodyPost_ret (v := .agg #[.int .u32 4294967295, .int .u32 4294967295]) (by simp [results, Try.results17, go_sem]) rfl ⟨rfl, by (repeat' (first | exact Below.refl _ _ | refine Below.drewR ?_ | (refine Below.alloc ?_ (by simp; omega) _) | (refine Below.alloc ?_ (by simp) _) | (refine Below.setCell ?_ (by simp; omega) _) | (refine Below.setCell ?_ (by simp) _)))⟩
theorem get32 (a : Option Addr) (l cap i : Nat) (U : Nat → Int) (w : World) (h : Fsl w a l (fun i => .int .u32 (U i))) (hl : l ≤ 4096) (hi : i ≤ 4096) :
    Calls Try.prog 18 #[.slice a l cap, .int .i64 i] w fun e w' => e = .returned (.int .u32 (at32 U l i)) ∧ w = w' := by
  by_cases hlt : i < l
  · obtain ⟨b, off, rfl, hlb, hc⟩ := h.at i hlt
    have HE := Lib.hid (show at32 U l i = U i by unfold at32; rw [if_pos hlt])
    have h2 : (i : Int) < (l : Int) := by omega
    clear h
    go_enter Try.func18, Try.ntmps18
    go_wp2_with fail
    go_ret
    exact ⟨by rw [HE.out]; rfl, rfl⟩
  · have HE := Lib.hid (show at32 U l i = 0 by unfold at32; rw [if_neg hlt])
    have h2 : ¬ (i : Int) < (l : Int) := by omega
    clear h
    go_enter Try.func18, Try.ntmps18
    go_wp2_with fail
    go_ret
    exact ⟨by rw [HE.out]; rfl, rfl⟩
theorem get16 (i : Nat) (w : World) (hi : i ≤ 4096) : Calls Try.prog 19 #[.slice none 0 0, .int .i64 i] w fun e w' => e = .returned (.int .u16 0) ∧ w = w' := by
  have h2 : ¬ (i : Int) < 0 := by omega
  go_enter Try.func19, Try.ntmps19
  go_wp2_with fail
  go_ret
  exact ⟨rfl, rfl⟩
theorem mapInfo : (Try.prog.info? 53).map (fun i => (i.zero, i.size, i.bytes)) = some (some (.slice none 0 0), 1, 24) := by kernel_rfl
theorem symInfo : ∃ z bytes, bytes ≤ 1024 ∧ (Try.prog.info? 49).map (fun i => (i.zero, i.size, i.bytes)) = some (some z, 10, bytes) := ⟨.agg #[.pointer none, .string ⟨#[]⟩, .int .u32 0, .int .u32 0, .int .u32 0, .int .u32 0, .int .u32 0, .int .u16 0, .int .u8 0, .int .u8 0], 48, by omega, by kernel_rfl⟩
def NM (k : Nat) (w : World) (e : Ending) (w' : World) : Prop := ∃ ob, e = .returned (.agg #[.slice (some ⟨ob, 0, none⟩) k k]) ∧ w.heap.size ≤ ob ∧ Fblk w' ob 53 k (fun _ => .slice none 0 0) ∧ Below w.heap.size w w'
theorem newMap (k : Nat) (w : World) (hk : k ≤ 4097) : Calls Try.prog 16 #[.int .i64 k] w (NM k w) := by
  have hm := run_make_one (P := Try.prog) Try.underlying32 mapInfo rfl (by omega) k (by omega)
  go_enter Try.func16, Try.ntmps16
  go_wp2_with fail
  exact bodyPost_ret (v := .agg #[.slice (some ⟨w.heap.size + 1, 0, none⟩) k k]) (by simp [results, Try.results16, go_sem]) rfl ⟨_, rfl, by omega, Fblk.madeAt (by simp), by (repeat' (first | exact Below.refl _ _ | refine Below.drewR ?_ | (refine Below.alloc ?_ (by simp; omega) _) | (refine Below.alloc ?_ (by simp) _) | (refine Below.setCell ?_ (by simp; omega) _) | (refine Below.setCell ?_ (by simp) _)))⟩
/-- What the symbol at the flat number x holds: its link, its use count. -/
def SymOk (C : Nat → Nat) (k : Nat) (T : Nat → Int) (U : Nat → Int) (l : Nat) (V : Nat → Value) (j x : Nat) : Prop :=
  V (j * 10 + 2) = lkS C k (T x) ∧ V (j * 10 + 3) = lkJ C k (T x) ∧ V (j * 10 + 4) = .int .u32 (at32 U l x)
/-- The lists of the sources below s are laid. -/
def Bd (C : Nat → Nat) (k : Nat) (T U : Nat → Int) (l ob b13 : Nat) (w : World) (s : Nat) (blk : Nat → Nat) (wr : World) : Prop :=
  Fblk wr ob 53 k (fun i => if i < s then .slice (some ⟨blk i, 0, none⟩) (C i) (C i) else .slice none 0 0) ∧
  (∀ i, i < s → ∃ V, Fblk wr (blk i) 49 (C i * 10) V ∧ ∀ j, j < C i → SymOk C k T U l V j (psum C i + j)) ∧
  (∀ i, i < s → ob < blk i ∧ blk i < wr.heap.size ∧ b13 < blk i) ∧ (∀ i j, i < j → j < s → blk i < blk j) ∧
  wr.heap[w.heap.size]? = some (.cells #[.slice none 0 0] 34 (0, 0)) ∧ w.heap.size < b13 ∧ b13 ≠ ob ∧ wr.heap[b13]? = some (.cells #[.slice (some ⟨ob, 0, none⟩) k k] 34 (0, 0)) ∧ w.heap.size < ob ∧ Below w.heap.size w wr
section
variable {C : Nat → Nat} {k l ob b13 s : Nat} {T U : Nat → Int} {w wr wi : World} {blk : Nat → Nat}
theorem Bd.low (h : Bd C k T U l ob b13 w s blk wr) : Below w.heap.size w wr := h.2.2.2.2.2.2.2.2.2
theorem Bd.obl (h : Bd C k T U l ob b13 w s blk wr) : w.heap.size < ob := h.2.2.2.2.2.2.2.2.1
theorem Bd.cell13 (h : Bd C k T U l ob b13 w s blk wr) : wr.cell? ⟨b13, 0, none⟩ = some (.slice (some ⟨ob, 0, none⟩) k k) := by
  rw [cell_of_row wr b13 0 _ 34 _ h.2.2.2.2.2.2.2.1]; rfl
theorem Bd.cell12 (h : Bd C k T U l ob b13 w s blk wr) : wr.cell? ⟨w.heap.size, 0, none⟩ = some (.slice none 0 0) ∧ wr.frozen? ⟨w.heap.size, 0, none⟩ = false := by
  refine ⟨?_, frozen_of_row wr w.heap.size 0 _ 34 h.2.2.2.2.1⟩
  rw [cell_of_row wr w.heap.size 0 _ 34 _ h.2.2.2.2.1]; rfl
theorem Bd.lt13 (h : Bd C k T U l ob b13 w s blk wr) : b13 < wr.heap.size := (Array.getElem?_eq_some_iff.1 h.2.2.2.2.2.2.2.1).1
theorem Bd.obs (h : Bd C k T U l ob b13 w s blk wr) : ob < wr.heap.size := h.1.lt
/-- One source more. -/
theorem Bd.step (h : Bd C k T U l ob b13 w s blk wr) (hs : s < k) (hb : Below wr.heap.size wr wi) {V : Nat → Value} (hV : Fblk wi wr.heap.size 49 (C s * 10) V) (hok : ∀ j, j < C s → SymOk C k T U l V j (psum C s + j)) :
    Bd C k T U l ob b13 w (s + 1) (fun i => if i = s then wr.heap.size else blk i) (wi.setCell ⟨ob, s, none⟩ (.slice (some ⟨wr.heap.size, 0, none⟩) (C s) (C s))) := by
  have hobs := h.obs
  have h13 := h.lt13
  have hv := hV.lt
  obtain ⟨h1, h2, h3, h4, h5, h6, h7, h8, h9, h10⟩ := h
  have hsz := hb.size
  have hsz2 : ∀ v, (wi.setCell ⟨ob, s, none⟩ v).heap.size = wi.heap.size := fun v => by simp [World.setCell]
  have hn := h10.size
  refine ⟨?_, ?_, ?_, ?_, ?_, h6, h7, ?_, h9, ?_⟩
  · have q := (h1.below hb hobs).set s (.slice (some ⟨wr.heap.size, 0, none⟩) (C s) (C s))
    refine q.congr fun i hi => ?_
    unfold upd
    by_cases e : i = s
    · subst e
      simp
    · by_cases e2 : i < s
      · have e3 : i < s + 1 := by omega
        simp [e, e2, e3]
      · have e3 : ¬ i < s + 1 := by omega
        simp [e, e2, e3]
  · intro i hi
    by_cases e : i = s
    · subst e
      simp only [if_true]
      exact ⟨V, hV.other (by show ob ≠ _; omega) _, hok⟩
    · simp only [if_neg e]
      obtain ⟨V', q1, q2⟩ := h2 i (by omega)
      obtain ⟨r1, r2, _⟩ := h3 i (by omega)
      exact ⟨V', (q1.below hb r2).other (by show ob ≠ _; omega) _, q2⟩
  · intro i hi
    rw [hsz2]
    by_cases e : i = s
    · subst e; simp only [if_true]; omega
    · simp only [if_neg e]
      obtain ⟨r1, r2, r3⟩ := h3 i (by omega)
      omega
  · intro i j hij hj
    have hi : i ≠ s := by omega
    simp only [if_neg hi]
    by_cases e : j = s
    · subst e
      simp only [if_true]
      exact (h3 i hij).2.1
    · simp only [if_neg e]
      exact h4 i j hij (by omega)
  · rw [heap_setCell_other _ _ _ _ (by show w.heap.size ≠ ob; omega), hb.block _ (by omega)]; exact h5
  · rw [heap_setCell_other _ _ _ _ (by show b13 ≠ ob; omega), hb.block _ h13]; exact h8
  · exact (h10.trans (hb.mono hn)).setCell (by show w.heap.size ≤ ob; omega) _
end
/-- The symbols below j of the list under way. -/
def Inn (C : Nat → Nat) (k : Nat) (T U : Nat → Int) (l s j : Nat) (wo wi : World) : Prop :=
  Below wo.heap.size wo wi ∧ ∃ V, Fblk wi wo.heap.size 49 (C s * 10) V ∧ ∀ i, i < j → SymOk C k T U l V i (psum C s + i)
theorem Inn.step {C : Nat → Nat} {k l s j x : Nat} {T U : Nat → Int} {wo wi w1 : World} {a b c d : Value} (h : Inn C k T U l s j wo wi) (hb : Below wi.heap.size wi w1) (hx : x = psum C s + j) (ha : a = lkS C k (T x)) (hb2 : b = lkJ C k (T x)) (hc : c = .int .u32 (at32 U l x)) (o : Obj) :
    Inn C k T U l s (j + 1) wo (((((w1.setCell ⟨wo.heap.size, j * 10 + 2, none⟩ a).setCell ⟨wo.heap.size, j * 10 + 2 + 1, none⟩ b).setCell ⟨wo.heap.size, j * 10 + 4, none⟩ c).setCell ⟨wo.heap.size, j * 10 + 7, none⟩ d).alloc o) := by
  obtain ⟨h1, V, h2, h3⟩ := h
  have hlt := h2.lt
  subst hx; subst ha; subst hb2; subst hc
  have hz := Nat.le_trans h1.size hb.size
  refine ⟨((((((h1.trans (hb.mono h1.size)).setCell (Nat.le_refl _) _).setCell (Nat.le_refl _) _).setCell (Nat.le_refl _) _).setCell (Nat.le_refl _) _).alloc (by simp [World.setCell]; exact hz) o), _, (((((h2.below hb hlt).set _ _).set _ _).set _ _).set _ _).alloc o, fun i hi => ?_⟩
  unfold SymOk
  by_cases e : i = j
  · subst e
    refine ⟨?_, ?_, ?_⟩
    · rw [upd_other _ _ _ _ (by omega), upd_other _ _ _ _ (by omega), upd_other _ _ _ _ (by omega), upd_same]
    · rw [upd_other _ _ _ _ (by omega), upd_other _ _ _ _ (by omega), upd_same]
    · rw [upd_other _ _ _ _ (by omega), upd_same]
  · obtain ⟨q1, q2, q3⟩ := h3 i (by omega)
    refine ⟨?_, ?_, ?_⟩
    · rw [upd_other _ _ _ _ (by omega), upd_other _ _ _ _ (by omega), upd_other _ _ _ _ (by omega), upd_other _ _ _ _ (by omega)]; exact q1
    · rw [upd_other _ _ _ _ (by omega), upd_other _ _ _ _ (by omega), upd_other _ _ _ _ (by omega), upd_other _ _ _ _ (by omega)]; exact q2
    · rw [upd_other _ _ _ _ (by omega), upd_other _ _ _ _ (by omega), upd_other _ _ _ _ (by omega), upd_other _ _ _ _ (by omega)]; exact q3
/-- The map of symbols: the outer row ob, the lists blk i, what they hold. -/
def SM (C : Nat → Nat) (k ob : Nat) (blk : Nat → Nat) (wr : World) (V : Nat → Nat → Value) : Prop :=
  Fblk wr ob 53 k (fun i => .slice (some ⟨blk i, 0, none⟩) (C i) (C i)) ∧ (∀ i, i < k → Fblk wr (blk i) 49 (C i * 10) (V i)) ∧ (∀ i, i < k → ob < blk i) ∧ ∀ i j, i < j → j < k → blk i < blk j
theorem Bd.done {C : Nat → Nat} {k l ob b13 : Nat} {T U : Nat → Int} {w wr : World} {blk : Nat → Nat} (h : Bd C k T U l ob b13 w k blk wr) (v : Value) :
    ∃ V, SM C k ob blk (wr.setCell ⟨w.heap.size, 0, none⟩ v) V ∧ (∀ i, i < k → ∀ j, j < C i → SymOk C k T U l (V i) j (psum C i + j)) ∧ w.heap.size < ob ∧ Below w.heap.size w (wr.setCell ⟨w.heap.size, 0, none⟩ v) := by
  obtain ⟨h1, h2, h3, h4, h5, h6, h7, h8, h9, h10⟩ := h
  obtain ⟨V, hV⟩ := Classical.skolem.1 (show ∀ i, ∃ V, i < k → Fblk wr (blk i) 49 (C i * 10) V ∧ ∀ j, j < C i → SymOk C k T U l V j (psum C i + j) from fun i => by
    by_cases hi : i < k
    · obtain ⟨V, hV⟩ := h2 i hi
      exact ⟨V, fun _ => hV⟩
    · exact ⟨fun _ => undef, fun h => absurd h hi⟩)
  refine ⟨V, ⟨?_, fun i hi => (hV i hi).1.other (by show w.heap.size ≠ _; have := (h3 i hi).1; omega) _, fun i hi => (h3 i hi).1, h4⟩, fun i hi => (hV i hi).2, h9, h10.setCell (Nat.le_refl _) _⟩
  exact (h1.congr fun i hi => by simp [hi]).other (by show w.heap.size ≠ ob; omega) _
def BdR (C : Nat → Nat) (k : Nat) (T U : Nat → Int) (l : Nat) (w : World) (e : Ending) (w' : World) : Prop :=
  ∃ ob blk V, e = .returned (.agg #[.slice (some ⟨ob, 0, none⟩) k k]) ∧ SM C k ob blk w' V ∧ (∀ i, i < k → ∀ j, j < C i → SymOk C k T U l (V i) j (psum C i + j)) ∧ w.heap.size < ob ∧ Below w.heap.size w w'
theorem getD_many (w : World) (t : TypeId) (cs : Array Value) (n : Nat) : Fblk (w.alloc (.cells (madeCells cs n) t)) w.heap.size t n (fun i => (madeCells cs n).getD i undef) := Fblk.madeMany w t cs n
theorem Bd.start {C : Nat → Nat} {k l ob : Nat} {T U : Nat → Int} {w w2 : World} (h1 : w.heap.size + 1 ≤ ob) (h2 : Fblk w2 ob 53 k (fun _ => .slice none 0 0)) (h3 : Below (w.alloc (.cells #[.slice none 0 0] 34)).heap.size (w.alloc (.cells #[.slice none 0 0] 34)) w2) (blk : Nat → Nat) :
    Bd C k T U l ob w2.heap.size w 0 blk (w2.alloc (.cells #[.slice (some ⟨ob, 0, none⟩) k k] 34)) := by
  have hl := h2.lt
  have hs := h3.size
  simp at hs
  refine ⟨(h2.alloc _).congr fun i _ => by simp, fun i hi => absurd hi (Nat.not_lt_zero _), fun i hi => absurd hi (Nat.not_lt_zero _), fun i j _ hj => absurd hj (Nat.not_lt_zero _), ?_, by omega, by omega, heap_alloc_new _ _, by omega, ?_⟩
  · rw [Below.heap_alloc _ _ _ (by omega), h3.block _ (by simp)]; exact heap_alloc_new _ _
  · exact (((Below.refl _ w).alloc (Nat.le_refl _) _).trans (h3.mono (by simp))).alloc (by omega) _
set_option maxHeartbeats 4000000 in
set_option maxRecDepth 100000 in
theorem build (g capg k n rb : Nat) (C : Nat → Nat) (ta : Option Addr) (tcap : Nat) (T : Nat → Int) (ua : Option Addr) (ul ucap : Nat) (U : Nat → Int) (w : World)
    (hc : Fsl w (some ⟨g, 0, none⟩) k (fun i => .int .i64 ((C i : Nat) : Int))) (hp : psum C k = n) (hr : Rf C k n rb n w) (ht : Fsl w ta n (fun i => .int .i64 (T i))) (hT : ∀ i, i < n → -1 ≤ T i ∧ T i < n) (hu : Fsl w ua ul (fun i => .int .u32 (U i)))
    (hk : k ≤ 4097) (hn : n ≤ 4096) (hul : ul ≤ 4096) :
    Calls Try.prog 10 #[.slice (some ⟨g, 0, none⟩) k capg, .slice (some ⟨rb, 0, none⟩) n n, .slice ta n tcap, .slice ua ul ucap, .slice none 0 0, .bool false] w (BdR C k T U ul w) := by
  have HCL := Lib.hid (show ∀ s, s < k → C s ≤ 4096 from fun s hs => by have := psum_lt C hs; omega)
  have HP := Lib.hid hp
  have HR := Lib.hid hr
  have HT := Lib.hid hT
  have HC := Lib.hid hc
  have HTT := Lib.hid ht
  have HU := Lib.hid hu
  clear hp hr hT hc ht hu
  obtain ⟨z, bytes, hbz, hi⟩ := symInfo
  obtain ⟨cs, hcs⟩ : ∃ cs, z.cells = cs := ⟨_, rfl⟩
  have HMK := Lib.hid (fun c (hc : c ≤ 4096) => run_make_many (P := Try.prog) Try.underlying53 hi hcs hbz c (by omega))
  clear hi hcs hbz
  go_enter Try.func10, Try.ntmps10
  go_wp2_with fail
  refine (newMap k _ hk).mono ?_
  rintro e w2 ⟨ob, rfl, hob, hbo, hb2⟩
  have HB0 := Lib.hid (Bd.start (C := C) (T := T) (U := U) (l := ul) (by simpa using hob) hbo hb2 (fun _ => 0))
  clear hob hbo hb2
  go_wp2_with fail
  go_loopw [14, 15] (fun p i wr => ∃ (s x : Nat) (blk : Nat → Nat), s ≤ k ∧ x ≤ 4096 ∧ i = .int .i64 s ∧ p = .int .i64 x ∧ Hid (x = psum C s) ∧ Hid (Bd C k T U ul ob w2.heap.size w s blk wr)) (fun _ i _ => k - (intOf i).toNat)
  case atStart => exact ⟨0, 0, _, Nat.zero_le _, by omega, rfl, rfl, Lib.hid rfl, HB0⟩
  case round =>
    obtain ⟨s, x, blk, hs, hx, rfl, rfl, HX, HB⟩ := hrel
    by_cases hlt : s < k
    · have hs2 : (s : Int) < (k : Int) := by omega
      have hcs := HCL.out s hlt
      have hmk := HMK.out (C s) hcs
      have hcc := (HC.out.below HB.out.low).cell s hlt
      rw [Nat.zero_add] at hcc
      obtain ⟨wo, rfl⟩ : ∃ wo : World, wo = wr := ⟨_, rfl⟩
      have hgl := HC.out.lt (by omega)
      have hlo := HB.out.low.size
      have hgl2 : g < wo.heap.size := by omega
      have HW0 := Lib.hid (show Inn C k T U ul s 0 wo (wo.alloc (.cells (madeCells cs (C s * 10)) 49)) from ⟨by (repeat' (first | exact Below.refl _ _ | refine Below.drewR ?_ | (refine Below.alloc ?_ (by simp; omega) _) | (refine Below.alloc ?_ (by simp) _) | (refine Below.setCell ?_ (by simp; omega) _) | (refine Below.setCell ?_ (by simp) _))), _, Fblk.madeMany _ _ _ _, fun i hi => absurd hi (Nat.not_lt_zero _)⟩)
      go_wp2_with fail
      go_loopw [14, 17] (fun p i wi => ∃ j y : Nat, j ≤ C s ∧ y ≤ 4096 ∧ i = .int .i64 j ∧ p = .int .i64 y ∧ Hid (y = psum C s + j) ∧ Hid (Inn C k T U ul s j wo wi)) (fun _ i _ => C s - (intOf i).toNat)
      case atStart => exact ⟨0, x, Nat.zero_le _, by omega, rfl, rfl, Lib.hid (by rw [HX.out]; rfl), HW0⟩
      case round =>
        obtain ⟨j, y, hj, hy, rfl, rfl, HY, HI⟩ := hrel
        have hsz : wo.heap.size ≤ _ := HI.out.1.size
        have HWI := Lib.hid (HB.out.low.trans (HI.out.1.mono hlo))
        by_cases hjl : j < C s
        · have hjl2 : (j : Int) < ((C s : Nat) : Int) := by omega
          have hyn : y < n := by rw [HY.out]; exact At.of HP.out hlt hjl
          have hcc2 := (HC.out.below HWI.out).cell s hlt
          rw [Nat.zero_add] at hcc2
          have hgl3 : g < wr.heap.size := by omega
          go_wp2_with fail
          refine (inval _).mono ?_
          rintro e w1 ⟨rfl, hb1⟩
          have hsz1 := hb1.size
          have HW1 := Lib.hid (HWI.out.trans (hb1.mono HWI.out.size))
          obtain ⟨V, hV, _⟩ := HI.out.2
          have hV1 := hV.below hb1 hV.lt
          have d2 := hV1.cell (j * 10 + 2) (by omega)
          have d3 := hV1.cell (j * 10 + 3) (by omega)
          have d4 := hV1.cell (j * 10 + 4) (by omega)
          have d7 := hV1.cell (j * 10 + 7) (by omega)
          have f2 := hV1.frozen (j * 10 + 2)
          have f3 := hV1.frozen (j * 10 + 3)
          have f4 := hV1.frozen (j * 10 + 4)
          have f7 := hV1.frozen (j * 10 + 7)
          have hbl := hV1.lt
          obtain ⟨bt, offt, rfl, hbt, htc⟩ := (HTT.out.below HW1.out).at y hyn
          have HB1 := Lib.hid hb1
          clear hV hV1 hcc2 hb1
          obtain ⟨t0, t1⟩ := HT.out y hyn
          by_cases htn : T y < 0
          · have HS := Lib.hid (show lkS C k (T y) = .int .u32 4294967295 ∧ lkJ C k (T y) = .int .u32 4294967295 by unfold lkS lkJ invV; rw [if_pos htn, if_pos htn]; exact ⟨rfl, rfl⟩)
            go_wp2_with fail
            refine (get32 ua ul ucap y U _ (HU.out.below (by (repeat' (first | exact HW1.out | (refine Below.alloc ?_ (by first | omega | (simp; omega)) _) | (refine Below.setCell ?_ (by simp; omega) _))))) hul hy).mono ?_
            rintro e w' ⟨rfl, rfl⟩
            go_wp2_with fail
            refine (get16 y _ hy).mono ?_
            rintro e w' ⟨rfl, rfl⟩
            go_wp2_with fail
            go_roundw
            case rel => exact ⟨j + 1, y + 1, by omega, by omega, by go_num, by go_num, Lib.hid (by rw [HY.out]; omega), Lib.hid (HI.out.step HB1.out HY.out HS.out.1.symm HS.out.2.symm rfl _)⟩
            case measure => simp [intOf]; omega
          · obtain ⟨t, ht⟩ := Int.eq_ofNat_of_zero_le (show 0 ≤ T y by omega)
            obtain ⟨VR, hVR, hall⟩ := HR.out
            obtain ⟨s', j', hat, v1, v2⟩ := hall t (by omega)
            obtain ⟨p1, p2⟩ := pl_at hat
            have HS := Lib.hid (show lkS C k (T y) = .int .u32 s' ∧ lkJ C k (T y) = .int .u32 j' by unfold lkS lkJ; rw [if_neg htn, if_neg htn, ht]; simp [p1, p2])
            have hVR1 := hVR.below HW1.out hVR.lt
            have r0 := hVR1.cell (t * 2) (by omega)
            have r1 := hVR1.cell (t * 2 + 1) (by omega)
            rw [v1] at r0
            rw [v2] at r1
            have hrl := hVR1.lt
            have htn2 : t < n := by omega
            have htn3 : (t : Int) < (n : Int) := by omega
            rw [ht] at htc
            clear hVR hVR1 hall v1 v2 hat p1 p2 htn t0 t1 ht
            go_wp2_with fail
            refine (get32 ua ul ucap y U _ (HU.out.below (by (repeat' (first | exact HW1.out | (refine Below.alloc ?_ (by first | omega | (simp; omega)) _) | (refine Below.setCell ?_ (by simp; omega) _))))) hul hy).mono ?_
            rintro e w' ⟨rfl, rfl⟩
            go_wp2_with fail
            refine (get16 y _ hy).mono ?_
            rintro e w' ⟨rfl, rfl⟩
            go_wp2_with fail
            go_roundw
            case rel => exact ⟨j + 1, y + 1, by omega, by omega, by go_num, by go_num, Lib.hid (by rw [HY.out]; omega), Lib.hid (HI.out.step HB1.out HY.out HS.out.1.symm HS.out.2.symm rfl _)⟩
            case measure => simp [intOf]; omega
        · obtain rfl : j = C s := by omega
          obtain ⟨V, hV, hok⟩ := HI.out.2
          have HV := Lib.hid hV
          have HO := Lib.hid hok
          have hcc2 := (HC.out.below HWI.out).cell s hlt
          rw [Nat.zero_add] at hcc2
          have hgl3 : g < wr.heap.size := by omega
          have c13 : wr.cell? ⟨w2.heap.size, 0, none⟩ = some (.slice (some ⟨ob, 0, none⟩) k k) := by rw [HI.out.1.cell (p := ⟨w2.heap.size, 0, none⟩) HB.out.lt13]; exact HB.out.cell13
          have hob := (HB.out.1.below HI.out.1 HB.out.obs)
          have co := hob.cell s hlt
          have fo := hob.frozen s
          clear hV hok hob
          go_wp2_with fail
          go_roundw
          case rel => exact ⟨s + 1, y, _, by omega, hy, by go_num, rfl, Lib.hid (by rw [HY.out]; rfl), Lib.hid (HB.out.step hlt HI.out.1 HV.out HO.out)⟩
          case measure => simp [intOf]; omega
    · obtain rfl : s = k := by omega
      have c13 := HB.out.cell13
      obtain ⟨c12, f12⟩ := HB.out.cell12
      have hlo := HB.out.low.size
      go_wp2_with fail
      have HD := Lib.hid (HB.out.done (.slice (some ⟨ob, 0, none⟩) s s))
      refine bodyPost_ret (v := .agg #[.slice (some ⟨ob, 0, none⟩) s s]) (by simp [results, Try.results10, go_sem, c12]) rfl ?_
      obtain ⟨V, q1, q2, q3, q4⟩ := HD.out
      exact ⟨ob, blk, V, rfl, q1, q2, q3, q4⟩
theorem c16_info : (Try.prog.info? 44).map (fun i => (i.zero, i.size, i.bytes)) = some (some (.int .u16 0), 1, 2) := by kernel_rfl
theorem c16 (a : Option Addr) (len cap : Nat) (S : Nat → Int) (w : World) (h : Fsl w a len (fun i => .int .u16 (S i))) (hlen : len ≤ 137438953472) :
    Calls Try.prog 6 #[.slice a len cap] w (Cop w a len 44 (fun i => .int .u16 (S i))) := by
  have hnil : ∀ w : World, (binOp .eql 22 (.slice a len cap) (.slice none 0 0)).run Try.prog w = .ok (.bool a.isNone) w := fun w => Lib.run_eql_slice_nil w 22 44 _ _ _ _ _ Try.underlying22
  have hmk := run_make_one (P := Try.prog) Try.underlying22 c16_info rfl (by omega) len hlen
  cases a with
  | none =>
    have H := Lib.hid (Cop.nil (t := 44) h)
    go_enter Try.func6, Try.ntmps6
    go_wp2
    go_ret
    exact H.out
  | some x =>
    go_enter Try.func6, Try.ntmps6
    go_wp2
    go_loopw [4] (fun i wr => ∃ k : Nat, k ≤ len ∧ i = .int .i64 k ∧ Fblk wr w.heap.size 44 len (parV (fun i => .int .u16 (S i)) (.int .u16 0) k) ∧ Below w.heap.size w wr) (fun i _ => len - (intOf i).toNat)
    case atStart => exact ⟨0, by omega, rfl, by rw [parV_zero]; exact Fblk.made _ _ _ _, (Below.refl _ _).alloc (Nat.le_refl _) _⟩
    case round =>
      obtain ⟨k, hk, rfl, hb, hl⟩ := hrel
      have HB := Lib.hid hb
      by_cases hlt : k < len
      · obtain ⟨b, off, e, hlb, hc⟩ := h.at k hlt
        injection e with e
        subst e
        have hc' : wr.cell? ⟨b, off + k, none⟩ = some (.int .u16 (S k)) := by rw [hl.cell (p := ⟨b, off + k, none⟩) hlb]; exact hc
        have hd := hb.cell k hlt
        have hz := hb.frozen k
        have hk2 : (k : Int) < (len : Int) := by omega
        clear hc hb
        go_wp2
        go_roundw
        case rel => exact ⟨k + 1, by omega, by go_num, by rw [← parV_set]; exact HB.out.set k _, hl.setCell (Nat.le_refl _) _⟩
        case measure => simp [intOf]; omega
      · obtain rfl : k = len := by omega
        clear hb
        go_wp2
        go_ret
        exact Cop.mk (HB.out.congr fun i hi => by simp [parV, hi]) hl (Nat.le_refl _)

theorem c32_info : (Try.prog.info? 24).map (fun i => (i.zero, i.size, i.bytes)) = some (some (.int .u32 0), 1, 4) := by kernel_rfl
theorem c32 (a : Option Addr) (len cap : Nat) (S : Nat → Int) (w : World) (h : Fsl w a len (fun i => .int .u32 (S i))) (hlen : len ≤ 137438953472) :
    Calls Try.prog 7 #[.slice a len cap] w (Cop w a len 24 (fun i => .int .u32 (S i))) := by
  have hnil : ∀ w : World, (binOp .eql 23 (.slice a len cap) (.slice none 0 0)).run Try.prog w = .ok (.bool a.isNone) w := fun w => Lib.run_eql_slice_nil w 23 24 _ _ _ _ _ Try.underlying23
  have hmk := run_make_one (P := Try.prog) Try.underlying23 c32_info rfl (by omega) len hlen
  cases a with
  | none =>
    have H := Lib.hid (Cop.nil (t := 24) h)
    go_enter Try.func7, Try.ntmps7
    go_wp2
    go_ret
    exact H.out
  | some x =>
    go_enter Try.func7, Try.ntmps7
    go_wp2
    go_loopw [4] (fun i wr => ∃ k : Nat, k ≤ len ∧ i = .int .i64 k ∧ Fblk wr w.heap.size 24 len (parV (fun i => .int .u32 (S i)) (.int .u32 0) k) ∧ Below w.heap.size w wr) (fun i _ => len - (intOf i).toNat)
    case atStart => exact ⟨0, by omega, rfl, by rw [parV_zero]; exact Fblk.made _ _ _ _, (Below.refl _ _).alloc (Nat.le_refl _) _⟩
    case round =>
      obtain ⟨k, hk, rfl, hb, hl⟩ := hrel
      have HB := Lib.hid hb
      by_cases hlt : k < len
      · obtain ⟨b, off, e, hlb, hc⟩ := h.at k hlt
        injection e with e
        subst e
        have hc' : wr.cell? ⟨b, off + k, none⟩ = some (.int .u32 (S k)) := by rw [hl.cell (p := ⟨b, off + k, none⟩) hlb]; exact hc
        have hd := hb.cell k hlt
        have hz := hb.frozen k
        have hk2 : (k : Int) < (len : Int) := by omega
        clear hc hb
        go_wp2
        go_roundw
        case rel => exact ⟨k + 1, by omega, by go_num, by rw [← parV_set]; exact HB.out.set k _, hl.setCell (Nat.le_refl _) _⟩
        case measure => simp [intOf]; omega
      · obtain rfl : k = len := by omega
        clear hb
        go_wp2
        go_ret
        exact Cop.mk (HB.out.congr fun i hi => by simp [parV, hi]) hl (Nat.le_refl _)

def Bl (w : World) (e : Ending) (w' : World) : Prop := w' = w ∧ ∃ v, e = .returned (.bool v)
theorem zb (a0 : Option Addr) (l0 c0 : Nat) (a1 : Option Addr) (l1 c1 : Nat) (x2 : Int) (w : World) : Calls Try.prog 5 #[.slice a0 l0 c0, .slice a1 l1 c1, .int .u32 x2] w (Bl w) := by
  by_cases h0 : (1048576 : Int) < (l0 : Int)
  · go_enter Try.func5, Try.ntmps5
    go_wp2_with fail
    go_ret
    exact ⟨rfl, _, rfl⟩
  have e0 : IntKind.i64.wrap ((l0 : Int)) = (l0 : Int) := IntWalk.i64_in _ (by omega)
  by_cases h1 : (1048576 : Int) < (l1 : Int)
  · go_enter Try.func5, Try.ntmps5
    go_wp2_with fail
    go_ret
    exact ⟨rfl, _, rfl⟩
  have e1 : IntKind.i64.wrap ((l0 : Int) + (l1 : Int)) = (l0 : Int) + (l1 : Int) := IntWalk.i64_in _ (by omega)
  by_cases g1 : (1048576 : Int) < (l0 : Int) + (l1 : Int)
  · go_enter Try.func5, Try.ntmps5
    go_wp2_with fail
    go_ret
    exact ⟨rfl, _, rfl⟩
  go_enter Try.func5, Try.ntmps5
  go_wp2_with fail
  go_ret
  exact ⟨rfl, _, rfl⟩
set_option maxRecDepth 100000 in
theorem getC (C : Nat → Nat) (k ob : Nat) (blk : Nat → Nat) (V : Nat → Nat → Value) (s j : Nat) (w : World) (h : SM C k ob blk w V) (hs : s < k) (hj : j < C s) (hk : k ≤ 4097) (hc : C s ≤ 4096) :
    Calls Try.prog 12 #[.agg #[.slice (some ⟨ob, 0, none⟩) k k], .agg #[.int .u32 s, .int .u32 j]] w fun e w' => e = .returned (.pointer (some ⟨blk s, j * 10, none⟩)) ∧ Below w.heap.size w w' := by
  have co := h.1.cell s hs
  have hol := h.1.lt
  have hs2 : (s : Int) < (k : Int) := by omega
  have hj2 : (j : Int) < ((C s : Nat) : Int) := by omega
  clear h
  go_enter Try.func12, Try.ntmps12
  go_wp2_with fail
  go_quiet (fail)
  go_wp2_with fail
  go_ret
  exact ⟨rfl, below_drewN (by (repeat' (first | exact Below.refl _ _ | refine Below.drewR ?_ | (refine Below.alloc ?_ (by simp; omega) _) | (refine Below.alloc ?_ (by simp) _) | (refine Below.setCell ?_ (by simp; omega) _) | (refine Below.setCell ?_ (by simp) _)))) _⟩
def NL (n : Nat) (w : World) (e : Ending) (w' : World) : Prop := ∃ b, e = .returned (.slice (some ⟨b, 0, none⟩) n n) ∧ Fsl w' (some ⟨b, 0, none⟩) n (fun _ => .int .i64 (-1)) ∧ Below w.heap.size w w'
theorem nolinks (n : Nat) (w : World) (hn : n ≤ 4096) : Calls Try.prog 11 #[.int .i64 n] w (NL n w) := by
  have hm := run_make_one (P := Try.prog) Try.underlying28 intInfo rfl (by omega) n (by omega)
  go_enter Try.func11, Try.ntmps11
  go_wp2_with fail
  go_loopw [4] (fun i wr => ∃ x : Nat, x ≤ n ∧ i = .int .i64 x ∧ Fblk wr w.heap.size 3 n (parV (fun _ => .int .i64 (-1)) (.int .i64 0) x) ∧ Below w.heap.size w wr) (fun i _ => n - (intOf i).toNat)
  case atStart => exact ⟨0, by omega, rfl, by rw [parV_zero]; exact Fblk.made _ _ _ _, by (repeat' (first | exact Below.refl _ _ | refine Below.drewR ?_ | (refine Below.alloc ?_ (by simp; omega) _) | (refine Below.alloc ?_ (by simp) _) | (refine Below.setCell ?_ (by simp; omega) _) | (refine Below.setCell ?_ (by simp) _)))⟩
  case round =>
    obtain ⟨x, hx, rfl, hb, hl⟩ := hrel
    have HB := Lib.hid hb
    have HL := Lib.hid hl
    by_cases hlt : x < n
    · have hx2 : (x : Int) < (n : Int) := by omega
      have hd := hb.cell x hlt
      have hz := hb.frozen x
      clear hb hl
      go_wp2_with fail
      go_roundw
      case rel => exact ⟨x + 1, by omega, by go_num, by rw [← parV_set]; exact HB.out.set x _, HL.out.setCell (Nat.le_refl _) _⟩
      case measure => simp [intOf]; omega
    · obtain rfl : x = n := by omega
      clear hb hl
      go_wp2_with fail
      go_ret
      exact ⟨_, rfl, (HB.out.congr fun i hi => by simp [parV, hi]).sl, HL.out⟩
theorem Cnt.low {B : Nat} {w wr : World} {k : Nat} {v : Value} {p : Int} (h : Cnt B w wr k v p) : Below B w wr := by obtain ⟨_, _, _, _, _, h⟩ := h; exact h
theorem sm_below {C : Nat → Nat} {k ob B : Nat} {blk : Nat → Nat} {w w' : World} {V : Nat → Nat → Value} (h : SM C k ob blk w V) (hb : Below B w w') (hB : w.heap.size ≤ B) : SM C k ob blk w' V :=
  ⟨h.1.below hb (Nat.lt_of_lt_of_le h.1.lt hB), fun i hi => (h.2.1 i hi).below hb (Nat.lt_of_lt_of_le (h.2.1 i hi).lt hB), h.2.2.1, h.2.2.2⟩
theorem SM.write {C : Nat → Nat} {k ob : Nat} {blk : Nat → Nat} {w : World} {V : Nat → Nat → Value} (h : SM C k ob blk w V) {s : Nat} (hs : s < k) (q : Nat) (v : Value) :
    SM C k ob blk (w.setCell ⟨blk s, q, none⟩ v) (fun i => if i = s then upd (V s) q v else V i) := by
  obtain ⟨h1, h2, h3, h4⟩ := h
  have hne : ∀ i, i < k → i ≠ s → blk s ≠ blk i := fun i hi hn e => by
    rcases Nat.lt_or_gt_of_ne hn with hl | hl
    · have := h4 i s hl hs; omega
    · have := h4 s i hl hi; omega
  refine ⟨h1.other (by show blk s ≠ ob; have := h3 s hs; omega) _, fun i hi => ?_, h3, h4⟩
  by_cases e : i = s
  · subst e; simp only [if_true]; exact (h2 i hi).set q v
  · simp only [if_neg e]; exact (h2 i hi).other (by show blk s ≠ blk i; exact hne i hi e) _
/-- What stands while the law asks. -/
def Kp (C : Nat → Nat) (k ob n7 rb n : Nat) (blk : Nat → Nat) (V : Nat → Nat → Value) (VR : Nat → Value) (a : Option Addr) (U : Nat → Int) (w1 W : World) : Prop :=
  W.heap[n7]? = some (.cells #[.slice (some ⟨ob, 0, none⟩) k k] 34 (0, 0)) ∧ SM C k ob blk W V ∧ Fblk W rb 40 (n * 2) VR ∧ Fsl W a n (fun i => .int .u32 (U i)) ∧ Below w1.heap.size w1 W
section
variable {C : Nat → Nat} {k ob n7 rb n x s j : Nat} {blk : Nat → Nat} {V : Nat → Nat → Value} {VR : Nat → Value} {a : Option Addr} {U : Nat → Int} {w1 W W' : World}
theorem Kp.below (h : Kp C k ob n7 rb n blk V VR a U w1 W) (hb : Below W.heap.size W W') : Kp C k ob n7 rb n blk V VR a U w1 W' := by
  obtain ⟨h1, h2, h3, h4, h5⟩ := h
  have l1 := (Array.getElem?_eq_some_iff.1 h1).1
  exact ⟨(hb.block n7 l1).trans h1, sm_below h2 hb (Nat.le_refl _), h3.below hb h3.lt, h4.below hb, h5.trans (hb.mono h5.size)⟩
theorem Kp.lowH (h : Hid (Kp C k ob n7 rb n blk V VR a U w1 W)) : Below w1.heap.size w1 W := h.out.2.2.2.2
theorem Kp.drew (h : Kp C k ob n7 rb n blk V VR a U w1 W) : Kp C k ob n7 rb n blk V VR a U w1 W.drew := ⟨h.1, h.2.1, h.2.2.1, h.2.2.2.1, below_drew h.2.2.2.2⟩
theorem Kp.c7 (h : Kp C k ob n7 rb n blk V VR a U w1 W) : W.cell? ⟨n7, 0, none⟩ = some (.slice (some ⟨ob, 0, none⟩) k k) := by rw [cell_of_row W n7 0 _ 34 _ h.1]; rfl
theorem Kp.sym (h : Kp C k ob n7 rb n blk V VR a U w1 W) (hs : s < k) (hj : j < C s) : W.cell? ⟨blk s, j * 10 + 4, none⟩ = some (V s (j * 10 + 4)) := (h.2.1.2.1 s hs).cell _ (by omega)
theorem Kp.ref (h : Kp C k ob n7 rb n blk V VR a U w1 W) (hx : x < n) (v0 : VR (x * 2) = .int .u32 s) (v1 : VR (x * 2 + 1) = .int .u32 j) : W.cell? ⟨rb, x * 2, none⟩ = some (.int .u32 s) ∧ W.cell? ⟨rb, x * 2 + 1, none⟩ = some (.int .u32 j) := by
  have r0 := h.2.2.1.cell (x * 2) (by omega)
  have r1 := h.2.2.1.cell (x * 2 + 1) (by omega)
  rw [v0] at r0
  rw [v1] at r1
  exact ⟨r0, r1⟩
/-- Get, while the law asks. -/
theorem Kp.get (h : Hid (Kp C k ob n7 rb n blk V VR a U w1 W)) (hx : x < n) (v0 : VR (x * 2) = .int .u32 s) (v1 : VR (x * 2 + 1) = .int .u32 j) (hs : s < k) (hj : j < C s) (hk : k ≤ 4097) (hc : C s ≤ 4096) {v : Value} (hv : V s (j * 10 + 4) = v) :
    Calls Try.prog 12 #[.agg #[.slice (some ⟨ob, 0, none⟩) k k], .agg #[.int .u32 s, .int .u32 j]] W fun e w' => e = .returned (.pointer (some ⟨blk s, j * 10, none⟩)) ∧
      (w'.cell? ⟨n7, 0, none⟩ = some (.slice (some ⟨ob, 0, none⟩) k k) ∧ w'.cell? ⟨rb, x * 2, none⟩ = some (.int .u32 s) ∧ w'.cell? ⟨rb, x * 2 + 1, none⟩ = some (.int .u32 j) ∧ w'.cell? ⟨blk s, j * 10 + 4, none⟩ = some v) ∧ Hid (Kp C k ob n7 rb n blk V VR a U w1 w') :=
  (getC C k ob blk V s j W h.out.2.1 hs hj hk hc).mono fun e w' ⟨he, hb⟩ => by
    have h2 := h.out.below hb
    obtain ⟨q0, q1⟩ := h2.ref hx v0 v1
    exact ⟨he, ⟨h2.c7, q0, q1, by rw [← hv]; exact h2.sym hs hj⟩, Lib.hid h2⟩
theorem Kp.write (h : Kp C k ob n7 rb n blk V VR a U w1 W) (hs : s < k) (q : Nat) (v : Value) (h7 : blk s ≠ n7) (hr : blk s ≠ rb) (ha : ∀ x, a = some x → x.block ≠ blk s) (hw : w1.heap.size ≤ blk s) :
    Kp C k ob n7 rb n blk (fun i => if i = s then upd (V s) q v else V i) VR a U w1 (W.setCell ⟨blk s, q, none⟩ v) := by
  obtain ⟨h1, h2, h3, h4, h5⟩ := h
  exact ⟨by rw [heap_setCell_other _ _ _ _ (by show n7 ≠ blk s; exact fun e => h7 e.symm)]; exact h1, h2.write hs q v, h3.other (by show blk s ≠ rb; exact hr) _, h4.setCell ha v, h5.setCell (by show w1.heap.size ≤ blk s; exact hw) _⟩
end
set_option maxHeartbeats 4000000 in
set_option maxRecDepth 100000 in
theorem main (a0 : Option Addr) (l0 c0 : Nat) (Z : Nat → Int) (a1 : Option Addr) (l1 c1 : Nat) (U : Nat → Int) (q : Int) (w : World) (h0 : Fsl w a0 l0 (fun i => .int .u16 (Z i))) (hZ : ∀ i, i < l0 → 0 ≤ Z i ∧ Z i ≤ 65535)
    (h1 : Fsl w a1 l1 (fun i => .int .u32 (U i))) (hU : ∀ i, i < l1 → 0 ≤ U i ∧ U i ≤ 4294967295) (hq : 0 ≤ q ∧ q ≤ 4294967295) (m0 : l0 ≤ maxLen) (m1 : l1 ≤ maxLen) :
    Calls Try.prog 3 #[.slice a0 l0 c0, .slice a1 l1 c1, .int .u32 q] w fun e w' => e = .returned (.bool true) ∧ Below w.heap.size w w' := by
  unfold maxLen at m0 m1
  have H0 := Lib.hid h0
  have H1 := Lib.hid h1
  have HZ := Lib.hid hZ
  have HU := Lib.hid hU
  clear h0 h1 hZ hU
  obtain ⟨q0, q1⟩ := hq
  go_enter Try.func3, Try.ntmps3
  go_wp2_with fail
  refine (zb a0 l0 c0 a1 l1 c1 q _).mono ?_
  rintro e w1 ⟨rfl, v, rfl⟩
  cases v
  · go_wp2_with fail
    go_ret
    exact ⟨rfl, Below.refl _ _⟩
  by_cases g1 : (4096 : Int) < (l0 : Int)
  · go_wp2_with fail
    all_goals
      go_ret
      exact ⟨rfl, Below.refl _ _⟩
  by_cases g2 : (4096 : Int) < (l1 : Int)
  · go_wp2_with fail
    all_goals
      go_ret
      exact ⟨rfl, Below.refl _ _⟩
  have b0 : l0 ≤ 4096 := by omega
  have b1 : l1 ≤ 4096 := by omega
  go_wp2_with fail
  refine (c16 a0 l0 c0 Z _ H0.out (by omega)).mono ?_
  rintro e w2 ⟨a2, c2, rfl, _, hf2, hb2, _, _⟩
  have F2 := Lib.hid hf2
  have B2 := Lib.hid hb2
  clear hf2 hb2
  go_wp2_with fail
  refine (c32 a1 l1 c1 U _ (H1.out.below B2.out) (by omega)).mono ?_
  rintro e w3 ⟨a3, c3, rfl, _, hf3, hb3, _, _⟩
  have F3 := Lib.hid hf3
  have F2' := Lib.hid (F2.out.below hb3)
  have B3 := Lib.hid (B2.out.trans (hb3.mono B2.out.size))
  clear hf3 hb3 F2
  by_cases hn0 : l1 = 0
  · have g3 : ((l1 : Int) == 0) = true := by simp; omega
    clear hn0
    go_wp2_with fail
    go_ret
    exact ⟨rfl, B3.out⟩
  have hn1 : 0 < l1 := by omega
  have hn2 : 0 < (l1 : Int) := by omega
  have g3 : ((l1 : Int) == 0) = false := by simp; omega
  obtain ⟨qi, hqi⟩ : ∃ qi : Nat, q % (l1 : Int) = qi := Int.eq_ofNat_of_zero_le (Int.emod_nonneg _ (by omega))
  have hqi2 : qi < l1 := by have := Int.emod_lt_of_pos q hn2; omega
  have hq3 : q.tmod (l1 : Int) = qi := by rw [Int.tmod_eq_emod_of_nonneg q0]; exact hqi
  have hcv : IntKind.u32.wrap (l1 : Int) = (l1 : Int) := by rw [IntKind.wrap_u32]; omega
  clear hn0
  go_wp2_with fail
  refine (counts a2 l0 c2 Z l1 _ F2'.out HZ.out b0 b1).mono ?_
  rintro e w4 ⟨v, k, rfl, hk, hcnt⟩
  obtain ⟨g, capg, C, rfl, hC, hpC, hk0, hg⟩ := hcnt.out hn1
  have HC4 := Lib.hid hC
  have HP := Lib.hid hpC
  have F4 := Lib.hid (F3.out.below hcnt.low)
  have B4 := Lib.hid (B3.out.trans (hcnt.low.mono B3.out.size))
  have hk1 : k ≤ 4097 := by omega
  clear hC hpC hcnt hg F3 F2'
  go_wp2_with fail
  refine (refs g capg k l1 C _ HC4.out HP.out hk1 b1).mono ?_
  rintro e w5 ⟨rb, rfl, hrb, hR, hb5⟩
  have R5 := Lib.hid hR
  have F5 := Lib.hid (F4.out.below hb5)
  have C5 := Lib.hid (HC4.out.below hb5)
  have B5 := Lib.hid (B4.out.trans (hb5.mono B4.out.size))
  clear hrb hR hb5 HC4 F4
  go_wp2_with fail
  refine (nolinks l1 _ b1).mono ?_
  rintro e w6 ⟨tb, rfl, hT, hb6⟩
  have T6 := Lib.hid hT
  have F6 := Lib.hid (F5.out.below hb6)
  have C6 := Lib.hid (C5.out.below hb6)
  obtain ⟨VR, hVR, hall⟩ := R5.out
  have R6 := Lib.hid (show Rf C k l1 rb l1 w6 from ⟨VR, hVR.below hb6 hVR.lt, hall⟩)
  have B6 := Lib.hid (B5.out.trans (hb6.mono B5.out.size))
  have HB6 := Lib.hid (show rb < w6.heap.size ∧ ∃ b off, a3 = some ⟨b, off, none⟩ ∧ b < w6.heap.size from ⟨(hVR.below hb6 hVR.lt).lt, by obtain ⟨b, off, e, hb, _⟩ := F6.out.at 0 hn1; exact ⟨b, off, e, hb⟩⟩)
  clear hT hb6 hVR hall R5 F5 C5 VR
  go_wp2_with fail
  refine (build g capg k l1 rb C _ l1 (fun _ => -1) _ l1 c3 U _ C6.out HP.out R6.out T6.out (fun i hi => by omega) F6.out hk1 b1 b1).mono ?_
  rintro e w7 ⟨ob, blk, V, rfl, hsm, hsy, hob, hb7⟩
  have S7 := Lib.hid hsm
  have Y7 := Lib.hid hsy
  have F7 := Lib.hid (F6.out.below hb7)
  obtain ⟨VR, hVR, hall⟩ := R6.out
  have R7 := Lib.hid (hVR.below hb7 hVR.lt)
  have HA := Lib.hid hall
  have B7 := Lib.hid (B6.out.trans (hb7.mono B6.out.size))
  have O7 := Lib.hid hob
  clear hsm hsy hob hb7 hVR hall R6 F6 C6 T6
  go_wp2_with fail
  obtain ⟨sq, jq, hat, v0, v1⟩ := HA.out qi hqi2
  have HAT := Lib.hid hat
  obtain ⟨hs, hj, _⟩ := hat
  have hcq : C sq ≤ 4096 := by have := psum_lt C hs; have := HP.out; have := psum_mono C (s := sq + 1) (t := k) hs; omega
  have hk7 : Kp C k ob w7.heap.size rb l1 blk V VR a3 U w1 ((w7.alloc (.cells #[.slice (some ⟨ob, 0, none⟩) k k] 34)).alloc (.cells #[.slice (some ⟨ob, 0, none⟩) k k] 34)) :=
    ⟨by rw [Below.heap_alloc _ _ _ (by simp)]; exact heap_alloc_new _ _, sm_below S7.out (by (repeat' (first | exact Below.refl _ _ | refine Below.drewR ?_ | (refine Below.alloc ?_ (by simp; omega) _) | (refine Below.alloc ?_ (by simp) _) | (refine Below.setCell ?_ (by simp; omega) _) | (refine Below.setCell ?_ (by simp) _)))) (Nat.le_refl _), R7.out.below (show Below w7.heap.size w7 _ by (repeat' (first | exact Below.refl _ _ | refine Below.drewR ?_ | (refine Below.alloc ?_ (by simp; omega) _) | (refine Below.alloc ?_ (by simp) _) | (refine Below.setCell ?_ (by simp; omega) _) | (refine Below.setCell ?_ (by simp) _)))) R7.out.lt, F7.out.below (by (repeat' (first | exact Below.refl _ _ | refine Below.drewR ?_ | (refine Below.alloc ?_ (by simp; omega) _) | (refine Below.alloc ?_ (by simp) _) | (refine Below.setCell ?_ (by simp; omega) _) | (refine Below.setCell ?_ (by simp) _)))), (B7.out.alloc B7.out.size _).alloc (by have := B7.out.size; simp; omega) _⟩
  have c8 : ((w7.alloc (.cells #[.slice (some ⟨ob, 0, none⟩) k k] 34)).alloc (.cells #[.slice (some ⟨ob, 0, none⟩) k k] 34)).cell? ⟨w7.heap.size + 1, 0, none⟩ = some (.slice (some ⟨ob, 0, none⟩) k k) := by
    rw [cell_of_row _ (w7.heap.size + 1) 0 _ 34 (0, 0) (by have := heap_alloc_new (w7.alloc (.cells #[.slice (some ⟨ob, 0, none⟩) k k] 34)) (.cells #[.slice (some ⟨ob, 0, none⟩) k k] 34); simpa using this)]; rfl
  have HK := Lib.hid hk7
  clear hk7
  generalize ((w7.alloc (.cells #[.slice (some ⟨ob, 0, none⟩) k k] 34)).alloc (.cells #[.slice (some ⟨ob, 0, none⟩) k k] 34)) = W at HK c8 ⊢
  obtain ⟨r0, r1⟩ := HK.out.ref hqi2 v0 v1
  have hrl := HK.out.2.2.1.lt
  have hqi3 : (qi : Int) < (l1 : Int) := by omega
  have HV0 := Lib.hid v0
  have HV1 := Lib.hid v1
  clear v0 v1
  go_still_tail 5, (by kernel_rfl)
  repeat still_step
  try refine wpStill_nil ?_
  go_wp2_with fail
  refine (Kp.get (Lib.hid HK.out.drew) hqi2 HV0.out HV1.out hs hj hk1 hcq rfl).mono ?_
  rintro e w8 ⟨rfl, ⟨d7, d0, d1, d4⟩, K8⟩
  obtain ⟨bu, offu, rfl, hbu, hcu⟩ := K8.out.2.2.2.1.at qi hqi2
  have z4 := (K8.out.2.1.2.1 sq hs).frozen (jq * 10 + 4)
  have hbl : w6.heap.size < ob ∧ ob < blk sq ∧ blk sq < w7.heap.size := ⟨O7.out, S7.out.2.2.1 sq hs, (S7.out.2.1 sq hs).lt⟩
  have hw16 := B6.out.size
  have K9 := Lib.hid (K8.out.write hs (jq * 10 + 4) (.int .u32 ((U qi + 1) % 4294967296)) (by omega) (by have := HB6.out.1; omega) (by
    intro x hx
    obtain ⟨b, off, e, hb⟩ := HB6.out.2
    rw [e] at hx
    injection hx with hx
    subst hx
    show b ≠ blk sq
    omega) (by omega))
  have HV := Lib.hid (show ∀ x s j, x < l1 → At C k x s j → (fun i => if i = sq then upd (V sq) (jq * 10 + 4) (.int .u32 ((U qi + 1) % 4294967296)) else V i) s (j * 10 + 4) = .int .u32 (if x = qi then (U qi + 1) % 4294967296 else U x) from by
    intro x s j hx ha
    have hv : V s (j * 10 + 4) = .int .u32 (U x) := by
      have := (Y7.out s ha.1 j ha.2.1).2.2
      rw [ha.2.2] at this
      rw [this]; unfold at32; rw [if_pos hx]
    by_cases e : x = qi
    · subst e
      obtain ⟨rfl, rfl⟩ := ha.uniq HAT.out
      simp only [if_true]
      exact upd_same _ _ _
    · rw [if_neg e]
      by_cases e2 : s = sq
      · subst e2
        simp only [if_true]
        have hj2 : j ≠ jq := fun e3 => by subst e3; exact e (ha.inj HAT.out)
        rw [upd_other _ _ _ _ (by omega)]
        exact hv
      · simp only [if_neg e2]
        exact hv)
  clear c8 r0 r1 d7 d0 d1 hbl hw16
  generalize (fun i => if i = sq then upd (V sq) (jq * 10 + 4) (.int .u32 ((U qi + 1) % 4294967296)) else V i) = V9 at K9 HV
  go_wp2_with fail
  go_loopw [14] (fun i wr => ∃ x : Nat, x ≤ l1 ∧ i = .int .i64 x ∧ Hid (Kp C k ob w7.heap.size rb l1 blk V9 VR (some ⟨bu, offu, none⟩) U w1 wr)) (fun i _ => l1 - (intOf i).toNat)
  case atStart => exact ⟨0, Nat.zero_le _, rfl, K9⟩
  case round =>
    obtain ⟨x, hx, rfl, KR⟩ := hrel
    by_cases hlt : x < l1
    · obtain ⟨s, j, hat, v0, v1⟩ := HA.out x hlt
      have hvv := HV.out x s j hlt hat
      obtain ⟨hs', hj', _⟩ := hat
      have hcs' : C s ≤ 4096 := by have := psum_lt C hs'; have := HP.out; have := psum_mono C (s := s + 1) (t := k) hs'; omega
      obtain ⟨r0, r1⟩ := KR.out.ref hlt v0 v1
      have f7 := KR.out.c7
      have f4 := KR.out.sym hs' hj'
      rw [hvv] at f4
      have hux := KR.out.2.2.2.1.cell x hlt
      have huq := KR.out.2.2.2.1.cell qi hqi2
      have hx2 : (x : Int) < (l1 : Int) := by omega
      have HV0' := Lib.hid v0
      have HV1' := Lib.hid v1
      have HVV := Lib.hid hvv
      have KRd := Lib.hid KR.out.drew
      clear v0 v1 hvv
      by_cases hxq : x = qi
      · rw [if_pos hxq, ← hxq] at f4
        have hxq2 : ((x : Int) == (qi : Int)) = true := by simp; omega
        have HVX := Lib.hid (show V9 s (j * 10 + 4) = .int .u32 ((U x + 1) % 4294967296) by rw [HVV.out, if_pos hxq, hxq])
        clear hxq
        go_wp2_with fail
        go_region_held3 (fun w' => w'.cell? ⟨w7.heap.size, 0, none⟩ = some (.slice (some ⟨ob, 0, none⟩) k k) ∧ w'.cell? ⟨rb, x * 2, none⟩ = some (.int .u32 s) ∧ w'.cell? ⟨rb, x * 2 + 1, none⟩ = some (.int .u32 j) ∧ w'.cell? ⟨blk s, j * 10 + 4, none⟩ = some (.int .u32 ((U x + 1) % 4294967296)) ∧ Hid (Kp C k ob w7.heap.size rb l1 blk V9 VR (some ⟨bu, offu, none⟩) U w1 w'))
          (first | exact ⟨f7, r0, r1, f4, KRd⟩ | exact ⟨g7, g0, g1, g4, g5⟩ | assumption)
          (first | (go_at_call 12; refine (Kp.get (by assumption) hlt HV0'.out HV1'.out hs' hj' hk1 hcs' HVX.out).mono ?_; rintro e w' ⟨rfl, ⟨g7, g0, g1, g4⟩, g5⟩))
        go_wp2_with fail
        go_roundw
        case rel => exact ⟨x + 1, by omega, by go_num, by assumption⟩
        case measure => simp [intOf]; omega
      · rw [if_neg hxq] at f4
        have hxq2 : ((x : Int) == (qi : Int)) = false := by simp; omega
        go_wp2_with fail
        go_region_held3 (fun w' => w'.cell? ⟨w7.heap.size, 0, none⟩ = some (.slice (some ⟨ob, 0, none⟩) k k) ∧ w'.cell? ⟨rb, x * 2, none⟩ = some (.int .u32 s) ∧ w'.cell? ⟨rb, x * 2 + 1, none⟩ = some (.int .u32 j) ∧ w'.cell? ⟨blk s, j * 10 + 4, none⟩ = some (.int .u32 (U x)) ∧ Hid (Kp C k ob w7.heap.size rb l1 blk V9 VR (some ⟨bu, offu, none⟩) U w1 w'))
          (first | exact ⟨f7, r0, r1, f4, KRd⟩ | exact ⟨g7, g0, g1, g4, g5⟩ | assumption)
          (first | (go_at_call 12; refine (Kp.get (by assumption) hlt HV0'.out HV1'.out hs' hj' hk1 hcs' (by rw [HVV.out, if_neg hxq])).mono ?_; rintro e w' ⟨rfl, ⟨g7, g0, g1, g4⟩, g5⟩))
        go_wp2_with fail
        go_roundw
        case rel => exact ⟨x + 1, by omega, by go_num, by assumption⟩
        case measure => simp [intOf]; omega
    · have hvv := HV.out qi sq jq hqi2 HAT.out
      rw [if_pos rfl] at hvv
      obtain ⟨r0, r1⟩ := KR.out.ref hqi2 HV0.out HV1.out
      have f7 := KR.out.c7
      have f4 := KR.out.sym hs hj
      rw [hvv] at f4
      have HVV := Lib.hid hvv
      have KRd := Lib.hid KR.out.drew
      obtain ⟨z, bytes, _, hi⟩ := symInfo
      obtain ⟨i0, hi, _⟩ := info_parts hi
      have heq := fun w : World => run_eql_ptr_same (P := Try.prog) (w := w) ⟨blk sq, jq * 10, none⟩ Try.underlying37 hi
      clear hvv hi
      go_wp2_with fail
      go_region_held3 (fun w' => w'.cell? ⟨w7.heap.size, 0, none⟩ = some (.slice (some ⟨ob, 0, none⟩) k k) ∧ w'.cell? ⟨rb, qi * 2, none⟩ = some (.int .u32 sq) ∧ w'.cell? ⟨rb, qi * 2 + 1, none⟩ = some (.int .u32 jq) ∧ w'.cell? ⟨blk sq, jq * 10 + 4, none⟩ = some (.int .u32 ((U qi + 1) % 4294967296)) ∧ Hid (Kp C k ob w7.heap.size rb l1 blk V9 VR (some ⟨bu, offu, none⟩) U w1 w'))
          (first | exact ⟨f7, r0, r1, f4, KRd⟩ | exact ⟨g7, g0, g1, g4, g5⟩ | assumption)
          (first | (go_at_call 12; refine (Kp.get (by assumption) hqi2 HV0.out HV1.out hs hj hk1 hcq HVV.out).mono ?_; rintro e w' ⟨rfl, ⟨g7, g0, g1, g4⟩, g5⟩))
      go_wp2_with fail
      go_ret
      exact ⟨rfl, Kp.lowH (C := C) (k := k) (ob := ob) (n7 := w7.heap.size) (rb := rb) (n := l1) (blk := blk) (V := V9) (VR := VR) (a := some ⟨bu, offu, none⟩) (U := U) (by assumption)⟩

set_option maxHeartbeats 2000000 in
theorem walk (a0 : Option Addr) (len0 cap0 : Nat) (z0 : List Int) (a1 : Option Addr) (len1 cap1 : Nat) (z1 : List Int) (a2 : Int) (w : World) (w0 : Aid.IsRow .u16 w a0 len0 cap0 z0) (w1 : Aid.IsRow .u32 w a1 len1 cap1 z1) (w2 : (Lit.int .u32 a2).wf = true) :
    Calls Try.prog 3 #[.slice a0 len0 cap0, .slice a1 len1 cap1, .int .u32 a2] w fun e w' => e = .returned (.bool true) ∧ Below w.heap.size w w' := by
  obtain ⟨Z, hF0, hZ, m0, _⟩ := Fl.of_ints w0
  obtain ⟨U, hF1, hU, m1, _⟩ := Fl.of_ints w1
  exact main a0 len0 cap0 Z a1 len1 cap1 U a2 w hF0 (fun i hi => Aid.u16_of (hZ i hi)) hF1 (fun i hi => Aid.u32_of (hU i hi)) (Aid.u32_of w2) m0 m1

set_option maxRecDepth 100000 in
theorem lifted (os : Os) (started : os.Started) (H : Type) (enc : TypeId × Value → H) :
    ReturnsInHanded {} Try.checked os 3 .any (Rows.fnGetWritesLandInOneSharedCellSpec.pre6 enc Try.prog Try.f3 Rows.fnGetWritesLandInOneSharedCellRow.domain false) (Rows.fnGetWritesLandInOneSharedCellSpec.post enc Try.prog Try.f3 false true false false) := by
  refine returnsInHanded_of_change (C := Try.checked) own started (by kernel_rfl) Try.func3
    (ChangeSpec.witness6 (enc := enc) (C := Try.checked) false ⟨#[], #[.slice none 0 0, .slice none 0 0, .int .u32 0], []⟩ 8 (by kernel_rfl) (by kernel_rfl) (by kernel_rfl) (by kernel_rfl)) ?_
  intro W base args ds gs before hval0 hW hcnd _
  have hval : ∀ (j : Nat) t v, Try.f3.params[j]? = some t → args[j]? = some v → Value.okWide Try.prog W .any base t v := hval0
  have hW' := hW
  obtain ⟨p, q, hA0, hV, rfl, hfz, hnd⟩ := hW
  have hA : DataW.TrodAll enc Try.prog W 0 (fun _ => true) true Try.f3.params.toList args.toList ds p := hA0
  rw [Try.params3] at hA hval
  obtain ⟨v0, vs0, d0, ds0, p0, q0, hargs, rfl, rfl, h0, r0⟩ := trodAll_cons hA
  obtain ⟨v1, vs1, d1, ds1, p1, q1, rfl, rfl, rfl, h1, r1⟩ := trodAll_cons r0
  obtain ⟨v2, vs2, d2, ds2, p2, q2, rfl, rfl, rfl, h2, r2⟩ := trodAll_cons r1
  obtain ⟨rfl, rfl, rfl⟩ := trodAll_nil r2
  obtain rfl : args = #[v0, v1, v2] := by cases args; simp_all
  obtain ⟨rfl, rfl⟩ := trodVars_none hV
  obtain ⟨a0, len0, cap0, rfl⟩ := okWide_slice Try.underlying22 (hval 0 22 v0 rfl rfl)
  have k0 := h0
  have lt0 : ∀ x ∈ p0, x.block < W.heap.size := by obtain ⟨m, hm⟩ := k0; exact DataW.trod_lt m _ _ _ hm
  obtain ⟨z0, w0⟩ := Aid.open_row Try.underlying22 Try.underlying44 (by kernel_rfl) h0
  obtain ⟨a1, len1, cap1, rfl⟩ := okWide_slice Try.underlying23 (hval 1 23 v1 rfl rfl)
  have k1 := h1
  have lt1 : ∀ x ∈ p1, x.block < W.heap.size := by obtain ⟨m, hm⟩ := k1; exact DataW.trod_lt m _ _ _ hm
  obtain ⟨z1, w1⟩ := Aid.open_row Try.underlying23 Try.underlying24 (by kernel_rfl) h1
  obtain ⟨a2, rfl, rfl, rfl, w2⟩ := open_int Try.underlying24 (hval 2 24 v2 rfl rfl) h2
  clear hA0 hval0
  refine (walk a0 len0 cap0 z0 a1 len1 cap1 z1 a2 W w0 w1 w2).mono fun e W' ⟨he, bel⟩ => ?_
  subst he
  exact ⟨_, rfl, _, _, _, [], _, [], hW', trodAll_mk1 (shut_bool Try.underlying4 _), (trodAll_cons_mk (Below.trod laidOut (by kernel_rfl) (of_decide_eq_true (by kernel_rfl)) k0 bel lt0) (trodAll_cons_mk (Below.trod laidOut (by kernel_rfl) (of_decide_eq_true (by kernel_rfl)) k1 bel lt1) (trodAll_cons_mk (shut_int Try.underlying24 w2) trodAll_mk0))), rfl, bel.frame _, fun h => by cases h⟩

theorem joined : joinedFacts Try.prog 3 Try.f3 Rows.fnGetWritesLandInOneSharedCellSpec Rows.fnGetWritesLandInOneSharedCellRow = true := by
  unfold joinedFacts
  rw [Facts.enter, Facts.lifts, Facts.make]
  kernel_rfl

theorem over : Rows.fnGetWritesLandInOneSharedCellRow.holds Try.pinned (OpenSpec.ofChange Rows.fnGetWritesLandInOneSharedCellSpec) :=
  OpenClaim.holds_of_wide 3 Try.f3 rfl rfl rfl rfl rfl rfl rfl ⟨rfl, rfl, rfl, rfl, rfl⟩ rfl rfl rfl rfl rfl (by kernel_rfl) Try.func3 joined
    (of_decide_eq_true (by kernel_rfl)) (by unfold Func.isWrapper; first | (rw [if_pos (by decide +kernel)]; kernel_rfl) | (rw [if_neg (by decide +kernel)]; exact ⟨rfl, rfl⟩))
    (fun os started H enc _ => lifted os started H enc)

theorem proved : Rows.FnGetWritesLandInOneSharedCellSaid :=
  over
#print axioms proved
end Go.Proofs.Ytkkhfhbmcdpboaa.fnGetWritesLandInOneSharedCell
