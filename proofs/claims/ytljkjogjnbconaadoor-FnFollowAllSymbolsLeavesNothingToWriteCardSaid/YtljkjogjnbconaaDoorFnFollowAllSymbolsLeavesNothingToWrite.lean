/- After FollowAllSymbols no later FollowSymbols writes anything; use counts stay. The variable InvalidRef holds what the program's text lays. -/
import Derived.Test.YtljkjogjnbconaaDoorRows
import Derived.Test.YtljkjogjnbconaaDoorCards
import Derived.Test.YtljkjogjnbconaaDoorTie
import Derived.WalkKit
import Derived.ProofKit
import Derived.LaidMore
import Derived.Lay
import Derived.OpenShut
import Derived.ShutString
import Derived.Stop.Joined
import Derived.SevenTiedAt
import Derived.Lib.LaidU8
import Derived.Carry
import Derived.Lib.Hide
import Derived.Test.YtljkjogjnbconaaDoorAid
import Derived.Test.YtljkjogjnbconaaDoorFl
import Derived.Test.YtljkjogjnbconaaDoorPb
import Derived.Test.YtljkjogjnbconaaDoorQd
import Derived.Test.YtljkjogjnbconaaDoorLk
import Derived.WalkSpells
import Derived.LoopTactic
import Derived.IntWalk
import Derived.Outline
import Derived.Deep.QuietTactic
import Derived.BigQuiet
import Derived.Deep.RegionHeld3
import Derived.StillTailTactics
import Derived.LaidEqlPtr
import Derived.Laws.StructEq
namespace Go.Proofs.YtljkjogjnbconaaDoor.fnFollowAllSymbolsLeavesNothingToWrite
open Go.ChangeShapes Go.WideShapes Go.ChangeAt Go.RowKit
open Go.ChangeMaps (open_string shut_string)
set_option linter.unusedVariables false

theorem own : ownKnob Tryd.prog.godebug = none := by kernel_rfl
theorem laidOut : laidOutB Tryd.prog = true := by kernel_rfl
open Fl Pb Qd Lk
theorem intInfo : (Tryd.prog.info? 3).map (fun i => (i.zero, i.size, i.bytes)) = some (some (.int .i64 0), 1, 8) := by kernel_rfl
/-- make([]int, 0, c). -/
theorem mk0 (c : Nat) (hc : c ≤ 1048577) (w : World) : (Instr.makeSlice 29 (.int .i64 0) (.int .i64 c)).run Tryd.prog w = .ok (.slice (some ⟨w.heap.size, 0, none⟩) 0 c) (w.alloc (.cells (madeCells #[.int .i64 0] c) 3)) := by
  obtain ⟨i0, hi, hz0, hz1, hz2⟩ := info_parts intInfo
  have h := run_make (P := Tryd.prog) w 29 3 i0 _ Tryd.underlying29 hi hz0 .i64 .i64 0 (c : Int) (Int.le_refl _) (by omega) (by rw [hz2]; omega) (by omega)
  rw [hz1] at h
  simpa [Value.cells] using h
theorem own0 (B c : Nat) (hc : c ≤ 1048577) (w : World) (hB : B ≤ w.heap.size) : (w.alloc (.cells (madeCells #[.int .i64 0] c) 3)).ownsRow B 3 1 (.slice (some ⟨w.heap.size, 0, none⟩) 0 c) 0 [] :=
  ⟨rfl, .inr ⟨w.heap.size, c, _, rfl, hB, heap_alloc_new _ _, Nat.zero_le _, by unfold maxLen; omega, by rw [size_madeCells]; simp, by simp⟩⟩
/-- What is counted so far. -/
def Cnt (B : Nat) (w wr : World) (k : Nat) (v : Value) (pos : Int) : Prop :=
  ∃ C : List Int, wr.ownsRow B 3 1 v C.length (C.map (Value.int .i64)) ∧ (∀ c ∈ C, 0 ≤ c) ∧ C.sum = pos ∧ C.length = k ∧ Below B w wr
theorem Cnt.start (w : World) (c : Nat) (hc : c ≤ 1048577) : Cnt w.heap.size w (w.alloc (.cells (madeCells #[.int .i64 0] c) 3)) 0 (.slice (some ⟨w.heap.size, 0, none⟩) 0 c) 0 :=
  ⟨[], own0 _ c hc w (Nat.le_refl _), (fun c h => by cases h), rfl, rfl, by (repeat' (first | exact Below.refl _ _ | refine Below.drewR ?_ | (refine Below.alloc ?_ (by simp; omega) _) | (refine Below.alloc ?_ (by simp) _) | (refine Below.setCell ?_ (by simp; omega) _) | (refine Below.setCell ?_ (by simp) _)))⟩
theorem cell_new1 (w : World) (x : Value) (t : TypeId) : ∀ j u, [x][j]? = some u → (w.alloc (.cells #[x] t)).cell? ((⟨w.heap.size, 0, none⟩ : Addr).add j) = some u := by
  intro j u h
  cases j with
  | zero =>
    simp at h; subst h
    rw [show ((⟨w.heap.size, 0, none⟩ : Addr).add 0) = ⟨w.heap.size, 0, none⟩ from rfl, cell_of_row _ _ 0 _ t _ (heap_alloc_new _ _)]; rfl
  | succ j => simp at h
/-- One more count appended. -/
theorem Cnt.app {B k : Nat} {w wr : World} {v : Value} {pos c : Int} (h : Cnt B w wr k v pos) (hc : 0 ≤ c) (hk : k ≤ 1048576) (hB : B ≤ wr.heap.size) :
    ∃ v' w', (Builtin.append_ #[29, 29] 29 #[v, .slice (some ⟨wr.heap.size, 0, none⟩) 1 1]).run Tryd.prog (wr.alloc (.cells #[.int .i64 c] 3)) = .ok v' w' ∧ Cnt B w w' (k + 1) v' (pos + c) := by
  obtain ⟨C, ho, hn, hs, hl, hb⟩ := h
  obtain ⟨i0, hi, hz0, hz1, hz2⟩ := info_parts intInfo
  have hlen : (C.map (Value.int .i64)).length = C.length := by simp
  have ho2 : (wr.alloc (.cells #[.int .i64 c] 3)).ownsRow B 3 1 v (C.map (Value.int .i64)).length (C.map (Value.int .i64)) := by rw [hlen]; exact ho.alloc _
  obtain ⟨v', w', hr, h2, h3, h4⟩ := app_slice (P := Tryd.prog) (ty := 29) (wr.alloc (.cells #[.int .i64 c] 3)) Tryd.underlying29 hi hz0 hz1 hz2 rfl ho2 ⟨wr.heap.size, 0, none⟩ 1 1 [.int .i64 c] rfl (cell_new1 wr _ _) (by intro u hu; simp at hu; subst hu; rfl)
    (by rw [hlen]; unfold maxLen; omega) (by rw [hlen]; omega) (by simp; omega)
  refine ⟨v', w', hr, C ++ [c], ?_, ?_, ?_, by simp [hl], ?_⟩
  · rw [hlen] at h2
    simpa using h2
  · intro x hx
    rw [List.mem_append, List.mem_singleton] at hx
    rcases hx with hx | rfl
    · exact hn x hx
    · exact hc
  · simp [hs]
  · refine (hb.alloc hB (.cells #[.int .i64 c] 3)).trans ?_
    refine ⟨h3.os, h3.tape, h3.output, h3.size, fun i hi' => h3.block i (by simp; omega) fun e => ?_⟩
    have := (ho.lt i e.symm).1
    omega
def CntR (l : Nat) (n : Int) (w : World) (e : Ending) (w' : World) : Prop := ∃ v k, e = .returned v ∧ k ≤ l + 1 ∧ Cnt w.heap.size w w' k v n
set_option maxRecDepth 100000 in
theorem counts (a : Option Addr) (l cap : Nat) (Z : Nat → Int) (n : Nat) (w : World) (h : Fsl w a l (fun i => .int .u16 (Z i))) (hZ : ∀ i, i < l → 0 ≤ Z i ∧ Z i ≤ 65535) (hl : l ≤ 4096) (hn : n ≤ 4096) :
    Calls Tryd.prog 10 #[.slice a l cap, .int .i64 n] w (CntR l n w) := by
  have HZ := Lib.hid hZ
  have hm := mk0 (l + 1) (by omega)
  have e1 : ((l + 1 : Nat) : Int) = (l : Int) + 1 := by omega
  rw [e1] at hm
  clear e1 hZ
  have HS := Lib.hid (Cnt.start w (l + 1) (by omega))
  go_enter Tryd.func10, Tryd.ntmps10
  go_wp2_with fail
  go_loopw [5, 6, 7] (fun v p i wr => ∃ (k : Nat) (pos : Int), k ≤ l ∧ i = .int .i64 k ∧ p = .int .i64 pos ∧ 0 ≤ pos ∧ pos ≤ n ∧ Hid (Cnt w.heap.size w wr k v pos)) (fun _ _ i _ => l - (intOf i).toNat)
  case atStart => exact ⟨0, 0, by omega, rfl, rfl, by omega, by omega, HS⟩
  case round =>
    obtain ⟨k, pos, hk, rfl, rfl, hp0, hp1, HC⟩ := hrel
    have hsz : w.heap.size ≤ wr.heap.size := by obtain ⟨_, _, _, _, _, hb⟩ := HC.out; exact hb.size
    by_cases hlt : k < l
    · obtain ⟨b, off, rfl, hlb, hc0⟩ := h.at k hlt
      obtain ⟨z0, z1⟩ := HZ.out k hlt
      have hc : wr.cell? ⟨b, off + k, none⟩ = some (.int .u16 (Z k)) := by obtain ⟨_, _, _, _, _, hb⟩ := HC.out; rw [hb.cell (p := ⟨b, off + k, none⟩) hlb]; exact hc0
      clear hc0
      have hk2 : (k : Int) < (l : Int) := by omega
      by_cases hgt : (n : Int) - pos < Z k
      · have HA := Lib.hid (HC.out.app (c := (n : Int) - pos) (by omega) (by omega) hsz)
        go_wp2_with (at_builtin; refine wpList_app rfl _ _ #[29, 29] rfl rfl rfl HA.out ?_; intro v' w1 hcn; have HN := Lib.hid hcn; clear hcn)
        go_roundw
        case rel => exact ⟨k + 1, n, by omega, by go_num, by go_num, by omega, by omega, Lib.hid (by have := HN.out; rwa [show pos + ((n : Int) - pos) = n by omega] at this)⟩
        case measure => simp [intOf]; omega
      · have HA := Lib.hid (HC.out.app (c := Z k) z0 (by omega) hsz)
        go_wp2_with (at_builtin; refine wpList_app rfl _ _ #[29, 29] rfl rfl rfl HA.out ?_; intro v' w1 hcn; have HN := Lib.hid hcn; clear hcn)
        go_roundw
        case rel => exact ⟨k + 1, pos + Z k, by omega, by go_num, rfl, by omega, by omega, HN⟩
        case measure => simp [intOf]; omega
    · obtain rfl : k = l := by omega
      by_cases hpn : pos < (n : Int)
      · have HA := Lib.hid (HC.out.app (c := (n : Int) - pos) (by omega) (by omega) hsz)
        go_wp2_with (at_builtin; refine wpList_app rfl _ _ #[29, 29] rfl rfl rfl HA.out ?_; intro v' w1 hcn; have HN := Lib.hid hcn; clear hcn)
        go_ret
        exact ⟨_, k + 1, rfl, Nat.le_refl _, by have := HN.out; rwa [show pos + ((n : Int) - pos) = n by omega] at this⟩
      · obtain rfl : pos = (n : Int) := by omega
        go_wp2_with fail
        go_ret
        exact ⟨_, k, rfl, by omega, HC.out⟩
def psum (C : Nat → Nat) : Nat → Nat
  | 0 => 0
  | s + 1 => psum C s + C s
theorem psum_mono (C : Nat → Nat) {s t : Nat} (h : s ≤ t) : psum C s ≤ psum C t := by
  induction t with
  | zero => obtain rfl : s = 0 := by omega
            exact Nat.le_refl _
  | succ t ih =>
    by_cases e : s = t + 1
    · subst e; exact Nat.le_refl _
    · exact Nat.le_trans (ih (by omega)) (Nat.le_add_right _ _)
theorem psum_lt (C : Nat → Nat) {s t : Nat} (h : s < t) : psum C s + C s ≤ psum C t := psum_mono C (t := t) h
theorem psum_congr {C D : Nat → Nat} : ∀ s, (∀ i, i < s → C i = D i) → psum C s = psum D s
  | 0, _ => rfl
  | s + 1, h => by unfold psum; rw [psum_congr s fun i hi => h i (by omega), h s (by omega)]
theorem psum_cons (C : Nat → Nat) : ∀ n, psum C (n + 1) = C 0 + psum (fun i => C (i + 1)) n
  | 0 => by simp [psum]
  | n + 1 => by rw [psum, psum_cons C n, psum]; omega
theorem psum_list : ∀ L : List Int, (∀ c ∈ L, 0 ≤ c) → (psum (fun i => (L.getD i 0).toNat) L.length : Int) = L.sum
  | [], _ => rfl
  | x :: L, h => by
    have ih := psum_list L fun c hc => h c (List.mem_cons_of_mem _ hc)
    have hx := h x List.mem_cons_self
    rw [List.length_cons, psum_cons, List.sum_cons, ← ih]
    simp only [List.getD_cons_zero, List.getD_cons_succ]
    omega
/-- (s, j) is the place of the flat number x. -/
def At (C : Nat → Nat) (k x s j : Nat) : Prop := s < k ∧ j < C s ∧ psum C s + j = x
theorem At.uniq {C : Nat → Nat} {k x s j t i : Nat} (h : At C k x s j) (h2 : At C k x t i) : s = t ∧ j = i := by
  obtain ⟨a1, a2, a3⟩ := h
  obtain ⟨b1, b2, b3⟩ := h2
  have : s = t := by
    rcases Nat.lt_trichotomy s t with hl | hl | hl
    · have := psum_lt C hl; omega
    · exact hl
    · have := psum_lt C hl; omega
  subst this
  exact ⟨rfl, by omega⟩
theorem At.inj {C : Nat → Nat} {k x y s j : Nat} (h : At C k x s j) (h2 : At C k y s j) : x = y := by
  rw [← h.2.2, ← h2.2.2]
theorem At.ex {C : Nat → Nat} {k n x : Nat} (hk : psum C k = n) (hx : x < n) : ∃ s j, At C k x s j := by
  induction k generalizing n with
  | zero => simp [psum] at hk; omega
  | succ k ih =>
    by_cases h : x < psum C k
    · obtain ⟨s, j, a, b, c⟩ := ih rfl h
      exact ⟨s, j, by omega, b, c⟩
    · refine ⟨k, x - psum C k, Nat.lt_succ_self k, ?_, by omega⟩
      unfold psum at hk; omega
theorem At.of {C : Nat → Nat} {k n s j : Nat} (hk : psum C k = n) (hs : s < k) (hj : j < C s) : psum C s + j < n := by
  have := psum_lt C hs; omega
theorem Cnt.out {B : Nat} {w wr : World} {k n : Nat} {v : Value} (h : Cnt B w wr k v n) (hn : 0 < n) :
    ∃ g cap C, v = .slice (some ⟨g, 0, none⟩) k cap ∧ Fsl wr (some ⟨g, 0, none⟩) k (fun i => .int .i64 ((C i : Nat) : Int)) ∧ psum C k = n ∧ 0 < k ∧ B ≤ g := by
  obtain ⟨C, ho, hnn, hs, rfl, hb⟩ := h
  have hp := psum_list C hnn
  have h0 : 0 < C.length := by
    cases C with
    | nil => simp at hs; omega
    | cons a l => simp
  have ho' := ho
  rcases ho.2 with ⟨_, e⟩ | ⟨g, cap, cur, rfl, hbg, hg, hnc, hcm, hcs, htake⟩
  · omega
  · refine ⟨g, cap, fun i => (C.getD i 0).toNat, rfl, ⟨(fun e => by cases e), fun i hi => ⟨g, 0, rfl, (Array.getElem?_eq_some_iff.1 hg).1, ?_⟩⟩, by omega, h0, hbg⟩
    rw [Nat.zero_add, ho'.cellAt i (by omega)]
    have : C.getD i 0 = C[i] := by simp [List.getElem?_eq_getElem hi]
    have hge := hnn C[i] (List.getElem_mem hi)
    rw [List.getElem?_map, List.getElem?_eq_getElem hi]
    simp only [Option.map_some, this]
    rw [Int.toNat_of_nonneg hge]
theorem refInfo : (Tryd.prog.info? 44).map (fun i => (i.zero, i.size, i.bytes)) = some (some (.agg #[.int .u32 0, .int .u32 0]), 2, 8) := by kernel_rfl
/-- The refs of the flat numbers below i are laid. -/
def Rf (C : Nat → Nat) (k n : Nat) (b i : Nat) (wr : World) : Prop := ∃ V, Fblk wr b 44 (n * 2) V ∧ ∀ x, x < i → ∃ s j : Nat, At C k x s j ∧ V (x * 2) = .int .u32 s ∧ V (x * 2 + 1) = .int .u32 j
theorem Rf.step {C : Nat → Nat} {k n b i s j : Nat} {wr : World} (h : Rf C k n b i wr) (ha : At C k i s j) : Rf C k n b (i + 1) ((wr.setCell ⟨b, i * 2, none⟩ (.int .u32 s)).setCell ⟨b, i * 2 + 1, none⟩ (.int .u32 j)) := by
  obtain ⟨V, hV, hx⟩ := h
  refine ⟨_, (hV.set (i * 2) (.int .u32 s)).set (i * 2 + 1) (.int .u32 j), fun x hxi => ?_⟩
  by_cases e : x = i
  · subst e
    exact ⟨s, j, ha, by rw [upd_other _ _ _ _ (by omega), upd_same], upd_same _ _ _⟩
  · obtain ⟨s', j', q1, q2, q3⟩ := hx x (by omega)
    exact ⟨s', j', q1, by rw [upd_other _ _ _ _ (by omega), upd_other _ _ _ _ (by omega)]; exact q2, by rw [upd_other _ _ _ _ (by omega), upd_other _ _ _ _ (by omega)]; exact q3⟩
def RfR (C : Nat → Nat) (k n : Nat) (w : World) (e : Ending) (w' : World) : Prop := ∃ b, e = .returned (.slice (some ⟨b, 0, none⟩) n n) ∧ w.heap.size ≤ b ∧ Rf C k n b n w' ∧ Below w.heap.size w w'
set_option maxRecDepth 100000 in
theorem refs (g cap k n : Nat) (C : Nat → Nat) (w : World) (h : Fsl w (some ⟨g, 0, none⟩) k (fun i => .int .i64 ((C i : Nat) : Int))) (hp : psum C k = n) (hk : k ≤ 4097) (hn : n ≤ 4096) :
    Calls Tryd.prog 11 #[.slice (some ⟨g, 0, none⟩) k cap, .int .i64 n] w (RfR C k n w) := by
  have hC : ∀ s, s < k → C s ≤ 4096 := fun s hs => by have := psum_lt C hs; omega
  have HC := Lib.hid hC
  have HP := Lib.hid hp
  have hm := run_make_many (P := Tryd.prog) Tryd.underlying34 refInfo rfl (by omega) n (by omega)
  clear hC hp
  go_enter Tryd.func11, Tryd.ntmps11
  go_wp2_with fail
  go_loopw [6] (fun i wr => ∃ x : Nat, x ≤ n ∧ i = .int .i64 x ∧ Hid (Rf C k n w.heap.size x wr) ∧ Hid (Below w.heap.size w wr)) (fun i _ => n - (intOf i).toNat)
  case atStart => exact ⟨0, by omega, rfl, Lib.hid ⟨_, Fblk.madeMany _ _ _ _, fun x hx => absurd hx (Nat.not_lt_zero _)⟩, Lib.hid (by (repeat' (first | exact Below.refl _ _ | refine Below.drewR ?_ | (refine Below.alloc ?_ (by simp; omega) _) | (refine Below.alloc ?_ (by simp) _) | (refine Below.setCell ?_ (by simp; omega) _) | (refine Below.setCell ?_ (by simp) _))))⟩
  case round =>
    obtain ⟨x, hx, rfl, HR, HB⟩ := hrel
    by_cases hlt : x < n
    · have hx2 : (x : Int) < (n : Int) := by omega
      have h' := Lib.hid (h.below HB.out)
      obtain ⟨wo, rfl⟩ : ∃ wo : World, wo = wr := ⟨_, rfl⟩
      go_wp2_with fail
      go_loop [7, 8] (fun r s => ∃ t rest : Nat, s = .int .i64 t ∧ r = .int .i64 rest ∧ t ≤ k ∧ rest ≤ 4096 ∧ Hid (psum C t + rest = x)) (fun _ s => k - (intOf s).toNat)
      case atStart => exact ⟨0, x, rfl, rfl, by omega, by omega, Lib.hid (by simp [psum])⟩
      case round =>
        obtain ⟨t, rest, rfl, rfl, ht, hr, HS⟩ := hrel
        have htk : t < k := by
          have h1 := HS.out
          have h2 := HP.out
          by_cases e : t < k
          · exact e
          · obtain rfl : t = k := by omega
            omega
        have hcl := h'.out.cell t htk
        rw [Nat.zero_add] at hcl
        have hct := HC.out t htk
        have ht2 : (t : Int) < (k : Int) := by omega
        by_cases hge : C t ≤ rest
        · have hge2 : ((C t : Nat) : Int) ≤ (rest : Int) := by omega
          go_wp2_with fail
          go_round
          case rel => exact ⟨t + 1, rest - C t, by go_num, by simp; omega, by omega, by omega, Lib.hid (by have := HS.out; unfold psum; omega)⟩
          case measure => simp [intOf]; omega
        · have hge2 : ¬ ((C t : Nat) : Int) ≤ (rest : Int) := by omega
          have hge3 : decide (((C t : Nat) : Int) ≤ (rest : Int)) = false := by simp; omega
          have hat : At C k x t rest := ⟨htk, by omega, HS.out⟩
          have HA := Lib.hid hat
          obtain ⟨V, hV, _⟩ := HR.out
          have hd0 := hV.cell (x * 2) (by omega)
          have hd1 := hV.cell (x * 2 + 1) (by omega)
          have hf0 := hV.frozen (x * 2)
          have hf1 := hV.frozen (x * 2 + 1)
          clear hat hV
          go_wp2_with fail
          go_roundw
          case rel => exact ⟨x + 1, by omega, by go_num, Lib.hid (HR.out.step HA.out), Lib.hid ((HB.out.setCell (Nat.le_refl _) _).setCell (Nat.le_refl _) _)⟩
          case measure => simp [intOf]; omega
    · obtain rfl : x = n := by omega
      go_wp2_with fail
      go_ret
      exact ⟨_, rfl, Nat.le_refl _, HR.out, HB.out⟩
/-- The place of x. -/
noncomputable def plS (C : Nat → Nat) (k x : Nat) : Nat := haveI := Classical.propDecidable (∃ s j, At C k x s j); if h : ∃ s j, At C k x s j then Classical.choose h else 0
noncomputable def plJ (C : Nat → Nat) (k x : Nat) : Nat := x - psum C (plS C k x)
theorem at_pl {C : Nat → Nat} {k n x : Nat} (hk : psum C k = n) (hx : x < n) : At C k x (plS C k x) (plJ C k x) := by
  have h := At.ex hk hx
  have e : plS C k x = Classical.choose h := by unfold plS; rw [dif_pos h]
  obtain ⟨j, hj⟩ := Classical.choose_spec h
  rw [← e] at hj
  have : plJ C k x = j := by unfold plJ; have := hj.2.2; omega
  rw [this]; exact hj
theorem pl_at {C : Nat → Nat} {k x s j : Nat} (h : At C k x s j) : plS C k x = s ∧ plJ C k x = j := by
  have hx : ∃ s j, At C k x s j := ⟨s, j, h⟩
  have e : plS C k x = Classical.choose hx := by unfold plS; rw [dif_pos hx]
  obtain ⟨i, hi⟩ := Classical.choose_spec hx
  rw [← e] at hi
  obtain ⟨q1, q2⟩ := hi.uniq h
  refine ⟨q1, ?_⟩
  unfold plJ
  have := hi.2.2
  have := h.2.2
  rw [q1] at *
  omega
def invV : Value := .int .u32 4294967295
/-- The two words of a link to t (none: below 0). -/
noncomputable def lkS (C : Nat → Nat) (k : Nat) (t : Int) : Value := if t < 0 then invV else .int .u32 (plS C k t.toNat : Nat)
noncomputable def lkJ (C : Nat → Nat) (k : Nat) (t : Int) : Value := if t < 0 then invV else .int .u32 (plJ C k t.toNat : Nat)
def at32 (U : Nat → Int) (l i : Nat) : Int := if i < l then U i else 0
theorem inval (w : World) : Calls Tryd.prog 15 #[] w fun e w' => e = .returned (.agg #[.int .u32 4294967295, .int .u32 4294967295]) ∧ Below w.heap.size w w' := by
  go_enter Tryd.func15, Tryd.ntmps15
  go_wp2_with fail
  exact bodyPost_ret (v := .agg #[.int .u32 4294967295, .int .u32 4294967295]) (by simp [results, Tryd.results15, go_sem]) rfl ⟨rfl, by (repeat' (first | exact Below.refl _ _ | refine Below.drewR ?_ | (refine Below.alloc ?_ (by simp; omega) _) | (refine Below.alloc ?_ (by simp) _) | (refine Below.setCell ?_ (by simp; omega) _) | (refine Below.setCell ?_ (by simp) _)))⟩
theorem get32 (a : Option Addr) (l cap i : Nat) (U : Nat → Int) (w : World) (h : Fsl w a l (fun i => .int .u32 (U i))) (hl : l ≤ 4096) (hi : i ≤ 4096) :
    Calls Tryd.prog 17 #[.slice a l cap, .int .i64 i] w fun e w' => e = .returned (.int .u32 (at32 U l i)) ∧ w = w' := by
  by_cases hlt : i < l
  · obtain ⟨b, off, rfl, hlb, hc⟩ := h.at i hlt
    have HE := Lib.hid (show at32 U l i = U i by unfold at32; rw [if_pos hlt])
    have h2 : (i : Int) < (l : Int) := by omega
    clear h
    go_enter Tryd.func17, Tryd.ntmps17
    go_wp2_with fail
    go_ret
    exact ⟨by rw [HE.out]; rfl, rfl⟩
  · have HE := Lib.hid (show at32 U l i = 0 by unfold at32; rw [if_neg hlt])
    have h2 : ¬ (i : Int) < (l : Int) := by omega
    clear h
    go_enter Tryd.func17, Tryd.ntmps17
    go_wp2_with fail
    go_ret
    exact ⟨by rw [HE.out]; rfl, rfl⟩
theorem get16 (i : Nat) (w : World) (hi : i ≤ 4096) : Calls Tryd.prog 19 #[.slice none 0 0, .int .i64 i] w fun e w' => e = .returned (.int .u16 0) ∧ w = w' := by
  have h2 : ¬ (i : Int) < 0 := by omega
  go_enter Tryd.func19, Tryd.ntmps19
  go_wp2_with fail
  go_ret
  exact ⟨rfl, rfl⟩
theorem mapInfo : (Tryd.prog.info? 59).map (fun i => (i.zero, i.size, i.bytes)) = some (some (.slice none 0 0), 1, 24) := by kernel_rfl
theorem symInfo : ∃ z bytes, bytes ≤ 1024 ∧ ((∀ v ∈ z.cells.toList, v.oneCell' = true) ∧ 0 < z.cells.size) ∧ (Tryd.prog.info? 52).map (fun i => (i.zero, i.size, i.bytes)) = some (some z, 10, bytes) := ⟨.agg #[.pointer none, .string ⟨#[]⟩, .int .u32 0, .int .u32 0, .int .u32 0, .int .u32 0, .int .u32 0, .int .u16 0, .int .u8 0, .int .u8 0], 48, by omega, by decide, by kernel_rfl⟩
def NM (k : Nat) (w : World) (e : Ending) (w' : World) : Prop := ∃ ob, e = .returned (.agg #[.slice (some ⟨ob, 0, none⟩) k k]) ∧ w.heap.size ≤ ob ∧ Fblk w' ob 59 k (fun _ => .slice none 0 0) ∧ Below w.heap.size w w'
theorem newMap (k : Nat) (w : World) (hk : k ≤ 4097) : Calls Tryd.prog 18 #[.int .i64 k] w (NM k w) := by
  have hm := run_make_one (P := Tryd.prog) Tryd.underlying36 mapInfo rfl (by omega) k (by omega)
  go_enter Tryd.func18, Tryd.ntmps18
  go_wp2_with fail
  exact bodyPost_ret (v := .agg #[.slice (some ⟨w.heap.size + 1, 0, none⟩) k k]) (by simp [results, Tryd.results18, go_sem]) rfl ⟨_, rfl, by omega, Fblk.madeAt (by simp), by (repeat' (first | exact Below.refl _ _ | refine Below.drewR ?_ | (refine Below.alloc ?_ (by simp; omega) _) | (refine Below.alloc ?_ (by simp) _) | (refine Below.setCell ?_ (by simp; omega) _) | (refine Below.setCell ?_ (by simp) _)))⟩
/-- What the symbol at the flat number x holds: its link, its use count. -/
def SymOk (C : Nat → Nat) (k : Nat) (T : Nat → Int) (U : Nat → Int) (l : Nat) (V : Nat → Value) (j x : Nat) : Prop :=
  V (j * 10 + 2) = lkS C k (T x) ∧ V (j * 10 + 3) = lkJ C k (T x) ∧ V (j * 10 + 4) = .int .u32 (at32 U l x)
/-- The first N values fill one cell each. -/
def OneV (N : Nat) (V : Nat → Value) : Prop := ∀ q, q < N → (V q).oneCell' = true
/-- The lists of the sources below s are laid. -/
def Bd (C : Nat → Nat) (k : Nat) (T U : Nat → Int) (l ob b13 : Nat) (w : World) (s : Nat) (blk : Nat → Nat) (wr : World) : Prop :=
  Fblk wr ob 59 k (fun i => if i < s then .slice (some ⟨blk i, 0, none⟩) (C i) (C i) else .slice none 0 0) ∧
  (∀ i, i < s → ∃ V, Fblk wr (blk i) 52 (C i * 10) V ∧ OneV (C i * 10) V ∧ ∀ j, j < C i → SymOk C k T U l V j (psum C i + j)) ∧
  (∀ i, i < s → ob < blk i ∧ blk i < wr.heap.size ∧ b13 < blk i) ∧ (∀ i j, i < j → j < s → blk i < blk j) ∧
  wr.heap[w.heap.size]? = some (.cells #[.slice none 0 0] 38 (0, 0)) ∧ w.heap.size < b13 ∧ b13 ≠ ob ∧ wr.heap[b13]? = some (.cells #[.slice (some ⟨ob, 0, none⟩) k k] 38 (0, 0)) ∧ w.heap.size < ob ∧ Below w.heap.size w wr
section
variable {C : Nat → Nat} {k l ob b13 s : Nat} {T U : Nat → Int} {w wr wi : World} {blk : Nat → Nat}
theorem Bd.low (h : Bd C k T U l ob b13 w s blk wr) : Below w.heap.size w wr := h.2.2.2.2.2.2.2.2.2
theorem Bd.obl (h : Bd C k T U l ob b13 w s blk wr) : w.heap.size < ob := h.2.2.2.2.2.2.2.2.1
theorem Bd.cell13 (h : Bd C k T U l ob b13 w s blk wr) : wr.cell? ⟨b13, 0, none⟩ = some (.slice (some ⟨ob, 0, none⟩) k k) := by
  rw [cell_of_row wr b13 0 _ 38 _ h.2.2.2.2.2.2.2.1]; rfl
theorem Bd.cell12 (h : Bd C k T U l ob b13 w s blk wr) : wr.cell? ⟨w.heap.size, 0, none⟩ = some (.slice none 0 0) ∧ wr.frozen? ⟨w.heap.size, 0, none⟩ = false := by
  refine ⟨?_, frozen_of_row wr w.heap.size 0 _ 38 h.2.2.2.2.1⟩
  rw [cell_of_row wr w.heap.size 0 _ 38 _ h.2.2.2.2.1]; rfl
theorem Bd.lt13 (h : Bd C k T U l ob b13 w s blk wr) : b13 < wr.heap.size := (Array.getElem?_eq_some_iff.1 h.2.2.2.2.2.2.2.1).1
theorem Bd.obs (h : Bd C k T U l ob b13 w s blk wr) : ob < wr.heap.size := h.1.lt
/-- One source more. -/
theorem Bd.step (h : Bd C k T U l ob b13 w s blk wr) (hs : s < k) (hb : Below wr.heap.size wr wi) {V : Nat → Value} (hV : Fblk wi wr.heap.size 52 (C s * 10) V) (hok : OneV (C s * 10) V ∧ ∀ j, j < C s → SymOk C k T U l V j (psum C s + j)) :
    Bd C k T U l ob b13 w (s + 1) (fun i => if i = s then wr.heap.size else blk i) (wi.setCell ⟨ob, s, none⟩ (.slice (some ⟨wr.heap.size, 0, none⟩) (C s) (C s))) := by
  have hobs := h.obs
  have h13 := h.lt13
  have hv := hV.lt
  obtain ⟨h1, h2, h3, h4, h5, h6, h7, h8, h9, h10⟩ := h
  have hsz := hb.size
  have hsz2 : ∀ v, (wi.setCell ⟨ob, s, none⟩ v).heap.size = wi.heap.size := fun v => by simp [World.setCell]
  have hn := h10.size
  refine ⟨?_, ?_, ?_, ?_, ?_, h6, h7, ?_, h9, ?_⟩
  · have q := (h1.below hb hobs).set s (.slice (some ⟨wr.heap.size, 0, none⟩) (C s) (C s))
    refine q.congr fun i hi => ?_
    unfold upd
    by_cases e : i = s
    · subst e
      simp
    · by_cases e2 : i < s
      · have e3 : i < s + 1 := by omega
        simp [e, e2, e3]
      · have e3 : ¬ i < s + 1 := by omega
        simp [e, e2, e3]
  · intro i hi
    by_cases e : i = s
    · subst e
      simp only [if_true]
      exact ⟨V, hV.other (by show ob ≠ _; omega) _, hok⟩
    · simp only [if_neg e]
      obtain ⟨V', q1, q2⟩ := h2 i (by omega)
      obtain ⟨r1, r2, _⟩ := h3 i (by omega)
      exact ⟨V', (q1.below hb r2).other (by show ob ≠ _; omega) _, q2⟩
  · intro i hi
    rw [hsz2]
    by_cases e : i = s
    · subst e; simp only [if_true]; omega
    · simp only [if_neg e]
      obtain ⟨r1, r2, r3⟩ := h3 i (by omega)
      omega
  · intro i j hij hj
    have hi : i ≠ s := by omega
    simp only [if_neg hi]
    by_cases e : j = s
    · subst e
      simp only [if_true]
      exact (h3 i hij).2.1
    · simp only [if_neg e]
      exact h4 i j hij (by omega)
  · rw [heap_setCell_other _ _ _ _ (by show w.heap.size ≠ ob; omega), hb.block _ (by omega)]; exact h5
  · rw [heap_setCell_other _ _ _ _ (by show b13 ≠ ob; omega), hb.block _ h13]; exact h8
  · exact (h10.trans (hb.mono hn)).setCell (by show w.heap.size ≤ ob; omega) _
end
/-- The symbols below j of the list under way. -/
def Inn (C : Nat → Nat) (k : Nat) (T U : Nat → Int) (l s j : Nat) (wo wi : World) : Prop :=
  Below wo.heap.size wo wi ∧ ∃ V, Fblk wi wo.heap.size 52 (C s * 10) V ∧ OneV (C s * 10) V ∧ ∀ i, i < j → SymOk C k T U l V i (psum C s + i)
theorem OneV.put {N : Nat} {V : Nat → Value} (h : OneV N V) (q : Nat) {v : Value} (hv : v.oneCell' = true) : OneV N (upd V q v) := fun i hi => by
  unfold upd
  by_cases e : i = q
  · simp [e, hv]
  · simp [e, h i hi]
theorem Inn.step {C : Nat → Nat} {k l s j x : Nat} {T U : Nat → Int} {wo wi w1 : World} {a b c d : Value} (h : Inn C k T U l s j wo wi) (hb : Below wi.heap.size wi w1) (hx : x = psum C s + j) (ha : a = lkS C k (T x)) (hb2 : b = lkJ C k (T x)) (hc : c = .int .u32 (at32 U l x)) (hd : d.oneCell' = true) (o : Obj) :
    Inn C k T U l s (j + 1) wo (((((w1.setCell ⟨wo.heap.size, j * 10 + 2, none⟩ a).setCell ⟨wo.heap.size, j * 10 + 2 + 1, none⟩ b).setCell ⟨wo.heap.size, j * 10 + 4, none⟩ c).setCell ⟨wo.heap.size, j * 10 + 7, none⟩ d).alloc o) := by
  obtain ⟨h1, V, h2, h4, h3⟩ := h
  have hlt := h2.lt
  have ha1 : a.oneCell' = true := by rw [ha]; unfold lkS invV; split <;> rfl
  have hb1 : b.oneCell' = true := by rw [hb2]; unfold lkJ invV; split <;> rfl
  have hc1 : c.oneCell' = true := by rw [hc]; rfl
  subst hx; subst ha; subst hb2; subst hc
  have hz := Nat.le_trans h1.size hb.size
  refine ⟨((((((h1.trans (hb.mono h1.size)).setCell (Nat.le_refl _) _).setCell (Nat.le_refl _) _).setCell (Nat.le_refl _) _).setCell (Nat.le_refl _) _).alloc (by simp [World.setCell]; exact hz) o), _, (((((h2.below hb hlt).set _ _).set _ _).set _ _).set _ _).alloc o, (((h4.put _ ha1).put _ hb1).put _ hc1).put _ hd, fun i hi => ?_⟩
  unfold SymOk
  by_cases e : i = j
  · subst e
    refine ⟨?_, ?_, ?_⟩
    · rw [upd_other _ _ _ _ (by omega), upd_other _ _ _ _ (by omega), upd_other _ _ _ _ (by omega), upd_same]
    · rw [upd_other _ _ _ _ (by omega), upd_other _ _ _ _ (by omega), upd_same]
    · rw [upd_other _ _ _ _ (by omega), upd_same]
  · obtain ⟨q1, q2, q3⟩ := h3 i (by omega)
    refine ⟨?_, ?_, ?_⟩
    · rw [upd_other _ _ _ _ (by omega), upd_other _ _ _ _ (by omega), upd_other _ _ _ _ (by omega), upd_other _ _ _ _ (by omega)]; exact q1
    · rw [upd_other _ _ _ _ (by omega), upd_other _ _ _ _ (by omega), upd_other _ _ _ _ (by omega), upd_other _ _ _ _ (by omega)]; exact q2
    · rw [upd_other _ _ _ _ (by omega), upd_other _ _ _ _ (by omega), upd_other _ _ _ _ (by omega), upd_other _ _ _ _ (by omega)]; exact q3
/-- The map of symbols: the outer row ob, the lists blk i, what they hold. -/
def SM (C : Nat → Nat) (k ob : Nat) (blk : Nat → Nat) (wr : World) (V : Nat → Nat → Value) : Prop :=
  Fblk wr ob 59 k (fun i => .slice (some ⟨blk i, 0, none⟩) (C i) (C i)) ∧ (∀ i, i < k → Fblk wr (blk i) 52 (C i * 10) (V i)) ∧ (∀ i, i < k → ob < blk i) ∧ ∀ i j, i < j → j < k → blk i < blk j
theorem Bd.done {C : Nat → Nat} {k l ob b13 : Nat} {T U : Nat → Int} {w wr : World} {blk : Nat → Nat} (h : Bd C k T U l ob b13 w k blk wr) (v : Value) :
    ∃ V, SM C k ob blk (wr.setCell ⟨w.heap.size, 0, none⟩ v) V ∧ (∀ i, i < k → OneV (C i * 10) (V i) ∧ ∀ j, j < C i → SymOk C k T U l (V i) j (psum C i + j)) ∧ w.heap.size < ob ∧ Below w.heap.size w (wr.setCell ⟨w.heap.size, 0, none⟩ v) := by
  obtain ⟨h1, h2, h3, h4, h5, h6, h7, h8, h9, h10⟩ := h
  obtain ⟨V, hV⟩ := Classical.skolem.1 (show ∀ i, ∃ V, i < k → Fblk wr (blk i) 52 (C i * 10) V ∧ OneV (C i * 10) V ∧ ∀ j, j < C i → SymOk C k T U l V j (psum C i + j) from fun i => by
    by_cases hi : i < k
    · obtain ⟨V, hV⟩ := h2 i hi
      exact ⟨V, fun _ => hV⟩
    · exact ⟨fun _ => undef, fun h => absurd h hi⟩)
  refine ⟨V, ⟨?_, fun i hi => (hV i hi).1.other (by show w.heap.size ≠ _; have := (h3 i hi).1; omega) _, fun i hi => (h3 i hi).1, h4⟩, fun i hi => (hV i hi).2, h9, h10.setCell (Nat.le_refl _) _⟩
  exact (h1.congr fun i hi => by simp [hi]).other (by show w.heap.size ≠ ob; omega) _
def BdR (C : Nat → Nat) (k : Nat) (T U : Nat → Int) (l : Nat) (w : World) (e : Ending) (w' : World) : Prop :=
  ∃ ob blk V, e = .returned (.agg #[.slice (some ⟨ob, 0, none⟩) k k]) ∧ SM C k ob blk w' V ∧ (∀ i, i < k → OneV (C i * 10) (V i) ∧ ∀ j, j < C i → SymOk C k T U l (V i) j (psum C i + j)) ∧ w.heap.size < ob ∧ Below w.heap.size w w'
theorem oneMade {cs : Array Value} (h : ∀ v ∈ cs.toList, v.oneCell' = true) (h0 : 0 < cs.size) (n : Nat) : OneV n (fun i => (madeCells cs n).getD i undef) := by
  intro q hq
  have hm : q % cs.size < cs.size := Nat.mod_lt _ h0
  have e : (madeCells cs n).getD q undef = cs[q % cs.size] := by
    simp [madeCells, Array.getD, hq, hm]
  show ((madeCells cs n).getD q undef).oneCell' = true
  rw [e]
  exact h _ (by simp)
theorem getD_many (w : World) (t : TypeId) (cs : Array Value) (n : Nat) : Fblk (w.alloc (.cells (madeCells cs n) t)) w.heap.size t n (fun i => (madeCells cs n).getD i undef) := Fblk.madeMany w t cs n
theorem Bd.start {C : Nat → Nat} {k l ob : Nat} {T U : Nat → Int} {w w2 : World} (h1 : w.heap.size + 1 ≤ ob) (h2 : Fblk w2 ob 59 k (fun _ => .slice none 0 0)) (h3 : Below (w.alloc (.cells #[.slice none 0 0] 38)).heap.size (w.alloc (.cells #[.slice none 0 0] 38)) w2) (blk : Nat → Nat) :
    Bd C k T U l ob w2.heap.size w 0 blk (w2.alloc (.cells #[.slice (some ⟨ob, 0, none⟩) k k] 38)) := by
  have hl := h2.lt
  have hs := h3.size
  simp at hs
  refine ⟨(h2.alloc _).congr fun i _ => by simp, fun i hi => absurd hi (Nat.not_lt_zero _), fun i hi => absurd hi (Nat.not_lt_zero _), fun i j _ hj => absurd hj (Nat.not_lt_zero _), ?_, by omega, by omega, heap_alloc_new _ _, by omega, ?_⟩
  · rw [Below.heap_alloc _ _ _ (by omega), h3.block _ (by simp)]; exact heap_alloc_new _ _
  · exact (((Below.refl _ w).alloc (Nat.le_refl _) _).trans (h3.mono (by simp))).alloc (by omega) _
set_option maxHeartbeats 4000000 in
set_option maxRecDepth 100000 in
theorem build (g capg k n rb : Nat) (C : Nat → Nat) (ta : Option Addr) (tcap : Nat) (T : Nat → Int) (ua : Option Addr) (ul ucap : Nat) (U : Nat → Int) (w : World)
    (hc : Fsl w (some ⟨g, 0, none⟩) k (fun i => .int .i64 ((C i : Nat) : Int))) (hp : psum C k = n) (hr : Rf C k n rb n w) (ht : Fsl w ta n (fun i => .int .i64 (T i))) (hT : ∀ i, i < n → -1 ≤ T i ∧ T i < n) (hu : Fsl w ua ul (fun i => .int .u32 (U i)))
    (hk : k ≤ 4097) (hn : n ≤ 4096) (hul : ul ≤ 4096) :
    Calls Tryd.prog 12 #[.slice (some ⟨g, 0, none⟩) k capg, .slice (some ⟨rb, 0, none⟩) n n, .slice ta n tcap, .slice ua ul ucap, .slice none 0 0, .bool false] w (BdR C k T U ul w) := by
  have HCL := Lib.hid (show ∀ s, s < k → C s ≤ 4096 from fun s hs => by have := psum_lt C hs; omega)
  have HP := Lib.hid hp
  have HR := Lib.hid hr
  have HT := Lib.hid hT
  have HC := Lib.hid hc
  have HTT := Lib.hid ht
  have HU := Lib.hid hu
  clear hp hr hT hc ht hu
  obtain ⟨z, bytes, hbz, hz1, hi⟩ := symInfo
  obtain ⟨cs, hcs⟩ : ∃ cs, z.cells = cs := ⟨_, rfl⟩
  have HONE := Lib.hid (show ∀ c, c ≤ 4096 → OneV (c * 10) (fun i => (madeCells cs (c * 10)).getD i undef) from fun c _ => oneMade (by rw [← hcs]; exact hz1.1) (by rw [← hcs]; exact hz1.2) _)
  have HMK := Lib.hid (fun c (hc : c ≤ 4096) => run_make_many (P := Tryd.prog) Tryd.underlying59 hi hcs hbz c (by omega))
  clear hi hcs hbz hz1
  go_enter Tryd.func12, Tryd.ntmps12
  go_wp2_with fail
  refine (newMap k _ hk).mono ?_
  rintro e w2 ⟨ob, rfl, hob, hbo, hb2⟩
  have HB0 := Lib.hid (Bd.start (C := C) (T := T) (U := U) (l := ul) (by simpa using hob) hbo hb2 (fun _ => 0))
  clear hob hbo hb2
  go_wp2_with fail
  go_loopw [14, 15] (fun p i wr => ∃ (s x : Nat) (blk : Nat → Nat), s ≤ k ∧ x ≤ 4096 ∧ i = .int .i64 s ∧ p = .int .i64 x ∧ Hid (x = psum C s) ∧ Hid (Bd C k T U ul ob w2.heap.size w s blk wr)) (fun _ i _ => k - (intOf i).toNat)
  case atStart => exact ⟨0, 0, _, Nat.zero_le _, by omega, rfl, rfl, Lib.hid rfl, HB0⟩
  case round =>
    obtain ⟨s, x, blk, hs, hx, rfl, rfl, HX, HB⟩ := hrel
    by_cases hlt : s < k
    · have hs2 : (s : Int) < (k : Int) := by omega
      have hcs := HCL.out s hlt
      have hmk := HMK.out (C s) hcs
      have hcc := (HC.out.below HB.out.low).cell s hlt
      rw [Nat.zero_add] at hcc
      obtain ⟨wo, rfl⟩ : ∃ wo : World, wo = wr := ⟨_, rfl⟩
      have hgl := HC.out.lt (by omega)
      have hlo := HB.out.low.size
      have hgl2 : g < wo.heap.size := by omega
      have HW0 := Lib.hid (show Inn C k T U ul s 0 wo (wo.alloc (.cells (madeCells cs (C s * 10)) 52)) from ⟨by (repeat' (first | exact Below.refl _ _ | refine Below.drewR ?_ | (refine Below.alloc ?_ (by simp; omega) _) | (refine Below.alloc ?_ (by simp) _) | (refine Below.setCell ?_ (by simp; omega) _) | (refine Below.setCell ?_ (by simp) _))), _, Fblk.madeMany _ _ _ _, HONE.out _ hcs, fun i hi => absurd hi (Nat.not_lt_zero _)⟩)
      go_wp2_with fail
      go_loopw [14, 17] (fun p i wi => ∃ j y : Nat, j ≤ C s ∧ y ≤ 4096 ∧ i = .int .i64 j ∧ p = .int .i64 y ∧ Hid (y = psum C s + j) ∧ Hid (Inn C k T U ul s j wo wi)) (fun _ i _ => C s - (intOf i).toNat)
      case atStart => exact ⟨0, x, Nat.zero_le _, by omega, rfl, rfl, Lib.hid (by rw [HX.out]; rfl), HW0⟩
      case round =>
        obtain ⟨j, y, hj, hy, rfl, rfl, HY, HI⟩ := hrel
        have hsz : wo.heap.size ≤ _ := HI.out.1.size
        have HWI := Lib.hid (HB.out.low.trans (HI.out.1.mono hlo))
        by_cases hjl : j < C s
        · have hjl2 : (j : Int) < ((C s : Nat) : Int) := by omega
          have hyn : y < n := by rw [HY.out]; exact At.of HP.out hlt hjl
          have hcc2 := (HC.out.below HWI.out).cell s hlt
          rw [Nat.zero_add] at hcc2
          have hgl3 : g < wr.heap.size := by omega
          go_wp2_with fail
          refine (inval _).mono ?_
          rintro e w1 ⟨rfl, hb1⟩
          have hsz1 := hb1.size
          have HW1 := Lib.hid (HWI.out.trans (hb1.mono HWI.out.size))
          obtain ⟨V, hV, _⟩ := HI.out.2
          have hV1 := hV.below hb1 hV.lt
          have d2 := hV1.cell (j * 10 + 2) (by omega)
          have d3 := hV1.cell (j * 10 + 3) (by omega)
          have d4 := hV1.cell (j * 10 + 4) (by omega)
          have d7 := hV1.cell (j * 10 + 7) (by omega)
          have f2 := hV1.frozen (j * 10 + 2)
          have f3 := hV1.frozen (j * 10 + 3)
          have f4 := hV1.frozen (j * 10 + 4)
          have f7 := hV1.frozen (j * 10 + 7)
          have hbl := hV1.lt
          obtain ⟨bt, offt, rfl, hbt, htc⟩ := (HTT.out.below HW1.out).at y hyn
          have HB1 := Lib.hid hb1
          clear hV hV1 hcc2 hb1
          obtain ⟨t0, t1⟩ := HT.out y hyn
          by_cases htn : T y < 0
          · have HS := Lib.hid (show lkS C k (T y) = .int .u32 4294967295 ∧ lkJ C k (T y) = .int .u32 4294967295 by unfold lkS lkJ invV; rw [if_pos htn, if_pos htn]; exact ⟨rfl, rfl⟩)
            go_wp2_with fail
            refine (get32 ua ul ucap y U _ (HU.out.below (by (repeat' (first | exact HW1.out | (refine Below.alloc ?_ (by first | omega | (simp; omega)) _) | (refine Below.setCell ?_ (by simp; omega) _))))) hul hy).mono ?_
            rintro e w' ⟨rfl, rfl⟩
            go_wp2_with fail
            refine (get16 y _ hy).mono ?_
            rintro e w' ⟨rfl, rfl⟩
            go_wp2_with fail
            go_roundw
            case rel => exact ⟨j + 1, y + 1, by omega, by omega, by go_num, by go_num, Lib.hid (by rw [HY.out]; omega), Lib.hid (HI.out.step HB1.out HY.out HS.out.1.symm HS.out.2.symm rfl rfl _)⟩
            case measure => simp [intOf]; omega
          · obtain ⟨t, ht⟩ := Int.eq_ofNat_of_zero_le (show 0 ≤ T y by omega)
            obtain ⟨VR, hVR, hall⟩ := HR.out
            obtain ⟨s', j', hat, v1, v2⟩ := hall t (by omega)
            obtain ⟨p1, p2⟩ := pl_at hat
            have HS := Lib.hid (show lkS C k (T y) = .int .u32 s' ∧ lkJ C k (T y) = .int .u32 j' by unfold lkS lkJ; rw [if_neg htn, if_neg htn, ht]; simp [p1, p2])
            have hVR1 := hVR.below HW1.out hVR.lt
            have r0 := hVR1.cell (t * 2) (by omega)
            have r1 := hVR1.cell (t * 2 + 1) (by omega)
            rw [v1] at r0
            rw [v2] at r1
            have hrl := hVR1.lt
            have htn2 : t < n := by omega
            have htn3 : (t : Int) < (n : Int) := by omega
            rw [ht] at htc
            clear hVR hVR1 hall v1 v2 hat p1 p2 htn t0 t1 ht
            go_wp2_with fail
            refine (get32 ua ul ucap y U _ (HU.out.below (by (repeat' (first | exact HW1.out | (refine Below.alloc ?_ (by first | omega | (simp; omega)) _) | (refine Below.setCell ?_ (by simp; omega) _))))) hul hy).mono ?_
            rintro e w' ⟨rfl, rfl⟩
            go_wp2_with fail
            refine (get16 y _ hy).mono ?_
            rintro e w' ⟨rfl, rfl⟩
            go_wp2_with fail
            go_roundw
            case rel => exact ⟨j + 1, y + 1, by omega, by omega, by go_num, by go_num, Lib.hid (by rw [HY.out]; omega), Lib.hid (HI.out.step HB1.out HY.out HS.out.1.symm HS.out.2.symm rfl rfl _)⟩
            case measure => simp [intOf]; omega
        · obtain rfl : j = C s := by omega
          obtain ⟨V, hV, hok⟩ := HI.out.2
          have HV := Lib.hid hV
          have HO := Lib.hid hok
          have hcc2 := (HC.out.below HWI.out).cell s hlt
          rw [Nat.zero_add] at hcc2
          have hgl3 : g < wr.heap.size := by omega
          have c13 : wr.cell? ⟨w2.heap.size, 0, none⟩ = some (.slice (some ⟨ob, 0, none⟩) k k) := by rw [HI.out.1.cell (p := ⟨w2.heap.size, 0, none⟩) HB.out.lt13]; exact HB.out.cell13
          have hob := (HB.out.1.below HI.out.1 HB.out.obs)
          have co := hob.cell s hlt
          have fo := hob.frozen s
          clear hV hok hob
          go_wp2_with fail
          go_roundw
          case rel => exact ⟨s + 1, y, _, by omega, hy, by go_num, rfl, Lib.hid (by rw [HY.out]; rfl), Lib.hid (HB.out.step hlt HI.out.1 HV.out HO.out)⟩
          case measure => simp [intOf]; omega
    · obtain rfl : s = k := by omega
      have c13 := HB.out.cell13
      obtain ⟨c12, f12⟩ := HB.out.cell12
      have hlo := HB.out.low.size
      go_wp2_with fail
      have HD := Lib.hid (HB.out.done (.slice (some ⟨ob, 0, none⟩) s s))
      refine bodyPost_ret (v := .agg #[.slice (some ⟨ob, 0, none⟩) s s]) (by simp [results, Tryd.results12, go_sem, c12]) rfl ?_
      obtain ⟨V, q1, q2, q3, q4⟩ := HD.out
      exact ⟨ob, blk, V, rfl, q1, q2, q3, q4⟩
theorem c16_info : (Tryd.prog.info? 47).map (fun i => (i.zero, i.size, i.bytes)) = some (some (.int .u16 0), 1, 2) := by kernel_rfl
theorem c16 (a : Option Addr) (len cap : Nat) (S : Nat → Int) (w : World) (h : Fsl w a len (fun i => .int .u16 (S i))) (hlen : len ≤ 137438953472) :
    Calls Tryd.prog 5 #[.slice a len cap] w (Cop w a len 47 (fun i => .int .u16 (S i))) := by
  have hnil : ∀ w : World, (binOp .eql 22 (.slice a len cap) (.slice none 0 0)).run Tryd.prog w = .ok (.bool a.isNone) w := fun w => Lib.run_eql_slice_nil w 22 47 _ _ _ _ _ Tryd.underlying22
  have hmk := run_make_one (P := Tryd.prog) Tryd.underlying22 c16_info rfl (by omega) len hlen
  cases a with
  | none =>
    have H := Lib.hid (Cop.nil (t := 47) h)
    go_enter Tryd.func5, Tryd.ntmps5
    go_wp2
    go_ret
    exact H.out
  | some x =>
    go_enter Tryd.func5, Tryd.ntmps5
    go_wp2
    go_loopw [4] (fun i wr => ∃ k : Nat, k ≤ len ∧ i = .int .i64 k ∧ Fblk wr w.heap.size 47 len (parV (fun i => .int .u16 (S i)) (.int .u16 0) k) ∧ Below w.heap.size w wr) (fun i _ => len - (intOf i).toNat)
    case atStart => exact ⟨0, by omega, rfl, by rw [parV_zero]; exact Fblk.made _ _ _ _, (Below.refl _ _).alloc (Nat.le_refl _) _⟩
    case round =>
      obtain ⟨k, hk, rfl, hb, hl⟩ := hrel
      have HB := Lib.hid hb
      by_cases hlt : k < len
      · obtain ⟨b, off, e, hlb, hc⟩ := h.at k hlt
        injection e with e
        subst e
        have hc' : wr.cell? ⟨b, off + k, none⟩ = some (.int .u16 (S k)) := by rw [hl.cell (p := ⟨b, off + k, none⟩) hlb]; exact hc
        have hd := hb.cell k hlt
        have hz := hb.frozen k
        have hk2 : (k : Int) < (len : Int) := by omega
        clear hc hb
        go_wp2
        go_roundw
        case rel => exact ⟨k + 1, by omega, by go_num, by rw [← parV_set]; exact HB.out.set k _, hl.setCell (Nat.le_refl _) _⟩
        case measure => simp [intOf]; omega
      · obtain rfl : k = len := by omega
        clear hb
        go_wp2
        go_ret
        exact Cop.mk (HB.out.congr fun i hi => by simp [parV, hi]) hl (Nat.le_refl _)

theorem c32_info : (Tryd.prog.info? 42).map (fun i => (i.zero, i.size, i.bytes)) = some (some (.int .u32 0), 1, 4) := by kernel_rfl
theorem c32 (a : Option Addr) (len cap : Nat) (S : Nat → Int) (w : World) (h : Fsl w a len (fun i => .int .u32 (S i))) (hlen : len ≤ 137438953472) :
    Calls Tryd.prog 7 #[.slice a len cap] w (Cop w a len 42 (fun i => .int .u32 (S i))) := by
  have hnil : ∀ w : World, (binOp .eql 24 (.slice a len cap) (.slice none 0 0)).run Tryd.prog w = .ok (.bool a.isNone) w := fun w => Lib.run_eql_slice_nil w 24 42 _ _ _ _ _ Tryd.underlying24
  have hmk := run_make_one (P := Tryd.prog) Tryd.underlying24 c32_info rfl (by omega) len hlen
  cases a with
  | none =>
    have H := Lib.hid (Cop.nil (t := 42) h)
    go_enter Tryd.func7, Tryd.ntmps7
    go_wp2
    go_ret
    exact H.out
  | some x =>
    go_enter Tryd.func7, Tryd.ntmps7
    go_wp2
    go_loopw [4] (fun i wr => ∃ k : Nat, k ≤ len ∧ i = .int .i64 k ∧ Fblk wr w.heap.size 42 len (parV (fun i => .int .u32 (S i)) (.int .u32 0) k) ∧ Below w.heap.size w wr) (fun i _ => len - (intOf i).toNat)
    case atStart => exact ⟨0, by omega, rfl, by rw [parV_zero]; exact Fblk.made _ _ _ _, (Below.refl _ _).alloc (Nat.le_refl _) _⟩
    case round =>
      obtain ⟨k, hk, rfl, hb, hl⟩ := hrel
      have HB := Lib.hid hb
      by_cases hlt : k < len
      · obtain ⟨b, off, e, hlb, hc⟩ := h.at k hlt
        injection e with e
        subst e
        have hc' : wr.cell? ⟨b, off + k, none⟩ = some (.int .u32 (S k)) := by rw [hl.cell (p := ⟨b, off + k, none⟩) hlb]; exact hc
        have hd := hb.cell k hlt
        have hz := hb.frozen k
        have hk2 : (k : Int) < (len : Int) := by omega
        clear hc hb
        go_wp2
        go_roundw
        case rel => exact ⟨k + 1, by omega, by go_num, by rw [← parV_set]; exact HB.out.set k _, hl.setCell (Nat.le_refl _) _⟩
        case measure => simp [intOf]; omega
      · obtain rfl : k = len := by omega
        clear hb
        go_wp2
        go_ret
        exact Cop.mk (HB.out.congr fun i hi => by simp [parV, hi]) hl (Nat.le_refl _)

set_option maxRecDepth 100000 in
theorem getC (C : Nat → Nat) (k ob : Nat) (blk : Nat → Nat) (V : Nat → Nat → Value) (s j : Nat) (w : World) (h : SM C k ob blk w V) (hs : s < k) (hj : j < C s) (hk : k ≤ 4097) (hc : C s ≤ 4096) :
    Calls Tryd.prog 21 #[.agg #[.slice (some ⟨ob, 0, none⟩) k k], .agg #[.int .u32 s, .int .u32 j]] w fun e w' => e = .returned (.pointer (some ⟨blk s, j * 10, none⟩)) ∧ Below w.heap.size w w' := by
  have co := h.1.cell s hs
  have hol := h.1.lt
  have hs2 : (s : Int) < (k : Int) := by omega
  have hj2 : (j : Int) < ((C s : Nat) : Int) := by omega
  clear h
  go_enter Tryd.func21, Tryd.ntmps21
  go_wp2_with fail
  go_quiet (fail)
  go_wp2_with fail
  go_ret
  exact ⟨rfl, Qd.below_drewN (by (repeat' (first | exact Below.refl _ _ | refine Below.drewR ?_ | (refine Below.alloc ?_ (by simp; omega) _) | (refine Below.alloc ?_ (by simp) _) | (refine Below.setCell ?_ (by simp; omega) _) | (refine Below.setCell ?_ (by simp) _)))) _⟩
theorem eql_ref (a b c d : Int) (w : World) : (binOp .eql 44 (.agg #[.int .u32 a, .int .u32 b]) (.agg #[.int .u32 c, .int .u32 d])).run Tryd.prog w = .ok (.bool (a == c && b == d)) w := by
  have u3 := Tryd.underlying42
  have a3 := Tryd.isAgg42
  have z3 := Tryd.sizeOf42
  have hS : Tryd.prog.underlying 44 = some (.struct (Tryd.prog.fieldsOf 44)) := by kernel_rfl
  have hp : Tryd.prog.stoodInHeld 44 = false := by kernel_rfl
  rw [run_eql_struct, show (10000 : Nat) = 9999 + 1 from rfl, run_equalIn_agg w 9999 44 _ _ hS hp]
  simp only [Program.fieldsOf, Tryd.underlying44]
  go_simp
  by_cases h1 : a = c <;> by_cases h2 : b = d <;> simp [h1, h2]
theorem neq_ref (a b c d : Int) (w : World) : (binOp .neq 44 (.agg #[.int .u32 a, .int .u32 b]) (.agg #[.int .u32 c, .int .u32 d])).run Tryd.prog w = .ok (.bool (!(a == c && b == d))) w := by
  have u3 := Tryd.underlying42
  have a3 := Tryd.isAgg42
  have z3 := Tryd.sizeOf42
  have hS : Tryd.prog.underlying 44 = some (.struct (Tryd.prog.fieldsOf 44)) := by kernel_rfl
  have hp : Tryd.prog.stoodInHeld 44 = false := by kernel_rfl
  rw [run_neq_struct, show (10000 : Nat) = 9999 + 1 from rfl, run_equalIn_agg w 9999 44 _ _ hS hp]
  simp only [Program.fieldsOf, Tryd.underlying44]
  go_simp
  by_cases h1 : a = c <;> by_cases h2 : b = d <;> simp [h1, h2]
/-- The links that the cells hold. -/
def Links (C : Nat → Nat) (k : Nat) (V : Nat → Nat → Value) (L : Nat × Nat → Option (Nat × Nat)) : Prop :=
  ∀ s j, s < k → j < C s → (L (s, j) = none ∧ V s (j * 10 + 2) = .int .u32 4294967295 ∧ V s (j * 10 + 3) = .int .u32 4294967295) ∨
    ∃ t, L (s, j) = some t ∧ t.1 < k ∧ t.2 < C t.1 ∧ V s (j * 10 + 2) = .int .u32 (t.1 : Nat) ∧ V s (j * 10 + 3) = .int .u32 (t.2 : Nat)
/-- Only link cells differ. -/
def SameBut (V V' : Nat → Nat → Value) : Prop := ∀ s q, q % 10 ≠ 2 → q % 10 ≠ 3 → V' s q = V s q
theorem SameBut.refl (V : Nat → Nat → Value) : SameBut V V := fun _ _ _ _ => rfl
theorem SameBut.trans {V V1 V2 : Nat → Nat → Value} (h : SameBut V V1) (h2 : SameBut V1 V2) : SameBut V V2 := fun s q a b => (h2 s q a b).trans (h s q a b)
/-- The cells with one link set. -/
def putV (V : Nat → Nat → Value) (s j : Nat) (t : Nat × Nat) : Nat → Nat → Value := fun i => if i = s then upd (upd (V s) (j * 10 + 2) (.int .u32 (t.1 : Nat))) (j * 10 + 3) (.int .u32 (t.2 : Nat)) else V i
theorem put_same (V : Nat → Nat → Value) (s j : Nat) (t : Nat × Nat) : SameBut V (putV V s j t) := fun i q h2 h3 => by
  unfold putV
  by_cases e : i = s
  · subst e
    rw [if_pos rfl, upd_other _ _ _ _ (by omega), upd_other _ _ _ _ (by omega)]
  · rw [if_neg e]
theorem Links.put {C : Nat → Nat} {k s j : Nat} {V : Nat → Nat → Value} {L : Nat × Nat → Option (Nat × Nat)} {t : Nat × Nat} (h : Links C k V L) (ht : t.1 < k) (ht2 : t.2 < C t.1) : Links C k (putV V s j t) (Lk.lset L (s, j) t) := by
  intro i q hi hq
  by_cases e : i = s
  · subst e
    by_cases e2 : q = j
    · subst e2
      refine .inr ⟨t, Lk.lset_same _ _ _, ht, ht2, ?_, ?_⟩
      · unfold putV
        rw [if_pos rfl, upd_other _ _ _ _ (by omega), upd_same]
      · unfold putV
        rw [if_pos rfl, upd_same]
    · rw [Lk.lset_other _ _ _ _ (by intro e3; injection e3 with _ e3; exact e2 e3)]
      have e4 : putV V i j t i (q * 10 + 2) = V i (q * 10 + 2) := by unfold putV; rw [if_pos rfl, upd_other _ _ _ _ (by omega), upd_other _ _ _ _ (by omega)]
      have e5 : putV V i j t i (q * 10 + 3) = V i (q * 10 + 3) := by unfold putV; rw [if_pos rfl, upd_other _ _ _ _ (by omega), upd_other _ _ _ _ (by omega)]
      rw [e4, e5]
      exact h i q hi hq
  · rw [Lk.lset_other _ _ _ _ (by intro e3; injection e3 with e3 _; exact e e3)]
    have e4 : ∀ x, putV V s j t i x = V i x := fun x => by unfold putV; rw [if_neg e]
    rw [e4, e4]
    exact h i q hi hq
theorem SM.write {C : Nat → Nat} {k ob : Nat} {blk : Nat → Nat} {w : World} {V : Nat → Nat → Value} (h : SM C k ob blk w V) {s : Nat} (hs : s < k) (q : Nat) (v : Value) :
    SM C k ob blk (w.setCell ⟨blk s, q, none⟩ v) (fun i => if i = s then upd (V s) q v else V i) := by
  obtain ⟨h1, h2, h3, h4⟩ := h
  have hne : ∀ i, i < k → i ≠ s → blk s ≠ blk i := fun i hi hn e => by
    rcases Nat.lt_or_gt_of_ne hn with hl | hl
    · have := h4 i s hl hs; omega
    · have := h4 s i hl hi; omega
  refine ⟨h1.other (by show blk s ≠ ob; have := h3 s hs; omega) _, fun i hi => ?_, h3, h4⟩
  by_cases e : i = s
  · subst e; simp only [if_true]; exact (h2 i hi).set q v
  · simp only [if_neg e]; exact (h2 i hi).other (by show blk s ≠ blk i; exact hne i hi e) _
theorem SM.put {C : Nat → Nat} {k ob : Nat} {blk : Nat → Nat} {w : World} {V : Nat → Nat → Value} (h : SM C k ob blk w V) {s : Nat} (hs : s < k) (j : Nat) (t : Nat × Nat) :
    SM C k ob blk ((w.setCell ⟨blk s, j * 10 + 2, none⟩ (.int .u32 (t.1 : Nat))).setCell ⟨blk s, j * 10 + 3, none⟩ (.int .u32 (t.2 : Nat))) (putV V s j t) := by
  have h2 := (h.write hs (j * 10 + 2) (.int .u32 (t.1 : Nat))).write hs (j * 10 + 3) (.int .u32 (t.2 : Nat))
  have e : (fun i => if i = s then upd ((fun i => if i = s then upd (V s) (j * 10 + 2) (.int .u32 (t.1 : Nat)) else V i) s) (j * 10 + 3) (.int .u32 (t.2 : Nat)) else (fun i => if i = s then upd (V s) (j * 10 + 2) (.int .u32 (t.1 : Nat)) else V i) i) = putV V s j t := by
    funext i
    unfold putV
    by_cases e : i = s
    · subst e; simp
    · simp [e]
  rw [← e]
  exact h2
theorem SM.keep {C : Nat → Nat} {k ob : Nat} {blk : Nat → Nat} {w w' : World} {V : Nat → Nat → Value} (h : SM C k ob blk w V) (hb : Below w.heap.size w w') : SM C k ob blk w' V :=
  ⟨h.1.below hb h.1.lt, fun i hi => (h.2.1 i hi).below hb (h.2.1 i hi).lt, h.2.2.1, h.2.2.2⟩
/-- The variable InvalidRef. -/
def Gl (w : World) : Prop := w.cell? ⟨0, 0, none⟩ = some (.int .u32 4294967295) ∧ w.cell? ⟨0, 1, none⟩ = some (.int .u32 4294967295)
def FP (C : Nat → Nat) (k ob : Nat) (blk : Nat → Nat) (V : Nat → Nat → Value) (L : Nat × Nat → Option (Nat × Nat)) (s j : Nat) (t : Nat × Nat) (m : Nat) (w : World) (e : Ending) (w' : World) : Prop :=
  e = .returned (.agg #[.int .u32 (t.1 : Nat), .int .u32 (t.2 : Nat)]) ∧ ∃ V' L', SM C k ob blk w' V' ∧ Links C k V' L' ∧ Lk.Comp L L' ∧ (L' (s, j) = none ∨ L' (s, j) = some t) ∧ (∀ p n, Lk.Path L p t n → m < n → L' p = L p) ∧ SameBut V V' ∧ Chg (fun b => ∃ i, i < k ∧ b = blk i) w w'
theorem three_blocks (w w1 : World) (c0 c1 c2 : Array Value) (t0 t1 t2 : TypeId) (hb : Below (((w.alloc (.cells c0 t0)).alloc (.cells c1 t1)).alloc (.cells c2 t2)).heap.size (((w.alloc (.cells c0 t0)).alloc (.cells c1 t1)).alloc (.cells c2 t2)) w1) :
    w1.heap[w.heap.size]? = some (.cells c0 t0 (0, 0)) ∧ w1.heap[w.heap.size + 1]? = some (.cells c1 t1 (0, 0)) ∧ w1.heap[w.heap.size + 1 + 1]? = some (.cells c2 t2 (0, 0)) ∧ w.heap.size + 3 ≤ w1.heap.size := by
  have hz := hb.size
  simp at hz
  refine ⟨?_, ?_, ?_, by omega⟩
  · rw [hb.block _ (by simp; omega), Below.heap_alloc _ _ _ (by simp; omega), Below.heap_alloc _ _ _ (by simp)]; exact heap_alloc_new _ _
  · rw [hb.block _ (by simp), Below.heap_alloc _ _ _ (by simp)]
    have := heap_alloc_new (w.alloc (.cells c0 t0)) (.cells c1 t1)
    simpa using this
  · rw [hb.block _ (by simp)]
    have := heap_alloc_new ((w.alloc (.cells c0 t0)).alloc (.cells c1 t1)) (.cells c2 t2)
    simpa using this
theorem cellsB {w : World} {b i : Nat} {t : TypeId} {cs : Array Value} {v : Value} (h : w.heap[b]? = some (.cells cs t (0, 0))) (hv : cs[i]? = some v) : w.cell? ⟨b, i, none⟩ = some v := by
  rw [cell_of_row w b i cs t _ h, hv]
theorem Gl.below {w w' : World} (h : Gl w) (hb : Below w.heap.size w w') : Gl w' := by
  have h0 := lt_of_cell h.1
  exact ⟨by rw [hb.cell (p := ⟨0, 0, none⟩) h0]; exact h.1, by rw [hb.cell (p := ⟨0, 1, none⟩) h0]; exact h.2⟩
theorem Gl.chg {k ob : Nat} {blk : Nat → Nat} {w w' : World} (h : Gl w) (hb : ∀ i, i < k → ob < blk i) (hc : Chg (fun b => ∃ i, i < k ∧ b = blk i) w w') : Gl w' :=
  ⟨hc.cell h.1 (by rintro ⟨i, hi, e⟩; have := hb i hi; simp at e; omega), hc.cell h.2 (by rintro ⟨i, hi, e⟩; have := hb i hi; simp at e; omega)⟩
theorem chg_of {S : Nat → Prop} {w w' : World} (h : Below w.heap.size w w') : Chg S w w' := Chg.of_below h fun i h1 h2 => by omega
set_option maxHeartbeats 2000000 in
set_option maxRecDepth 100000 in
theorem follow0 (C : Nat → Nat) (k ob : Nat) (blk : Nat → Nat) (hk : k ≤ 4097) (hC : ∀ s, s < k → C s ≤ 4096) (s j : Nat) (V : Nat → Nat → Value) (L : Nat × Nat → Option (Nat × Nat)) (w : World) (hs : s < k) (hj : j < C s)
    (hM : SM C k ob blk w V) (hL : Links C k V L) (hG : Gl w) (hn : L (s, j) = none) :
    Calls Tryd.prog 16 #[.agg #[.slice (some ⟨ob, 0, none⟩) k k], .agg #[.int .u32 s, .int .u32 j]] w (FP C k ob blk V L s j (s, j) 0 w) := by
  have hB0 : Below w.heap.size w (((w.alloc (.cells #[.slice (some ⟨ob, 0, none⟩) k k] 38)).alloc (.cells #[.int .u32 s, .int .u32 j] 44)).alloc (.cells #[.int .u32 0, .int .u32 0] 44)) := by (repeat' (first | exact Below.refl _ _ | refine Below.drewR ?_ | (refine Below.alloc ?_ (by simp; omega) _) | (refine Below.alloc ?_ (by simp) _) | (refine Below.setCell ?_ (by simp; omega) _) | (refine Below.setCell ?_ (by simp) _)))
  have HM := Lib.hid hM
  have HB0 := Lib.hid hB0
  have HG := Lib.hid (getC C k ob blk V s j _ (hM.keep hB0) hs hj hk (hC s hs))
  have HGL := Lib.hid hG
  have HL := Lib.hid hL
  have HN := Lib.hid hn
  have he : ∀ w, (binOp .eql 44 (.agg #[.int .u32 4294967295, .int .u32 4294967295]) (.agg #[.int .u32 4294967295, .int .u32 4294967295])).run Tryd.prog w = .ok (.bool true) w := fun w => by rw [eql_ref]; rfl
  clear hM hB0 hG hL hn hC
  go_enter Tryd.func16, Tryd.ntmps16
  go_wp2_with fail
  refine HG.out.mono ?_
  rintro e w4 ⟨rfl, hb4⟩
  obtain ⟨h0, h1, h2, hz⟩ := three_blocks _ _ _ _ _ _ _ _ hb4
  have HB4 := Lib.hid (HB0.out.trans (hb4.mono HB0.out.size))
  have hM4 := HM.out.keep HB4.out
  obtain ⟨g0, g1⟩ := HGL.out.below HB4.out
  have l2 := (hM4.2.1 s hs).cell (j * 10 + 2) (by omega)
  have l3 := (hM4.2.1 s hs).cell (j * 10 + 3) (by omega)
  have hbl := (hM4.2.1 s hs).lt
  rcases HL.out s j hs hj with ⟨_, v2, v3⟩ | ⟨x, hx, _⟩
  · rw [v2] at l2
    rw [v3] at l3
    have b0 := cellsB (i := 0) h1 rfl
    have b1 := cellsB (i := 1) h1 rfl
    have d0 := cellsB (i := 0) h2 rfl
    have d1 := cellsB (i := 1) h2 rfl
    have f0 := frozen_of_row w4 (w.heap.size + 1 + 1) 0 _ 44 h2
    have f1 := frozen_of_row w4 (w.heap.size + 1 + 1) 1 _ 44 h2
    have HM4 := Lib.hid hM4
    clear hM4 h0 h1 h2 v2 v3 hb4
    go_wp2_with fail
    go_quiet (fail)
    go_wp2_with fail
    refine bodyPost_ret (v := .agg #[.int .u32 s, .int .u32 j]) (by simp [results, Tryd.results16, go_sem, d0, d1]) rfl ?_
    exact ⟨rfl, V, L, HM.out.keep (by (repeat' (first | exact HB4.out | refine Qd.below_drewN ?_ _ | (refine Below.setCell ?_ (show w.heap.size ≤ w.heap.size + 1 + 1 by omega) _)))), HL.out, Lk.Comp.refl L, .inl HN.out, fun _ _ _ _ => rfl, SameBut.refl V, chg_of (by (repeat' (first | exact HB4.out | refine Qd.below_drewN ?_ _ | (refine Below.setCell ?_ (show w.heap.size ≤ w.heap.size + 1 + 1 by omega) _))))⟩
  · rw [HN.out] at hx; cases hx
theorem belD {B : Nat} {a w : World} (h : Below B a w) : Below B a w.drew := h.trans ⟨rfl, rfl, rfl, Nat.le_refl _, fun _ _ => rfl⟩
theorem SM.keepB {C : Nat → Nat} {k ob B : Nat} {blk : Nat → Nat} {w w' : World} {V : Nat → Nat → Value} (h : SM C k ob blk w V) (ho : ob < B) (hl : ∀ i, i < k → blk i < B) (hb : Below B w w') : SM C k ob blk w' V :=
  ⟨h.1.below hb ho, fun i hi => (h.2.1 i hi).below hb (hl i hi), h.2.2.1, h.2.2.2⟩
theorem chgB {S : Nat → Prop} {w w6 wf : World} (h : Chg S w w6) (hb : Below w.heap.size w6 wf) : Chg S w wf :=
  h.transN (Chg.of_below (S := fun i => w.heap.size ≤ i) hb fun i _ hi => hi) fun i h1 h2 => by omega
/-- The end, the link left as it is. -/
theorem endS {C : Nat → Nat} {k ob : Nat} {blk : Nat → Nat} {s j m : Nat} {t : Nat × Nat} {V V' : Nat → Nat → Value} {L L' : Nat × Nat → Option (Nat × Nat)} {w W Wc w6 wf : World} (hM : SM C k ob blk w V)
    (h6 : SM C k ob blk w6 V' ∧ Links C k V' L' ∧ Lk.Comp L L' ∧ (∀ p n, Lk.Path L p t n → m < n → L' p = L p) ∧ SameBut V V' ∧ Chg (fun b => ∃ i, i < k ∧ b = blk i) Wc w6)
    (hL' : L' (s, j) = some t) (hW : Below w.heap.size w W) (hWc : Below W.heap.size W Wc) (hb : Below w.heap.size w6 wf) :
    FP C k ob blk V L s j t (m + 1) w (.returned (.agg #[.int .u32 (t.1 : Nat), .int .u32 (t.2 : Nat)])) wf := by
  obtain ⟨h1, h2, h3, h4, h5, h7⟩ := h6
  refine ⟨rfl, V', L', h1.keepB hM.1.lt (fun i hi => (hM.2.1 i hi).lt) hb, h2, h3, .inr hL', fun p n hp hn => h4 p n hp (by omega), h5, ?_⟩
  exact chgB ((chg_of (hW.trans (hWc.mono hW.size))).trans h7) hb
/-- The end, the link set anew. -/
theorem endP {C : Nat → Nat} {k ob : Nat} {blk : Nat → Nat} {s j m : Nat} {t x : Nat × Nat} {V V' : Nat → Nat → Value} {L L' : Nat × Nat → Option (Nat × Nat)} {w W Wc w6 wa wf : World} (hM : SM C k ob blk w V)
    (h6 : SM C k ob blk w6 V' ∧ Links C k V' L' ∧ Lk.Comp L L' ∧ (∀ p n, Lk.Path L p t n → m < n → L' p = L p) ∧ SameBut V V' ∧ Chg (fun b => ∃ i, i < k ∧ b = blk i) Wc w6) (hs : s < k)
    (hx : L (s, j) = some x) (hP : Lk.Path L x t m) (ht1 : t.1 < k) (ht2 : t.2 < C t.1)
    (hL' : L' (s, j) = some x) (hW : Below w.heap.size w W) (hWc : Below W.heap.size W Wc) (ha : Below w.heap.size w6 wa)
    (hb : Below w.heap.size ((wa.setCell ⟨blk s, j * 10 + 2, none⟩ (.int .u32 (t.1 : Nat))).setCell ⟨blk s, j * 10 + 2 + 1, none⟩ (.int .u32 (t.2 : Nat))) wf) :
    FP C k ob blk V L s j t (m + 1) w (.returned (.agg #[.int .u32 (t.1 : Nat), .int .u32 (t.2 : Nat)])) wf := by
  obtain ⟨h1, h2, h3, h4, h5, h7⟩ := h6
  have hbl : ∀ i, i < k → blk i < w.heap.size := fun i hi => (hM.2.1 i hi).lt
  have hP1 : Lk.Path L (s, j) t (m + 1) := .step hx hP
  refine ⟨rfl, putV V' s j t, Lk.lset L' (s, j) t, ((h1.keepB hM.1.lt hbl ha).put hs j t).keepB hM.1.lt hbl hb, h2.put ht1 ht2, h3.trans (Lk.Comp.lset (h3.root ⟨_, hP1⟩) (by rw [hL']; simp)), .inr (Lk.lset_same _ _ _), fun p n hp hn => ?_, h5.trans (put_same _ _ _ _), ?_⟩
  · have hne : p ≠ (s, j) := fun e => by
      subst e
      have := (hp.det hP1).2
      omega
    rw [Lk.lset_other _ _ _ _ hne]
    exact h4 p n hp (by omega)
  · exact chgB (((chgB ((chg_of (hW.trans (hWc.mono hW.size))).trans h7) ha).setCell (p := ⟨blk s, j * 10 + 2, none⟩) (.inl ⟨s, hs, rfl⟩) _).setCell (p := ⟨blk s, j * 10 + 2 + 1, none⟩) (.inl ⟨s, hs, rfl⟩) _) hb
set_option maxHeartbeats 4000000 in
set_option maxRecDepth 100000 in
theorem followS (C : Nat → Nat) (k ob : Nat) (blk : Nat → Nat) (hk : k ≤ 4097) (hC : ∀ s, s < k → C s ≤ 4096) (m : Nat)
    (ih : ∀ (s j : Nat) (t : Nat × Nat) (V : Nat → Nat → Value) (L : Nat × Nat → Option (Nat × Nat)) (w : World), s < k → j < C s →
      SM C k ob blk w V → Links C k V L → Gl w → Lk.Path L (s, j) t m → t.1 < k → t.2 < C t.1 →
      Calls Tryd.prog 16 #[.agg #[.slice (some ⟨ob, 0, none⟩) k k], .agg #[.int .u32 s, .int .u32 j]] w (FP C k ob blk V L s j t m w))
    (s j : Nat) (t x : Nat × Nat) (V : Nat → Nat → Value) (L : Nat × Nat → Option (Nat × Nat)) (w : World) (hs : s < k) (hj : j < C s)
    (hM : SM C k ob blk w V) (hL : Links C k V L) (hG : Gl w) (hn : L (s, j) = some x) (hP' : Lk.Path L x t m) (ht1 : t.1 < k) (ht2 : t.2 < C t.1) :
    Calls Tryd.prog 16 #[.agg #[.slice (some ⟨ob, 0, none⟩) k k], .agg #[.int .u32 s, .int .u32 j]] w (FP C k ob blk V L s j t (m + 1) w) := by
  have hB0 : Below w.heap.size w (((w.alloc (.cells #[.slice (some ⟨ob, 0, none⟩) k k] 38)).alloc (.cells #[.int .u32 s, .int .u32 j] 44)).alloc (.cells #[.int .u32 0, .int .u32 0] 44)) := by (repeat' (first | exact Below.refl _ _ | refine Below.drewR ?_ | (refine Below.alloc ?_ (by simp; omega) _) | (refine Below.alloc ?_ (by simp) _) | (refine Below.setCell ?_ (by simp; omega) _) | (refine Below.setCell ?_ (by simp) _)))
  have HM := Lib.hid hM
  have HB0 := Lib.hid hB0
  have HG := Lib.hid (getC C k ob blk V s j _ (hM.keep hB0) hs hj hk (hC s hs))
  have HGL := Lib.hid hG
  have HL := Lib.hid hL
  have HN := Lib.hid hn
  have HP := Lib.hid hP'
  have hx : x.1 < k ∧ x.2 < C x.1 ∧ V s (j * 10 + 2) = .int .u32 (x.1 : Nat) ∧ V s (j * 10 + 3) = .int .u32 (x.2 : Nat) := by
    rcases hL s j hs hj with ⟨e, _⟩ | ⟨y, e, q⟩
    · rw [hn] at e; cases e
    · rw [hn] at e
      injection e with e
      subst e; exact q
  obtain ⟨hx1, hx2, v2, v3⟩ := hx
  have he : ∀ w, (binOp .eql 44 (.agg #[.int .u32 (x.1 : Nat), .int .u32 (x.2 : Nat)]) (.agg #[.int .u32 4294967295, .int .u32 4294967295])).run Tryd.prog w = .ok (.bool false) w := fun w => by
    rw [eql_ref]
    have : ((x.1 : Nat) : Int) ≠ 4294967295 := by omega
    simp [this]
  have HV2 := Lib.hid v2
  have HV3 := Lib.hid v3
  have HC := Lib.hid hC
  clear hM hB0 hG hL hn hC hP' v2 v3
  go_enter Tryd.func16, Tryd.ntmps16
  go_wp2_with fail
  refine HG.out.mono ?_
  rintro e w4 ⟨rfl, hb4⟩
  obtain ⟨h0, h1, h2, hz⟩ := three_blocks _ _ _ _ _ _ _ _ hb4
  have HB4 := Lib.hid (HB0.out.trans (hb4.mono HB0.out.size))
  have hM4 := HM.out.keep HB4.out
  have HG4 := Lib.hid (HGL.out.below HB4.out)
  obtain ⟨g0, g1⟩ := HGL.out.below HB4.out
  have l2 := (hM4.2.1 s hs).cell (j * 10 + 2) (by omega)
  have l3 := (hM4.2.1 s hs).cell (j * 10 + 3) (by omega)
  have hbl := (hM4.2.1 s hs).lt
  rw [HV2.out] at l2
  rw [HV3.out] at l3
  have c0 := cellsB (i := 0) h0 rfl
  have H0 := Lib.hid h0
  have H2 := Lib.hid h2
  have HM4 := Lib.hid hM4
  clear hM4 h0 h1 h2 hb4
  go_wp2_with fail
  go_quiet (fail)
  go_wp2_with fail
  have MW := Lib.hid (show SM C k ob blk (w4.drewN nq) V from HM4.out)
  have BW := Lib.hid (show Below w.heap.size w (w4.drewN nq) from Qd.below_drewN HB4.out nq)
  have GW := Lib.hid (show Gl (w4.drewN nq) from HG4.out)
  have W0 := Lib.hid (show (w4.drewN nq).heap[w.heap.size]? = some (.cells #[.slice (some ⟨ob, 0, none⟩) k k] 38 (0, 0)) from H0.out)
  have W2 := Lib.hid (show (w4.drewN nq).heap[w.heap.size + 1 + 1]? = some (.cells #[.int .u32 0, .int .u32 0] 44 (0, 0)) from H2.out)
  have wz : w.heap.size + 3 ≤ (w4.drewN nq).heap.size := hz
  clear HM4 HB4 HG4 H0 H2 hz g0 g1 l2 l3 hbl c0
  generalize w4.drewN nq = W at MW BW GW W0 W2 wz ⊢
  have c0 := cellsB (i := 0) W0.out rfl
  have l2 := (MW.out.2.1 s hs).cell (j * 10 + 2) (by have := HC.out s hs; omega)
  have l3 := (MW.out.2.1 s hs).cell (j * 10 + 3) (by have := HC.out s hs; omega)
  have hbl := (MW.out.2.1 s hs).lt
  rw [HV2.out] at l2
  rw [HV3.out] at l3
  have z0 : w.heap.size < W.heap.size := by omega
  have zz : ∀ i, i < k → blk i < w.heap.size := fun i hi => (HM.out.2.1 i hi).lt
  have HLOW := Lib.hid zz
  have hbw : blk s < w.heap.size := zz s hs
  have IH := Lib.hid ih
  clear zz ih
  have HR : Hid (∀ w6 V' L', SM C k ob blk w6 V' → Links C k V' L' → (∀ p n, Lk.Path L p t n → m < n → L' p = L p) →
      w6.cell? ⟨blk s, j * 10 + 2, none⟩ = some (.int .u32 (x.1 : Nat)) ∧ w6.cell? ⟨blk s, j * 10 + 3, none⟩ = some (.int .u32 (x.2 : Nat)) ∧ w6.frozen? ⟨blk s, j * 10 + 2, none⟩ = false ∧ w6.frozen? ⟨blk s, j * 10 + 3, none⟩ = false ∧ L' (s, j) = some x) := Lib.hid (by
    intro w6 V' L' h1 h2 h3
    have e : L' (s, j) = some x := by rw [h3 _ _ (.step HN.out HP.out) (by omega)]; exact HN.out
    rcases h2 s j hs hj with ⟨e2, _⟩ | ⟨y, hy, _, _, u2, u3⟩
    · rw [e] at e2; cases e2
    · rw [e] at hy
      injection hy with hy
      subst hy
      have l2 := (h1.2.1 s hs).cell (j * 10 + 2) (by omega)
      have l3 := (h1.2.1 s hs).cell (j * 10 + 3) (by omega)
      rw [u2] at l2
      rw [u3] at l3
      exact ⟨l2, l3, (h1.2.1 s hs).frozen _, (h1.2.1 s hs).frozen _, e⟩)
  have HT : Hid (∀ Wc w6 : World, Below W.heap.size W Wc → Chg (fun b => ∃ i, i < k ∧ b = blk i) Wc w6 → w6.heap[w.heap.size]? = some (.cells #[.slice (some ⟨ob, 0, none⟩) k k] 38 (0, 0)) ∧ w6.heap[w.heap.size + 1 + 1]? = some (.cells #[.int .u32 0, .int .u32 0] 44 (0, 0)) ∧ w.heap.size + 3 ≤ w6.heap.size) := Lib.hid (by
    intro Wc w6 h1 h2
    have hz := h1.size
    refine ⟨?_, ?_, Nat.le_trans wz (Nat.le_trans hz h2.size)⟩
    · exact (h2.block _ (by omega) (by rintro ⟨i, hi, e⟩; have := HLOW.out i hi; omega)).trans ((h1.block _ (by omega)).trans W0.out)
    · exact (h2.block _ (by omega) (by rintro ⟨i, hi, e⟩; have := HLOW.out i hi; omega)).trans ((h1.block _ (by omega)).trans W2.out))
  clear hbl z0
  have n1 : ¬ W.heap.size = w.heap.size := by omega
  have n2 : ¬ w.heap.size = W.heap.size := by omega
  have n3 : ¬ W.heap.size = w.heap.size + 1 + 1 := by omega
  have n4 : ¬ w.heap.size + 1 + 1 = W.heap.size := by omega
  have n5 : ¬ W.heap.size = blk s := by omega
  have n6 : ¬ blk s = W.heap.size := by omega
  by_cases hxt : x = t
  · subst hxt
    have he2 : ∀ w, (binOp .neq 44 (.agg #[.int .u32 (x.1 : Nat), .int .u32 (x.2 : Nat)]) (.agg #[.int .u32 (x.1 : Nat), .int .u32 (x.2 : Nat)])).run Tryd.prog w = .ok (.bool false) w := fun w => by rw [neq_ref]; simp
    go_region_held3 (fun w' => w'.cell? ⟨w.heap.size, 0, none⟩ = some (.slice (some ⟨ob, 0, none⟩) k k) ∧ w'.cell? ⟨blk s, j * 10 + 2, none⟩ = some (.int .u32 (x.1 : Nat)) ∧ w'.cell? ⟨blk s, j * 10 + 3, none⟩ = some (.int .u32 (x.2 : Nat)))
      (first | exact ⟨c0', l2', l3'⟩ | exact ⟨c0, l2, l3⟩ | go_keep)
      ((go_at_call 16; first
        | (
          refine (IH.out x.1 x.2 x V L _ hx1 hx2 (MW.out.keep (by first | exact belD (Below.refl _ _) | exact belD ((Below.refl _ _).alloc (Nat.le_refl _) _))) HL.out (GW.out.below (by first | exact belD (Below.refl _ _) | exact belD ((Below.refl _ _).alloc (Nat.le_refl _) _))) HP.out ht1 ht2).mono ?_
          rintro e w6 ⟨rfl, V', L', hM6, hL6, hC6, hr6, hU6, hS6, hch⟩
          have HA := hch.block W.heap.size (show W.heap.size < (W.alloc _).heap.size by simp) (by rintro ⟨i, hi, e⟩; have := HLOW.out i hi; omega)
          have HA := HA.trans (heap_alloc_new W _)
          have a0 := cellsB (i := 0) HA rfl
          have a1 := cellsB (i := 1) HA rfl
          have fa0 := frozen_of_row w6 W.heap.size 0 _ 44 HA
          have fa1 := frozen_of_row w6 W.heap.size 1 _ 44 HA
          have HA := Lib.hid HA
          obtain ⟨H0, H2, z6⟩ := HT.out _ _ (by first | exact belD (Below.refl _ _) | exact belD ((Below.refl _ _).alloc (Nat.le_refl _) _)) hch
          obtain ⟨l2', l3', y2, y3, hL'⟩ := HR.out _ _ _ hM6 hL6 hU6
          have c0' := cellsB (i := 0) H0 rfl
          have HF := Lib.hid (And.intro hM6 (And.intro hL6 (And.intro hC6 (And.intro hU6 (And.intro hS6 hch)))))
          clear hM6 hL6 hC6 hU6 hS6 hch hr6)
        | (
          refine (IH.out x.1 x.2 x V L _ hx1 hx2 (MW.out.keep (by first | exact belD (Below.refl _ _) | exact belD ((Below.refl _ _).alloc (Nat.le_refl _) _))) HL.out (GW.out.below (by first | exact belD (Below.refl _ _) | exact belD ((Below.refl _ _).alloc (Nat.le_refl _) _))) HP.out ht1 ht2).mono ?_
          rintro e w6 ⟨rfl, V', L', hM6, hL6, hC6, hr6, hU6, hS6, hch⟩
          skip
          obtain ⟨H0, H2, z6⟩ := HT.out _ _ (by first | exact belD (Below.refl _ _) | exact belD ((Below.refl _ _).alloc (Nat.le_refl _) _)) hch
          obtain ⟨l2', l3', y2, y3, hL'⟩ := HR.out _ _ _ hM6 hL6 hU6
          have c0' := cellsB (i := 0) H0 rfl
          have HF := Lib.hid (And.intro hM6 (And.intro hL6 (And.intro hC6 (And.intro hU6 (And.intro hS6 hch)))))
          clear hM6 hL6 hC6 hU6 hS6 hch hr6)))
    · have d0 := cellsB (i := 0) H2 rfl
      have d1 := cellsB (i := 1) H2 rfl
      have f0 := frozen_of_row w6 (w.heap.size + 1 + 1) 0 _ 44 H2
      have f1 := frozen_of_row w6 (w.heap.size + 1 + 1) 1 _ 44 H2
      have m1 : w.heap.size + 1 + 1 < w6.heap.size := by omega
      have m2 : ¬ w6.heap.size = w.heap.size := by omega
      have m3 : ¬ w6.heap.size = w.heap.size + 1 + 1 := by omega
      have m4 : ¬ w6.heap.size = blk s := by omega
      have m5 : ¬ blk s = w6.heap.size := by omega
      have m6 : ¬ w.heap.size + 1 + 1 = w6.heap.size := by omega
      have m7 : ¬ blk s = w.heap.size + 1 + 1 := by omega
      have m8 : blk s < w6.heap.size := by omega
      have H2 := Lib.hid H2
      have H0 := Lib.hid H0
      go_wp2_with fail
      go_quiet (fail)
      go_wp2_with fail
      refine bodyPost_ret (v := .agg #[.int .u32 (x.1 : Nat), .int .u32 (x.2 : Nat)]) (by rw [results, Tryd.results16]; go_simp) rfl ?_
      exact endS HM.out HF.out hL' BW.out (by first | exact belD (Below.refl _ _) | exact belD ((Below.refl _ _).alloc (Nat.le_refl _) _)) (by (repeat' (first | with_reducible exact Below.refl _ _ | with_reducible refine Qd.below_drewN ?_ _ | (with_reducible refine Below.setCell ?_ (show w.heap.size ≤ _ by (first | exact Nat.le_refl _ | (dsimp only; omega))) _) | (with_reducible refine Below.alloc ?_ (by omega) _))))
    · have d0 := cellsB (i := 0) H2 rfl
      have d1 := cellsB (i := 1) H2 rfl
      have f0 := frozen_of_row w6 (w.heap.size + 1 + 1) 0 _ 44 H2
      have f1 := frozen_of_row w6 (w.heap.size + 1 + 1) 1 _ 44 H2
      have m1 : w.heap.size + 1 + 1 < w6.heap.size := by omega
      have m2 : ¬ w6.heap.size = w.heap.size := by omega
      have m3 : ¬ w6.heap.size = w.heap.size + 1 + 1 := by omega
      have m4 : ¬ w6.heap.size = blk s := by omega
      have m5 : ¬ blk s = w6.heap.size := by omega
      have m6 : ¬ w.heap.size + 1 + 1 = w6.heap.size := by omega
      have m7 : ¬ blk s = w.heap.size + 1 + 1 := by omega
      have m8 : blk s < w6.heap.size := by omega
      have H2 := Lib.hid H2
      have H0 := Lib.hid H0
      go_wp2_with fail
      go_quiet (fail)
      go_wp2_with fail
      refine bodyPost_ret (v := .agg #[.int .u32 (x.1 : Nat), .int .u32 (x.2 : Nat)]) (by first | (simp [results, Tryd.results16, go_sem, d0, d1]; done) | (simp [results, Tryd.results16, go_sem, d0, d1, m1, m2, m3, m4, m5, m6, m7, m8, n1, n2, n3, n4, n5, n6]; done) | (rw [results, Tryd.results16]; go_simp)) rfl ?_
      exact endS HM.out HF.out hL' BW.out (by first | exact belD (Below.refl _ _) | exact belD ((Below.refl _ _).alloc (Nat.le_refl _) _)) (by (repeat' (first | with_reducible exact Below.refl _ _ | with_reducible refine Qd.below_drewN ?_ _ | (with_reducible refine Below.setCell ?_ (show w.heap.size ≤ _ by (first | exact Nat.le_refl _ | (dsimp only; omega))) _) | (with_reducible refine Below.alloc ?_ (by omega) _))))
  · have he2 : ∀ w, (binOp .neq 44 (.agg #[.int .u32 (x.1 : Nat), .int .u32 (x.2 : Nat)]) (.agg #[.int .u32 (t.1 : Nat), .int .u32 (t.2 : Nat)])).run Tryd.prog w = .ok (.bool true) w := fun w => by
      rw [neq_ref]
      have : ¬ (((x.1 : Nat) : Int) = ((t.1 : Nat) : Int) ∧ ((x.2 : Nat) : Int) = ((t.2 : Nat) : Int)) := fun ⟨a, b⟩ => hxt (Prod.ext (by omega) (by omega))
      congr 2
      rw [Bool.not_eq_true', Bool.eq_false_iff]
      simpa using this
    go_region_held3 (fun w' => w'.cell? ⟨w.heap.size, 0, none⟩ = some (.slice (some ⟨ob, 0, none⟩) k k) ∧ w'.cell? ⟨blk s, j * 10 + 2, none⟩ = some (.int .u32 (x.1 : Nat)) ∧ w'.cell? ⟨blk s, j * 10 + 3, none⟩ = some (.int .u32 (x.2 : Nat)))
      (first | exact ⟨c0', l2', l3'⟩ | exact ⟨c0, l2, l3⟩ | go_keep)
      ((go_at_call 16; first
        | (
          refine (IH.out x.1 x.2 t V L _ hx1 hx2 (MW.out.keep (by first | exact belD (Below.refl _ _) | exact belD ((Below.refl _ _).alloc (Nat.le_refl _) _))) HL.out (GW.out.below (by first | exact belD (Below.refl _ _) | exact belD ((Below.refl _ _).alloc (Nat.le_refl _) _))) HP.out ht1 ht2).mono ?_
          rintro e w6 ⟨rfl, V', L', hM6, hL6, hC6, hr6, hU6, hS6, hch⟩
          have HA := hch.block W.heap.size (show W.heap.size < (W.alloc _).heap.size by simp) (by rintro ⟨i, hi, e⟩; have := HLOW.out i hi; omega)
          have HA := HA.trans (heap_alloc_new W _)
          have a0 := cellsB (i := 0) HA rfl
          have a1 := cellsB (i := 1) HA rfl
          have fa0 := frozen_of_row w6 W.heap.size 0 _ 44 HA
          have fa1 := frozen_of_row w6 W.heap.size 1 _ 44 HA
          have HA := Lib.hid HA
          obtain ⟨H0, H2, z6⟩ := HT.out _ _ (by first | exact belD (Below.refl _ _) | exact belD ((Below.refl _ _).alloc (Nat.le_refl _) _)) hch
          obtain ⟨l2', l3', y2, y3, hL'⟩ := HR.out _ _ _ hM6 hL6 hU6
          have c0' := cellsB (i := 0) H0 rfl
          have HF := Lib.hid (And.intro hM6 (And.intro hL6 (And.intro hC6 (And.intro hU6 (And.intro hS6 hch)))))
          clear hM6 hL6 hC6 hU6 hS6 hch hr6)
        | (
          refine (IH.out x.1 x.2 t V L _ hx1 hx2 (MW.out.keep (by first | exact belD (Below.refl _ _) | exact belD ((Below.refl _ _).alloc (Nat.le_refl _) _))) HL.out (GW.out.below (by first | exact belD (Below.refl _ _) | exact belD ((Below.refl _ _).alloc (Nat.le_refl _) _))) HP.out ht1 ht2).mono ?_
          rintro e w6 ⟨rfl, V', L', hM6, hL6, hC6, hr6, hU6, hS6, hch⟩
          skip
          obtain ⟨H0, H2, z6⟩ := HT.out _ _ (by first | exact belD (Below.refl _ _) | exact belD ((Below.refl _ _).alloc (Nat.le_refl _) _)) hch
          obtain ⟨l2', l3', y2, y3, hL'⟩ := HR.out _ _ _ hM6 hL6 hU6
          have c0' := cellsB (i := 0) H0 rfl
          have HF := Lib.hid (And.intro hM6 (And.intro hL6 (And.intro hC6 (And.intro hU6 (And.intro hS6 hch)))))
          clear hM6 hL6 hC6 hU6 hS6 hch hr6)))
    · have d0 := cellsB (i := 0) H2 rfl
      have d1 := cellsB (i := 1) H2 rfl
      have f0 := frozen_of_row w6 (w.heap.size + 1 + 1) 0 _ 44 H2
      have f1 := frozen_of_row w6 (w.heap.size + 1 + 1) 1 _ 44 H2
      have m1 : w.heap.size + 1 + 1 < w6.heap.size := by omega
      have m2 : ¬ w6.heap.size = w.heap.size := by omega
      have m3 : ¬ w6.heap.size = w.heap.size + 1 + 1 := by omega
      have m4 : ¬ w6.heap.size = blk s := by omega
      have m5 : ¬ blk s = w6.heap.size := by omega
      have m6 : ¬ w.heap.size + 1 + 1 = w6.heap.size := by omega
      have m7 : ¬ blk s = w.heap.size + 1 + 1 := by omega
      have m8 : blk s < w6.heap.size := by omega
      have H2 := Lib.hid H2
      have H0 := Lib.hid H0
      go_wp2_with fail
      go_quiet (fail)
      go_wp2_with fail
      refine bodyPost_ret (v := .agg #[.int .u32 (t.1 : Nat), .int .u32 (t.2 : Nat)]) (by rw [results, Tryd.results16]; go_simp) rfl ?_
      exact endP (wa := (w6.alloc (.cells #[.int .u32 (t.1 : Nat), .int .u32 (t.2 : Nat)] 44)).drewN nq) HM.out HF.out hs HN.out HP.out ht1 ht2 hL' BW.out (by first | exact belD (Below.refl _ _) | exact belD ((Below.refl _ _).alloc (Nat.le_refl _) _)) (by (repeat' (first | with_reducible exact Below.refl _ _ | with_reducible refine Qd.below_drewN ?_ _ | (with_reducible refine Below.setCell ?_ (show w.heap.size ≤ _ by (first | exact Nat.le_refl _ | (dsimp only; omega))) _) | (with_reducible refine Below.alloc ?_ (by omega) _)))) (by (repeat' (first | with_reducible exact Below.refl _ _ | with_reducible refine Qd.below_drewN ?_ _ | (with_reducible refine Below.setCell ?_ (show w.heap.size ≤ _ by (first | exact Nat.le_refl _ | (dsimp only; omega))) _) | (with_reducible refine Below.alloc ?_ (by omega) _))))
    · have d0 := cellsB (i := 0) H2 rfl
      have d1 := cellsB (i := 1) H2 rfl
      have f0 := frozen_of_row w6 (w.heap.size + 1 + 1) 0 _ 44 H2
      have f1 := frozen_of_row w6 (w.heap.size + 1 + 1) 1 _ 44 H2
      have m1 : w.heap.size + 1 + 1 < w6.heap.size := by omega
      have m2 : ¬ w6.heap.size = w.heap.size := by omega
      have m3 : ¬ w6.heap.size = w.heap.size + 1 + 1 := by omega
      have m4 : ¬ w6.heap.size = blk s := by omega
      have m5 : ¬ blk s = w6.heap.size := by omega
      have m6 : ¬ w.heap.size + 1 + 1 = w6.heap.size := by omega
      have m7 : ¬ blk s = w.heap.size + 1 + 1 := by omega
      have m8 : blk s < w6.heap.size := by omega
      have H2 := Lib.hid H2
      have H0 := Lib.hid H0
      go_wp2_with fail
      go_quiet (fail)
      go_wp2_with fail
      refine bodyPost_ret (v := .agg #[.int .u32 (t.1 : Nat), .int .u32 (t.2 : Nat)]) (by first | (simp [results, Tryd.results16, go_sem, d0, d1]; done) | (simp [results, Tryd.results16, go_sem, d0, d1, m1, m2, m3, m4, m5, m6, m7, m8, n1, n2, n3, n4, n5, n6]; done) | (rw [results, Tryd.results16]; go_simp)) rfl ?_
      exact endP (wa := ((w6.setCell ⟨W.heap.size, 0, none⟩ (.int .u32 (t.1 : Nat))).setCell ⟨W.heap.size, 1, none⟩ (.int .u32 (t.2 : Nat))).drewN nq) HM.out HF.out hs HN.out HP.out ht1 ht2 hL' BW.out (by first | exact belD (Below.refl _ _) | exact belD ((Below.refl _ _).alloc (Nat.le_refl _) _)) (by (repeat' (first | with_reducible exact Below.refl _ _ | with_reducible refine Qd.below_drewN ?_ _ | (with_reducible refine Below.setCell ?_ (show w.heap.size ≤ _ by (first | exact Nat.le_refl _ | (dsimp only; omega))) _) | (with_reducible refine Below.alloc ?_ (by omega) _)))) (by (repeat' (first | with_reducible exact Below.refl _ _ | with_reducible refine Qd.below_drewN ?_ _ | (with_reducible refine Below.setCell ?_ (show w.heap.size ≤ _ by (first | exact Nat.le_refl _ | (dsimp only; omega))) _) | (with_reducible refine Below.alloc ?_ (by omega) _))))
theorem follow (C : Nat → Nat) (k ob : Nat) (blk : Nat → Nat) (hk : k ≤ 4097) (hC : ∀ s, s < k → C s ≤ 4096) (m : Nat) : ∀ (s j : Nat) (t : Nat × Nat) (V : Nat → Nat → Value) (L : Nat × Nat → Option (Nat × Nat)) (w : World), s < k → j < C s →
    SM C k ob blk w V → Links C k V L → Gl w → Lk.Path L (s, j) t m → t.1 < k → t.2 < C t.1 →
    Calls Tryd.prog 16 #[.agg #[.slice (some ⟨ob, 0, none⟩) k k], .agg #[.int .u32 s, .int .u32 j]] w (FP C k ob blk V L s j t m w) := by
  induction m with
  | zero =>
    intro s j t V L w hs hj hM hL hG hP ht1 ht2
    cases hP with
    | done hn => exact follow0 C k ob blk hk hC s j V L w hs hj hM hL hG hn
  | succ m ih =>
    intro s j t V L w hs hj hM hL hG hP ht1 ht2
    cases hP with
    | @step _ x _ _ hn hP' => exact followS C k ob blk hk hC m ih s j t x V L w hs hj hM hL hG hn hP' ht1 ht2
/-- A link's target. -/
def tg (n : Nat) (x : Int) : Int := if x < 0 then -1 else x.tmod n
theorem tg_bd {n : Nat} (hn : 0 < n) (x : Int) : -1 ≤ tg n x ∧ tg n x < n := by
  unfold tg
  by_cases h : x < 0
  · rw [if_pos h]; omega
  · rw [if_neg h]
    have h1 := Int.tmod_lt_of_pos x (show (0 : Int) < (n : Int) by omega)
    have h2 := Int.tmod_nonneg (b := (n : Int)) (a := x) (by omega)
    omega
def TgR (n : Nat) (S : Nat → Int) (w : World) (e : Ending) (w' : World) : Prop :=
  ∃ b, e = .returned (.slice (some ⟨b, 0, none⟩) n n) ∧ w.heap.size ≤ b ∧ Fblk w' b 3 n (fun i => .int .i64 (tg n (S i))) ∧ Below w.heap.size w w'
set_option maxRecDepth 100000 in
theorem targets (b off n cap : Nat) (S : Nat → Int) (w : World) (h : Fsl w (some ⟨b, off, none⟩) n (fun i => .int .i32 (S i))) (hS : ∀ i, i < n → -2147483648 ≤ S i ∧ S i ≤ 2147483647) (hn0 : 0 < n) (hn : n ≤ 4096) :
    Calls Tryd.prog 8 #[.slice (some ⟨b, off, none⟩) n cap] w (TgR n S w) := by
  have hmk := run_make_one (P := Tryd.prog) Tryd.underlying29 intInfo rfl (by omega) n (by omega)
  have HS := Lib.hid hS
  clear hS
  have hn0' : ((n : Int) == 0) = false := by simp; omega
  go_enter Tryd.func8, Tryd.ntmps8
  go_wp2_with fail
  go_loopw [5] (fun i wr => ∃ k : Nat, k ≤ n ∧ i = .int .i64 k ∧ Hid (Fblk wr w.heap.size 3 n (parV (fun i => .int .i64 (tg n (S i))) (.int .i64 0) k)) ∧ Hid (Below w.heap.size w wr)) (fun i _ => n - (intOf i).toNat)
  case atStart => exact ⟨0, by omega, rfl, Lib.hid (by rw [parV_zero]; exact Fblk.made _ _ _ _), Lib.hid ((Below.refl _ _).alloc (Nat.le_refl _) _)⟩
  case round =>
    obtain ⟨k, hk, rfl, HB, HL⟩ := hrel
    by_cases hlt : k < n
    · obtain ⟨b', off', e, hlb, hc⟩ := h.at k hlt
      injection e with e
      injection e with e1 e2
      subst e1 e2
      have hc' : wr.cell? ⟨b, off + k, none⟩ = some (.int .i32 (S k)) := by rw [HL.out.cell (p := ⟨b, off + k, none⟩) hlb]; exact hc
      have hd := HB.out.cell k hlt
      have hz := HB.out.frozen k
      have hk2 : (k : Int) < (n : Int) := by omega
      have hr1 := (HS.out k hlt).1
      have hr2 := (HS.out k hlt).2
      clear hc
      by_cases hneg : S k < 0
      · have hg : decide (S k < 0) = true := by simpa using hneg
        have HT := Lib.hid (show tg n (S k) = -1 by unfold tg; rw [if_pos hneg])
        go_wp2_with fail
        go_roundw
        case rel => exact ⟨k + 1, by omega, by go_num, Lib.hid (by rw [← parV_set, HT.out]; exact HB.out.set k _), Lib.hid (HL.out.setCell (Nat.le_refl _) _)⟩
        case measure => simp [intOf]; omega
      · have hg : decide (S k < 0) = false := by simpa using hneg
        have HT := Lib.hid (show tg n (S k) = (S k).tmod n by unfold tg; rw [if_neg hneg])
        have hb1 := tg_bd hn0 (S k)
        rw [HT.out] at hb1
        have hw1 : IntKind.i64.wrap (S k) = S k := IntWalk.i64_in _ (by omega)
        have hw2 : IntKind.i64.wrap ((S k).tmod n) = (S k).tmod n := IntWalk.i64_in _ (by omega)
        clear hb1
        go_wp2_with fail
        go_roundw
        case rel => exact ⟨k + 1, by omega, by go_num, Lib.hid (by rw [← parV_set, HT.out, Int.tmod_eq_emod_of_nonneg (Int.not_lt.1 hneg)]; exact HB.out.set k _), Lib.hid (HL.out.setCell (Nat.le_refl _) _)⟩
        case measure => simp [intOf]; omega
    · obtain rfl : k = n := by omega
      go_wp2_with fail
      go_ret
      exact ⟨_, rfl, Nat.le_refl _, HB.out.congr fun i hi => by simp [parV, hi], HL.out⟩
theorem fld52 (a b c d e f g h i j : Value) (w : World) : (Instr.field 52 (.agg #[a, b, c, d, e, f, g, h, i, j]) 2).run Tryd.prog w = .ok (.agg #[c, d]) w := by kernel_rfl
set_option maxRecDepth 100000 in
/-- A symbol by value. -/
theorem cellC (C : Nat → Nat) (k ob : Nat) (blk : Nat → Nat) (V : Nat → Nat → Value) (s j : Nat) (w : World) (h : SM C k ob blk w V) (hs : s < k) (hj : j < C s) (hk : k ≤ 4097) (hc : C s ≤ 4096) (h1v : OneV (C s * 10) (V s)) :
    Calls Tryd.prog 14 #[.agg #[.slice (some ⟨ob, 0, none⟩) k k], .agg #[.int .u32 s, .int .u32 j]] w fun e w' => e = .returned (.agg #[V s (j * 10), V s (j * 10 + 1), V s (j * 10 + 2), V s (j * 10 + 3), V s (j * 10 + 4), V s (j * 10 + 5), V s (j * 10 + 6), V s (j * 10 + 7), V s (j * 10 + 8), V s (j * 10 + 9)]) ∧ Below w.heap.size w w' := by
  have co := h.1.cell s hs
  have hol := h.1.lt
  have q0 := (h.2.1 s hs).cell (j * 10) (by omega)
  have q1 := (h.2.1 s hs).cell (j * 10 + 1) (by omega)
  have q2 := (h.2.1 s hs).cell (j * 10 + 2) (by omega)
  have q3 := (h.2.1 s hs).cell (j * 10 + 3) (by omega)
  have q4 := (h.2.1 s hs).cell (j * 10 + 4) (by omega)
  have q5 := (h.2.1 s hs).cell (j * 10 + 5) (by omega)
  have q6 := (h.2.1 s hs).cell (j * 10 + 6) (by omega)
  have q7 := (h.2.1 s hs).cell (j * 10 + 7) (by omega)
  have q8 := (h.2.1 s hs).cell (j * 10 + 8) (by omega)
  have q9 := (h.2.1 s hs).cell (j * 10 + 9) (by omega)
  have hbl := (h.2.1 s hs).lt
  have hs2 : (s : Int) < (k : Int) := by omega
  have hj2 : (j : Int) < ((C s : Nat) : Int) := by omega
  have o0 := h1v (j * 10) (by omega)
  have o1 := h1v (j * 10 + 1) (by omega)
  have o2 := h1v (j * 10 + 2) (by omega)
  have o3 := h1v (j * 10 + 3) (by omega)
  have o4 := h1v (j * 10 + 4) (by omega)
  have o5 := h1v (j * 10 + 5) (by omega)
  have o6 := h1v (j * 10 + 6) (by omega)
  have o7 := h1v (j * 10 + 7) (by omega)
  have o8 := h1v (j * 10 + 8) (by omega)
  have o9 := h1v (j * 10 + 9) (by omega)
  clear h h1v
  go_enter Tryd.func14, Tryd.ntmps14
  go_wp2_with fail
  have z1 : Below w.heap.size w (((w.alloc (.cells #[.slice (some ⟨ob, 0, none⟩) k k] 38)).alloc (.cells #[.int .u32 s, .int .u32 j] 44)).alloc (.cells #[.pointer none, .string ⟨#[]⟩, .int .u32 0, .int .u32 0, .int .u32 0, .int .u32 0, .int .u32 0, .int .u16 0, .int .u8 0, .int .u8 0] 52)) := by (repeat' (first | exact Below.refl _ _ | refine Below.drewR ?_ | (refine Below.alloc ?_ (by simp; omega) _) | (refine Below.alloc ?_ (by simp) _) | (refine Below.setCell ?_ (by simp; omega) _) | (refine Below.setCell ?_ (by simp) _)))
  obtain ⟨W, hW⟩ : ∃ W, W = (((w.alloc (.cells #[.slice (some ⟨ob, 0, none⟩) k k] 38)).alloc (.cells #[.int .u32 s, .int .u32 j] 44)).alloc (.cells #[.pointer none, .string ⟨#[]⟩, .int .u32 0, .int .u32 0, .int .u32 0, .int .u32 0, .int .u32 0, .int .u16 0, .int .u8 0, .int .u8 0] 52)) := ⟨_, rfl⟩
  obtain ⟨h0, h1, h2, hz⟩ := three_blocks w W _ _ _ _ _ _ (by rw [hW]; exact Below.refl _ _)
  rw [← hW] at z1 ⊢
  have Z1 := Lib.hid z1
  have b0 := cellsB (i := 0) h0 rfl
  have r0 := cellsB (i := 0) h1 rfl
  have r1 := cellsB (i := 1) h1 rfl
  have co' : W.cell? _ = _ := (z1.cell (p := ⟨ob, s, none⟩) hol).trans co
  rw [← z1.cell (p := ⟨blk s, j * 10, none⟩) hbl] at q0
  rw [← z1.cell (p := ⟨blk s, j * 10 + 1, none⟩) hbl] at q1
  rw [← z1.cell (p := ⟨blk s, j * 10 + 2, none⟩) hbl] at q2
  rw [← z1.cell (p := ⟨blk s, j * 10 + 3, none⟩) hbl] at q3
  rw [← z1.cell (p := ⟨blk s, j * 10 + 4, none⟩) hbl] at q4
  rw [← z1.cell (p := ⟨blk s, j * 10 + 5, none⟩) hbl] at q5
  rw [← z1.cell (p := ⟨blk s, j * 10 + 6, none⟩) hbl] at q6
  rw [← z1.cell (p := ⟨blk s, j * 10 + 7, none⟩) hbl] at q7
  rw [← z1.cell (p := ⟨blk s, j * 10 + 8, none⟩) hbl] at q8
  rw [← z1.cell (p := ⟨blk s, j * 10 + 9, none⟩) hbl] at q9
  have d0 := cellsB (i := 0) h2 rfl
  have f0 := frozen_of_row W (w.heap.size + 1 + 1) 0 _ 52 h2
  have d1 := cellsB (i := 1) h2 rfl
  have f1 := frozen_of_row W (w.heap.size + 1 + 1) 1 _ 52 h2
  have d2 := cellsB (i := 2) h2 rfl
  have f2 := frozen_of_row W (w.heap.size + 1 + 1) 2 _ 52 h2
  have d3 := cellsB (i := 3) h2 rfl
  have f3 := frozen_of_row W (w.heap.size + 1 + 1) 3 _ 52 h2
  have d4 := cellsB (i := 4) h2 rfl
  have f4 := frozen_of_row W (w.heap.size + 1 + 1) 4 _ 52 h2
  have d5 := cellsB (i := 5) h2 rfl
  have f5 := frozen_of_row W (w.heap.size + 1 + 1) 5 _ 52 h2
  have d6 := cellsB (i := 6) h2 rfl
  have f6 := frozen_of_row W (w.heap.size + 1 + 1) 6 _ 52 h2
  have d7 := cellsB (i := 7) h2 rfl
  have f7 := frozen_of_row W (w.heap.size + 1 + 1) 7 _ 52 h2
  have d8 := cellsB (i := 8) h2 rfl
  have f8 := frozen_of_row W (w.heap.size + 1 + 1) 8 _ 52 h2
  have d9 := cellsB (i := 9) h2 rfl
  have f9 := frozen_of_row W (w.heap.size + 1 + 1) 9 _ 52 h2
  have s0 := fun u : World => run_store Tryd.prog u ⟨w.heap.size + 1 + 1, 0, none⟩ (V s (j * 10)) .plain o0
  have s1 := fun u : World => run_store Tryd.prog u ⟨w.heap.size + 1 + 1, 1, none⟩ (V s (j * 10 + 1)) .plain o1
  have s2 := fun u : World => run_store Tryd.prog u ⟨w.heap.size + 1 + 1, 2, none⟩ (V s (j * 10 + 2)) .plain o2
  have s3 := fun u : World => run_store Tryd.prog u ⟨w.heap.size + 1 + 1, 3, none⟩ (V s (j * 10 + 3)) .plain o3
  have s4 := fun u : World => run_store Tryd.prog u ⟨w.heap.size + 1 + 1, 4, none⟩ (V s (j * 10 + 4)) .plain o4
  have s5 := fun u : World => run_store Tryd.prog u ⟨w.heap.size + 1 + 1, 5, none⟩ (V s (j * 10 + 5)) .plain o5
  have s6 := fun u : World => run_store Tryd.prog u ⟨w.heap.size + 1 + 1, 6, none⟩ (V s (j * 10 + 6)) .plain o6
  have s7 := fun u : World => run_store Tryd.prog u ⟨w.heap.size + 1 + 1, 7, none⟩ (V s (j * 10 + 7)) .plain o7
  have s8 := fun u : World => run_store Tryd.prog u ⟨w.heap.size + 1 + 1, 8, none⟩ (V s (j * 10 + 8)) .plain o8
  have s9 := fun u : World => run_store Tryd.prog u ⟨w.heap.size + 1 + 1, 9, none⟩ (V s (j * 10 + 9)) .plain o9
  have H2 := Lib.hid h2
  clear hW z1 h0 h1 h2 co
  go_still_tail 10, (by kernel_rfl)
  repeat still_step
  try refine wpStill_nil ?_
  go_wp2_with fail
  refine bodyPost_ret (v := .agg #[V s (j * 10), V s (j * 10 + 1), V s (j * 10 + 2), V s (j * 10 + 3), V s (j * 10 + 4), V s (j * 10 + 5), V s (j * 10 + 6), V s (j * 10 + 7), V s (j * 10 + 8), V s (j * 10 + 9)]) (by first | (simp [results, Tryd.results14, go_sem, d0, d1, d2, d3, d4, d5, d6, d7, d8, d9]; done) | (rw [results, Tryd.results14]; go_simp)) rfl ?_
  refine ⟨rfl, belD ?_⟩
  repeat' (first | with_reducible exact Z1.out | (with_reducible refine Below.setCell ?_ (show w.heap.size ≤ w.heap.size + 1 + 1 by omega) _))
theorem Links.rng {C : Nat → Nat} {k : Nat} {V : Nat → Nat → Value} {L : Nat × Nat → Option (Nat × Nat)} (h : Links C k V L) {p t : Nat × Nat} {m : Nat} (hP : Lk.Path L p t m) : p.1 < k → p.2 < C p.1 → t.1 < k ∧ t.2 < C t.1 := by
  induction hP with
  | done _ => exact fun a b => ⟨a, b⟩
  | @step r x t m hn _ ih =>
    intro a b
    rcases h r.1 r.2 a b with ⟨e, _⟩ | ⟨y, e, y1, y2, _⟩
    · rw [show ((r.1, r.2) : Nat × Nat) = r from rfl, hn] at e; cases e
    · rw [show ((r.1, r.2) : Nat × Nat) = r from rfl, hn] at e
      injection e with e
      subst e
      exact ih y1 y2
/-- Where the walk over all symbols stands: the links of D lead to their ends at once. -/
def FA (C : Nat → Nat) (k ob : Nat) (blk : Nat → Nat) (V : Nat → Nat → Value) (L : Nat × Nat → Option (Nat × Nat)) (w : World) (D : Nat × Nat → Prop) (w' : World) : Prop :=
  ∃ V' L', SM C k ob blk w' V' ∧ Links C k V' L' ∧ Lk.Comp L L' ∧ SameBut V V' ∧ (∀ p, D p → Lk.Flat L' p) ∧ Chg (fun b => ∃ i, i < k ∧ b = blk i) w w'
theorem FA.start {C : Nat → Nat} {k ob : Nat} {blk : Nat → Nat} {V : Nat → Nat → Value} {L : Nat × Nat → Option (Nat × Nat)} {w : World} (hM : SM C k ob blk w V) (hL : Links C k V L) {D : Nat × Nat → Prop} (hD : ∀ p, ¬ D p) : FA C k ob blk V L w D w :=
  ⟨V, L, hM, hL, Lk.Comp.refl L, SameBut.refl V, fun p h => absurd h (hD p), Chg.refl _ _⟩
theorem FA.mono {C : Nat → Nat} {k ob : Nat} {blk : Nat → Nat} {V : Nat → Nat → Value} {L : Nat × Nat → Option (Nat × Nat)} {w w' : World} {D D' : Nat × Nat → Prop} (h : FA C k ob blk V L w D w') (hD : ∀ p, D' p → D p) : FA C k ob blk V L w D' w' := by
  obtain ⟨V', L', a, b, c, d, e, f⟩ := h
  exact ⟨V', L', a, b, c, d, fun p hp => e p (hD p hp), f⟩
/-- What lies below is untouched: the walk goes on from there. -/
theorem FA.below {C : Nat → Nat} {k ob : Nat} {blk : Nat → Nat} {V : Nat → Nat → Value} {L : Nat × Nat → Option (Nat × Nat)} {w w1 w2 : World} {D : Nat × Nat → Prop} (h : FA C k ob blk V L w D w1) (hM : SM C k ob blk w V) (hb : Below w.heap.size w1 w2) : FA C k ob blk V L w D w2 := by
  obtain ⟨V', L', a, b, c, d, e, f⟩ := h
  exact ⟨V', L', a.keepB hM.1.lt (fun i hi => (hM.2.1 i hi).lt) hb, b, c, d, e, chgB f hb⟩
/-- One symbol followed. -/
theorem FA.step {C : Nat → Nat} {k ob : Nat} {blk : Nat → Nat} {V : Nat → Nat → Value} {L : Nat × Nat → Option (Nat × Nat)} {w w1 : World} {D : Nat × Nat → Prop} {s j : Nat} {t : Nat × Nat} (h : FA C k ob blk V L w D w1) (hk : k ≤ 4097) (hC : ∀ s, s < k → C s ≤ 4096) (hM : SM C k ob blk w V) (hs : s < k) (hj : j < C s) (hr : Lk.Root L (s, j) t) (hG : Gl w) :
    Calls Tryd.prog 16 #[.agg #[.slice (some ⟨ob, 0, none⟩) k k], .agg #[.int .u32 s, .int .u32 j]] w1 fun e w2 =>
      e = .returned (.agg #[.int .u32 (t.1 : Nat), .int .u32 (t.2 : Nat)]) ∧ FA C k ob blk V L w (fun p => D p ∨ p = (s, j)) w2 := by
  obtain ⟨V', L', a, b, c, d, e, f⟩ := h
  obtain ⟨m, hP⟩ := c.root hr
  obtain ⟨t1, t2⟩ := b.rng hP hs hj
  refine (follow C k ob blk hk hC m s j t V' L' w1 hs hj a b (hG.chg hM.2.2.1 f) hP t1 t2).mono ?_
  rintro e' w2 ⟨rfl, V2, L2, a2, b2, c2, r2, _, d2, f2⟩
  refine ⟨rfl, V2, L2, a2, b2, c.trans c2, d.trans d2, fun p hp => ?_, f.trans f2⟩
  rcases hp with hp | rfl
  · exact (c2.flat (e p hp)).1
  · rcases r2 with r2 | r2
    · exact .inl r2
    · exact .inr ⟨t, r2, (c2.none_iff t).2 hP.last⟩
set_option maxHeartbeats 2000000 in
set_option maxRecDepth 100000 in
theorem followAll (C : Nat → Nat) (k ob : Nat) (blk : Nat → Nat) (hk : k ≤ 4097) (hC : ∀ s, s < k → C s ≤ 4096) (V : Nat → Nat → Value) (L : Nat × Nat → Option (Nat × Nat)) (w : World)
    (hM : SM C k ob blk w V) (hL : Links C k V L) (hG : Gl w) (hr : ∀ s j, s < k → j < C s → ∃ t, Lk.Root L (s, j) t) :
    Calls Tryd.prog 13 #[.agg #[.slice (some ⟨ob, 0, none⟩) k k]] w fun e w' => e = .returned (.tuple #[]) ∧ FA C k ob blk V L w (fun p => p.1 < k ∧ p.2 < C p.1) w' := by
  obtain ⟨w0, hw0⟩ : ∃ w0, w0 = w.alloc (.cells #[.slice (some ⟨ob, 0, none⟩) k k] 38) := ⟨_, rfl⟩
  have hb0 : Below w.heap.size w w0 := by rw [hw0]; exact (Below.refl _ _).alloc (Nat.le_refl _) _
  have hrow : w0.heap[w.heap.size]? = some (.cells #[.slice (some ⟨ob, 0, none⟩) k k] 38 (0, 0)) := by rw [hw0]; exact heap_alloc_new _ _
  have hlt0 := (Array.getElem?_eq_some_iff.1 hrow).1
  have hlo : ∀ i, i < k → blk i < w.heap.size := fun i hi => (hM.2.1 i hi).lt
  have HLO := Lib.hid hlo
  have HROW := Lib.hid hrow
  have HB0 := Lib.hid hb0
  have HM := Lib.hid (hM.keep hb0)
  have HG := Lib.hid (hG.below hb0)
  have HL := Lib.hid hL
  have HR := Lib.hid hr
  have HC := Lib.hid hC
  have HF := Lib.hid (FA.start (hM.keep hb0) hL (D := fun p => p.1 < 0 ∧ p.2 < C p.1) fun p h => absurd h.1 (Nat.not_lt_zero _))
  have HCH := Lib.hid (chg_of (S := fun b => ∃ i, i < k ∧ b = blk i) hb0)
  have HK : Hid (∀ D w', FA C k ob blk V L w0 D w' → w'.cell? ⟨w.heap.size, 0, none⟩ = some (.slice (some ⟨ob, 0, none⟩) k k) ∧ (∀ s, s < k → w'.cell? ⟨ob, s, none⟩ = some (.slice (some ⟨blk s, 0, none⟩) (C s) (C s))) ∧ w.heap.size < w'.heap.size ∧ ob < w'.heap.size) := Lib.hid (by
    rintro D w' ⟨V', L', h1, _, _, _, _, h6⟩
    refine ⟨cellsB (i := 0) ((h6.block _ hlt0 (by rintro ⟨i, hi, e⟩; have := hlo i hi; omega)).trans hrow) rfl, fun s hs => h1.1.cell s hs, Nat.lt_of_lt_of_le hlt0 h6.size, h1.1.lt⟩)
  clear hb0 hrow hlo hM hG hL hr hC
  go_enter Tryd.func13, Tryd.ntmps13
  go_wp2_with fail
  rw [← hw0]
  clear hw0
  go_loopw [8] (fun i wr => ∃ s : Nat, s ≤ k ∧ i = .int .i64 s ∧ Hid (FA C k ob blk V L w0 (fun p => p.1 < s ∧ p.2 < C p.1) wr)) (fun i _ => k - (intOf i).toNat)
  case atStart => exact ⟨0, by omega, rfl, HF⟩
  case round =>
    obtain ⟨s, hs, rfl, H⟩ := hrel
    by_cases hlt : s < k
    · have hs2 : (s : Int) < (k : Int) := by omega
      obtain ⟨c0, c1, z0, z1⟩ := HK.out _ _ H.out
      have c1 := c1 s hlt
      have hcs := HC.out s hlt
      clear c0 z0
      obtain ⟨wo, rfl⟩ : ∃ wo : World, wo = wr := ⟨_, rfl⟩
      go_wp2_with fail
      go_loopw [15] (fun i wi => ∃ j : Nat, j ≤ C s ∧ i = .int .i64 j ∧ Hid (FA C k ob blk V L w0 (fun p => (p.1 < s ∧ p.2 < C p.1) ∨ (p.1 = s ∧ p.2 < j)) wi)) (fun i _ => C s - (intOf i).toNat)
      case atStart => exact ⟨0, by omega, rfl, Lib.hid (H.out.mono fun p hp => by
        rcases hp with h | ⟨_, h⟩
        · exact h
        · exact absurd h (Nat.not_lt_zero _))⟩
      case round =>
        obtain ⟨j, hj, rfl, H2⟩ := hrel
        by_cases hjl : j < C s
        · have hjl2 : (j : Int) < ((C s : Nat) : Int) := by omega
          obtain ⟨c0, _, z0, z1⟩ := HK.out _ _ H2.out
          obtain ⟨t, ht⟩ := HR.out s j hlt hjl
          have HT := Lib.hid ht
          clear ht
          go_wp2_with fail
          try (go_still_tail 6, (by kernel_rfl))
          repeat still_step
          try refine wpStill_nil ?_
          go_wp2_with fail
          refine (FA.step (H2.out.below HM.out (by first | exact Below.refl _ _ | exact belD (Below.refl _ _))) hk HC.out HM.out hlt hjl HT.out HG.out).mono ?_
          rintro e w2 ⟨rfl, hf⟩
          have HF2 := Lib.hid hf
          clear hf
          go_wp2_with fail
          go_roundw
          case rel => exact ⟨j + 1, by omega, by go_num, Lib.hid (HF2.out.mono fun p hp => by
            rcases hp with h | ⟨h1, h2⟩
            · exact .inl (.inl h)
            · by_cases e : p.2 = j
              · exact .inr (Prod.ext h1 e)
              · exact .inl (.inr ⟨h1, by omega⟩))⟩
          case measure => simp [intOf]; omega
        · obtain rfl : j = C s := by omega
          go_wp2_with fail
          go_roundw
          case rel => exact ⟨s + 1, by omega, by go_num, Lib.hid (H2.out.mono fun p hp => by
            by_cases e : p.1 = s
            · exact .inr ⟨e, by have := hp.2; rw [e] at this; exact this⟩
            · exact .inl ⟨by have := hp.1; omega, hp.2⟩)⟩
          case measure => simp [intOf]; omega
    · obtain rfl : s = k := by omega
      go_wp2_with fail
      go_end0
      obtain ⟨V', L', a, b, c, d, e, f⟩ := H.out
      exact ⟨rfl, V', L', a, b, c, d, e, HCH.out.trans f⟩
theorem OneV.of {C : Nat → Nat} {k s : Nat} {V V' : Nat → Nat → Value} {L : Nat × Nat → Option (Nat × Nat)} (h : OneV (C s * 10) (V s)) (hS : SameBut V V') (hL : Links C k V' L) (hs : s < k) : OneV (C s * 10) (V' s) := by
  intro q hq
  have hd : q / 10 < C s := by omega
  by_cases e2 : q % 10 = 2
  · have e : q = q / 10 * 10 + 2 := by omega
    rw [e]
    rcases hL s (q / 10) hs hd with ⟨_, a, _⟩ | ⟨_, _, _, _, a, _⟩ <;> rw [a] <;> rfl
  · by_cases e3 : q % 10 = 3
    · have e : q = q / 10 * 10 + 3 := by omega
      rw [e]
      rcases hL s (q / 10) hs hd with ⟨_, _, a⟩ | ⟨_, _, _, _, _, a⟩ <;> rw [a] <;> rfl
    · rw [hS s q e2 e3]
      exact h q hq
/-- The targets as links. -/
def Lt (T : Nat → Int) : Nat → Option Nat := fun x => if T x < 0 then none else some (T x).toNat
/-- x's chain ends. -/
def Ends (T : Nat → Int) (x : Nat) : Prop := ∃ t, Lk.Root (Lt T) x t
theorem Ends.leaf {T : Nat → Int} {x : Nat} (h : T x < 0) : Ends T x := ⟨x, Lk.Root.self (by unfold Lt; rw [if_pos h])⟩
theorem Ends.next {T : Nat → Int} {x : Nat} (h : ¬ T x < 0) (h2 : Ends T (T x).toNat) : Ends T x := by
  obtain ⟨t, ht⟩ := h2
  exact ⟨t, Lk.Root.step (by unfold Lt; rw [if_neg h]) ht⟩
/-- How many of the first n are zero. -/
def zc (S : Nat → Int) : Nat → Nat
  | 0 => 0
  | n + 1 => zc S n + (if S n = 0 then 1 else 0)
theorem zc_le (S : Nat → Int) : ∀ n, zc S n ≤ n
  | 0 => Nat.le_refl _
  | n + 1 => by have := zc_le S n; unfold zc; split <;> omega
theorem zc_congr {S R : Nat → Int} : ∀ n, (∀ i, i < n → S i = R i) → zc S n = zc R n
  | 0, _ => rfl
  | n + 1, h => by unfold zc; rw [zc_congr n fun i hi => h i (by omega), h n (by omega)]
theorem zc_set {S R : Nat → Int} {x : Nat} (h0 : S x = 0) (h1 : R x ≠ 0) (h : ∀ i, i ≠ x → R i = S i) : ∀ n, x < n → zc R n + 1 = zc S n
  | 0, hx => absurd hx (Nat.not_lt_zero _)
  | n + 1, hx => by
    unfold zc
    by_cases e : x = n
    · subst e
      rw [if_pos h0, if_neg h1, zc_congr (S := R) (R := S) x fun i hi => h i (by omega)]
    · rw [h n (fun e2 => e e2.symm)]
      have := zc_set h0 h1 h n (by omega)
      omega
theorem zc_pos {S : Nat → Int} {x n : Nat} (h0 : S x = 0) (hx : x < n) : 0 < zc S n := by
  have := zc_set (S := S) (R := fun i => if i = x then 1 else S i) h0 (by simp) (fun i hi => by simp [hi]) n hx
  omega
/-- path = append(path, x), where there is room. -/
theorem pathApp (z m n : Nat) (Q : Nat → Value) (x : Int) (w : World) (h : Fblk w z 3 n Q) (hm : m < n) (hn : n ≤ 4096) :
    (Builtin.append_ #[29, 29] 29 #[.slice (some ⟨z, 0, none⟩) m n, .slice (some ⟨w.heap.size, 0, none⟩) 1 1]).run Tryd.prog (w.alloc (.cells #[.int .i64 x] 3)) =
      .ok (.slice (some ⟨z, 0, none⟩) (m + 1) n) ((w.alloc (.cells #[.int .i64 x] 3)).setCell ⟨z, m, none⟩ (.int .i64 x)) := by
  obtain ⟨i0, hi, hz0, hz1, hz2⟩ := info_parts intInfo
  have h2 := h.alloc (.cells #[.int .i64 x] 3)
  have hr := run_append_room_cells (P := Tryd.prog) (w.alloc (.cells #[.int .i64 x] 3)) 29 29 3 i0 Tryd.underlying29 hi z 0 m n ⟨w.heap.size, 0, none⟩ 1 1 [.int .i64 x] (by rw [hz1]; rfl) (cell_new1 w _ _) (by intro u hu; simp at hu; subst hu; rfl) (by omega)
    (fun j hj => by
      obtain rfl : j = 0 := by simpa using hj
      rw [hz1]
      simp [h2.cell m hm]) (fun j hj => by
      obtain rfl : j = 0 := by simpa using hj
      exact h2.frozen _)
  rw [hz1] at hr
  simpa [World.setCells] using hr
theorem pathAppR (z m n : Nat) (Q : Nat → Value) (x : Int) (w : World) (h : Fblk w z 3 n Q) (hm : m < n) (hn : n ≤ 4096) :
    ∃ v' w', (Builtin.append_ #[29, 29] 29 #[.slice (some ⟨z, 0, none⟩) m n, .slice (some ⟨w.heap.size, 0, none⟩) 1 1]).run Tryd.prog (w.alloc (.cells #[.int .i64 x] 3)) = .ok v' w' ∧
      (v' = .slice (some ⟨z, 0, none⟩) (m + 1) n ∧ w' = (w.alloc (.cells #[.int .i64 x] 3)).setCell ⟨z, m, none⟩ (.int .i64 x)) :=
  ⟨_, _, pathApp z m n Q x w h hm hn, rfl, rfl⟩
/-- Roots' three rows: the roots, the states, the path. -/
def Zst (n : Nat) (T : Nat → Int) (z : Nat) (wr : World) (S P : Nat → Int) : Prop :=
  (∃ R : Nat → Int, Fblk wr z 3 n (fun q => .int .i64 (R q))) ∧ Fblk wr (z + 1) 5 n (fun q => .int .u8 (S q)) ∧ Fblk wr (z + 1 + 1) 3 n (fun q => .int .i64 (P q)) ∧ (∀ q, q < n → S q = 2 → Ends T q) ∧ ∀ q, q < n → S q = 0 ∨ S q = 1 ∨ S q = 2
/-- One number set. -/
def updI (S : Nat → Int) (i : Nat) (v : Int) : Nat → Int := fun j => if j = i then v else S j
theorem updI_same (S : Nat → Int) (i : Nat) (v : Int) : updI S i v i = v := by simp [updI]
theorem updI_other (S : Nat → Int) (i j : Nat) (v : Int) (h : j ≠ i) : updI S i v j = S j := by simp [updI, h]
theorem updI_of (k : IntKind) (S : Nat → Int) (i : Nat) (v : Int) (q : Nat) : upd (fun q => Value.int k (S q)) i (.int k v) q = .int k (updI S i v q) := by
  unfold upd updI
  by_cases e : q = i <;> simp [e]
/-- The walk along i's chain: m numbers are on the path; if E, each one's chain ends. -/
def Wk (n : Nat) (T : Nat → Int) (z i m : Nat) (E : Prop) (wr : World) (S P : Nat → Int) : Prop :=
  Zst n T z wr S P ∧ (∀ q, q < i → S q = 2) ∧ (∀ q, q < m → ∃ u : Nat, P q = u ∧ u < n ∧ (E → Ends T u)) ∧ m + zc S n ≤ n ∧ (0 < m → P 0 = i)
theorem Wk.weak {n : Nat} {T : Nat → Int} {z i m : Nat} {E F : Prop} {wr : World} {S P : Nat → Int} (h : Wk n T z i m E wr S P) (hf : F → E) : Wk n T z i m F wr S P := by
  obtain ⟨a, b, c, d, e⟩ := h
  refine ⟨a, b, fun q hq => ?_, d, e⟩
  obtain ⟨u, u1, u2, u3⟩ := c q hq
  exact ⟨u, u1, u2, fun x => u3 (hf x)⟩
theorem Wk.room {n : Nat} {T : Nat → Int} {z i m y : Nat} {E : Prop} {wr : World} {S P : Nat → Int} (h : Wk n T z i m E wr S P) (hy : y < n) (h0 : S y = 0) : m < n := by
  have := zc_pos h0 hy
  have := h.2.2.2.1
  omega
theorem Wk.step {n : Nat} {T : Nat → Int} {z i m y : Nat} {wr : World} {S P : Nat → Int} (h : Wk n T z i m (Ends T y) wr S P) (hy : y < n) (h0 : S y = 0) (hi : m = 0 → y = i) (o : Obj) :
    Wk n T z i (m + 1) (Ends T y) (((wr.setCell ⟨z + 1, y, none⟩ (.int .u8 1)).setCell ⟨z + 1 + 1, m, none⟩ (.int .i64 y)).alloc o) (updI S y 1) (updI P m y) := by
  obtain ⟨⟨⟨R, a1⟩, a2, a3, a4, a5⟩, b, c, d, e⟩ := h
  have hz := zc_set (S := S) (R := updI S y 1) h0 (by rw [updI_same]; decide) (fun q hq => updI_other S y q 1 hq) n hy
  refine ⟨⟨⟨R, ((a1.other (by show z + 1 ≠ z; omega) _).other (by show z + 1 + 1 ≠ z; omega) _).alloc o⟩, ?_, ?_, ?_, ?_⟩, ?_, ?_, by omega, ?_⟩
  · exact (((a2.set y (.int .u8 1)).other (by show z + 1 + 1 ≠ z + 1; omega) _).alloc o).congr fun q _ => updI_of _ _ _ _ _
  · exact (((a3.other (by show z + 1 ≠ z + 1 + 1; omega) _).set m (.int .i64 y)).alloc o).congr fun q _ => updI_of _ _ _ _ _
  · intro q hq h2
    by_cases e2 : q = y
    · rw [e2, updI_same] at h2; cases h2
    · rw [updI_other _ _ _ _ e2] at h2; exact a4 q hq h2
  · intro q hq
    by_cases e2 : q = y
    · rw [e2, updI_same]; exact .inr (.inl rfl)
    · rw [updI_other _ _ _ _ e2]; exact a5 q hq
  · intro q hq
    rw [updI_other _ _ _ _ (fun e2 => by have := b q hq; rw [e2, h0] at this; cases this)]
    exact b q hq
  · intro q hq
    by_cases e2 : q = m
    · rw [e2, updI_same]; exact ⟨y, rfl, hy, fun x => x⟩
    · rw [updI_other _ _ _ _ e2]; exact c q (by omega)
  · intro _
    by_cases e2 : m = 0
    · rw [e2, updI_same, hi e2]
    · rw [updI_other _ _ _ _ (by omega)]; exact e (by omega)
/-- The path is written back: k of its m numbers are done. -/
def Wq (n : Nat) (T : Nat → Int) (z i m k : Nat) (wr : World) (S P : Nat → Int) : Prop :=
  Zst n T z wr S P ∧ (∀ q, q < i → S q = 2) ∧ (∀ q, q < m → ∃ u : Nat, P q = u ∧ u < n ∧ Ends T u) ∧ (0 < k → S i = 2) ∧ P 0 = i
theorem Wq.start {n : Nat} {T : Nat → Int} {z i m : Nat} {E : Prop} {wr : World} {S P : Nat → Int} (h : Wk n T z i m E wr S P) (hE : E) (hm : 0 < m) : Wq n T z i m 0 wr S P := by
  obtain ⟨a, b, c, d, e⟩ := h
  refine ⟨a, b, fun q hq => ?_, fun h => absurd h (Nat.lt_irrefl _), e hm⟩
  obtain ⟨u, u1, u2, u3⟩ := c q hq
  exact ⟨u, u1, u2, u3 hE⟩
theorem Wq.step {n : Nat} {T : Nat → Int} {z i m k u : Nat} {wr : World} {S P : Nat → Int} (h : Wq n T z i m k wr S P) (hu : P k = u) (hun : u < n) (hE : Ends T u) (r : Int) :
    Wq n T z i m (k + 1) ((wr.setCell ⟨z, u, none⟩ (.int .i64 r)).setCell ⟨z + 1, u, none⟩ (.int .u8 2)) (updI S u 2) P := by
  obtain ⟨⟨⟨R, a1⟩, a2, a3, a4, a5⟩, b, c, d, e⟩ := h
  refine ⟨⟨⟨updI R u r, ((a1.set u (.int .i64 r)).other (by show z + 1 ≠ z; omega) _).congr fun q _ => updI_of _ _ _ _ _⟩, ?_, ?_, ?_, ?_⟩, ?_, c, ?_, e⟩
  · exact ((a2.other (by show z ≠ z + 1; omega) _).set u (.int .u8 2)).congr fun q _ => updI_of _ _ _ _ _
  · exact (a3.other (by show z ≠ z + 1 + 1; omega) _).other (by show z + 1 ≠ z + 1 + 1; omega) _
  · intro q hq h2
    by_cases e2 : q = u
    · rw [e2]; exact hE
    · rw [updI_other _ _ _ _ e2] at h2; exact a4 q hq h2
  · intro q hq
    by_cases e2 : q = u
    · rw [e2, updI_same]; exact .inr (.inr rfl)
    · rw [updI_other _ _ _ _ e2]; exact a5 q hq
  · intro q hq
    by_cases e2 : q = u
    · rw [e2, updI_same]
    · rw [updI_other _ _ _ _ e2]; exact b q hq
  · intro _
    by_cases e2 : i = u
    · rw [e2, updI_same]
    · rw [updI_other _ _ _ _ e2]
      by_cases e3 : k = 0
      · subst e3
        rw [hu] at e
        exact absurd (Int.ofNat.inj e).symm e2
      · exact d (by omega)
def slen : Value → Nat
  | .slice _ n _ => n
  | _ => 0
def RtR (n : Nat) (T : Nat → Int) (w : World) (e : Ending) (w' : World) : Prop := ∃ v b, e = .returned (.tuple #[v, .bool b]) ∧ (b = true → ∀ q, q < n → Ends T q) ∧ Below w.heap.size w w'
set_option maxHeartbeats 8000000 in
set_option maxRecDepth 100000 in
theorem roots (tb n : Nat) (T : Nat → Int) (w : World) (ht : Fblk w tb 3 n (fun i => .int .i64 (T i))) (hT : ∀ i, i < n → -1 ≤ T i ∧ T i < n) (hn0 : 0 < n) (hn : n ≤ 4096) :
    Calls Tryd.prog 9 #[.slice (some ⟨tb, 0, none⟩) n n] w (RtR n T w) := by
  have hmk := run_make_one (P := Tryd.prog) Tryd.underlying29 intInfo rfl (by omega) n (by omega)
  have hmk2 := mk0 n (by omega)
  have u8 : (Tryd.prog.info? 5).map (fun i => (i.zero, i.size, i.bytes)) = some (some (.int .u8 0), 1, 1) := by kernel_rfl
  have hmk3 := run_make_one (P := Tryd.prog) Tryd.underlying57 u8 rfl (by omega) n (by omega)
  have htl := ht.lt
  have HT := Lib.hid ht
  have HTB := Lib.hid hT
  have HZ0 := Lib.hid (show Zst n T w.heap.size (((w.alloc (.cells (madeCells #[.int .i64 0] n) 3)).alloc (.cells (madeCells #[.int .u8 0] n) 5)).alloc (.cells (madeCells #[.int .i64 0] n) 3)) (fun _ => 0) (fun _ => 0) from
    ⟨⟨fun _ => 0, ((Fblk.made w _ _ n).alloc _).alloc _⟩, (Fblk.madeAt (by simp)).alloc _, Fblk.madeAt (by simp), (fun q _ h => by cases h), fun q _ => .inl rfl⟩)
  clear ht u8 hT
  go_enter Tryd.func9, Tryd.ntmps9
  go_wp2_with fail
  go_loopw [7, 8] (fun p i wr => ∃ x m : Nat, ∃ S P : Nat → Int, x ≤ n ∧ m ≤ n ∧ i = .int .i64 x ∧ p = .slice (some ⟨w.heap.size + 1 + 1, 0, none⟩) m n ∧ Hid (Zst n T w.heap.size wr S P) ∧ Hid (∀ y, y < x → S y = 2) ∧ Hid (Below w.heap.size w wr)) (fun _ i _ => n - (intOf i).toNat)
  case atStart =>
    exact ⟨0, 0, fun _ => 0, fun _ => 0, by omega, by omega, rfl, rfl, HZ0, Lib.hid fun y hy => absurd hy (Nat.not_lt_zero _), Lib.hid (by (repeat' (first | exact Below.refl _ _ | refine Below.drewR ?_ | (refine Below.alloc ?_ (by simp; omega) _) | (refine Below.alloc ?_ (by simp) _) | (refine Below.setCell ?_ (by simp; omega) _) | (refine Below.setCell ?_ (by simp) _))))⟩
  case round =>
    obtain ⟨x, m, S, P, hx, hm, rfl, rfl, HZ, HD, HB⟩ := hrel
    by_cases hlt : x < n
    · have hx2 : (x : Int) < (n : Int) := by omega
      have s0 := HZ.out.2.1.cell x hlt
      have z1 := HZ.out.2.1.lt
      by_cases h2 : S x = 2
      · have h2b : (S x == 2) = true := by simpa using h2
        have HX := Lib.hid h2
        clear h2
        go_wp2_with fail
        go_roundw
        case rel => exact ⟨x + 1, m, S, P, by omega, hm, by go_num, rfl, HZ, Lib.hid (fun y hy => by
          by_cases e : y = x
          · rw [e]; exact HX.out
          · exact HD.out y (by omega)), HB⟩
        case measure => simp [intOf]; omega
      · have h2b : (S x == 2) = false := by simpa using h2
        have HX := Lib.hid h2
        clear h2
        have HW := Lib.hid (show Wk n T w.heap.size x 0 (Ends T x) wr S P from ⟨HZ.out, HD.out, fun q hq => absurd hq (Nat.not_lt_zero _), by have := zc_le S n; omega, fun h => absurd h (Nat.lt_irrefl _)⟩)
        clear HZ
        obtain ⟨wo, rfl⟩ : ∃ wo : World, wo = wr := ⟨_, rfl⟩
        go_wp2_with fail
        clear s0
        go_loopw [7, 9] (fun p y wi => ∃ m y0 : Nat, ∃ S P : Nat → Int, m ≤ n ∧ y0 < n ∧ y = .int .i64 y0 ∧ p = .slice (some ⟨w.heap.size + 1 + 1, 0, none⟩) m n ∧ Hid (Wk n T w.heap.size x m (Ends T y0) wi S P) ∧ Hid (m = 0 → y0 = x ∧ S x ≠ 2) ∧ Hid (Below w.heap.size w wi)) (fun p _ _ => n - slen p)
        case atStart => exact ⟨0, x, S, P, by omega, hlt, rfl, rfl, HW, Lib.hid fun _ => ⟨rfl, HX.out⟩, HB⟩
        case round =>
          obtain ⟨m, y, S, P, hm, hy, rfl, rfl, HW, HM, HB⟩ := hrel
          have hy2 : (y : Int) < (n : Int) := by omega
          have z2 := HW.out.1.2.2.1.lt
          have s0 := HW.out.1.2.1.cell y hy
          by_cases hs2 : S y = 2
          · have h2b : (S y == 2) = true := by simpa using hs2
            have hm0 : 0 < m := by
              rcases Nat.eq_zero_or_pos m with e | e
              · obtain ⟨e1, e2⟩ := HM.out e
                rw [e1] at hs2
                exact absurd hs2 e2
              · exact e
            obtain ⟨R, hR⟩ := HW.out.1.1
            have r0 := hR.cell y hy
            have HQ := Lib.hid (Wq.start HW.out (HW.out.1.2.2.2.1 y hy hs2) hm0)
            have HBQ := HB
            clear hR hs2
            go_wp2_with fail
            go_loopw [11] (fun k wi => ∃ k0 : Nat, ∃ S : Nat → Int, k0 ≤ m ∧ k = .int .i64 k0 ∧ Hid (Wq n T w.heap.size x m k0 wi S P) ∧ Hid (Below w.heap.size w wi)) (fun k _ => m - (intOf k).toNat)
            case atStart => exact ⟨0, _, Nat.zero_le _, rfl, HQ, HBQ⟩
            case round =>
              obtain ⟨k, S, hk, rfl, HQ, HB⟩ := hrel
              by_cases hkl : k < m
              · have hkl2 : (k : Int) < ((m : Nat) : Int) := by omega
                obtain ⟨u, pu, hun, hue⟩ := HQ.out.2.2.1 k hkl
                obtain ⟨R, hR⟩ := HQ.out.1.1
                have p0 := HQ.out.1.2.2.1.cell k (by omega)
                have r0 := hR.cell u hun
                have q0 := HQ.out.1.2.1.cell u hun
                have fr := hR.frozen u
                have fq := HQ.out.1.2.1.frozen u
                rw [pu] at p0
                have z1 := HQ.out.1.2.2.1.lt
                have hun2 : (u : Int) < (n : Int) := by omega
                have HU := Lib.hid (And.intro pu hue)
                clear pu hue hR
                go_wp2_with fail
                go_roundw
                case rel => exact ⟨k + 1, _, by omega, by go_num, Lib.hid (HQ.out.step HU.out.1 hun HU.out.2 _), Lib.hid ((HB.out.setCell (show w.heap.size ≤ w.heap.size by omega) _).setCell (show w.heap.size ≤ w.heap.size + 1 by omega) _)⟩
                case measure => simp [intOf]; omega
              · obtain rfl : k = m := by omega
                go_wp2_with fail
                go_roundw
                case rel => exact ⟨x + 1, _, S, _, by omega, hm, by go_num, rfl, Lib.hid HQ.out.1, Lib.hid (fun y hy => by
                  by_cases e : y = x
                  · rw [e]; exact HQ.out.2.2.2.1 (by omega)
                  · exact HQ.out.2.1 y (by omega)), HB⟩
                case measure => simp [intOf]; omega
          · have h2b : (S y == 2) = false := by simpa using hs2
            by_cases hs1 : S y = 1
            · have h1b : (S y == 1) = true := by simpa using hs1
              clear hs1 hs2
              go_wp2_with fail
              go_ret2
              exact ⟨_, _, rfl, (fun h => by cases h), HB.out⟩
            · have h1b : (S y == 1) = false := by simpa using hs1
              have hs0 : S y = 0 := by
                rcases HW.out.1.2.2.2.2 y hy with h | h | h
                · exact h
                · exact absurd h hs1
                · exact absurd h hs2
              have hmn := HW.out.room hy hs0
              have f0 := HW.out.1.2.1.frozen y
              have htc := (HT.out.below HB.out htl).cell y hy
              obtain ⟨t0, t1⟩ := HTB.out y hy
              have ha := (pathAppR (w.heap.size + 1 + 1) m n _ y (wr.setCell ⟨w.heap.size + 1, y, none⟩ (.int .u8 1)) (HW.out.1.2.2.1.other (by show w.heap.size + 1 ≠ w.heap.size + 1 + 1; omega) _) hmn hn)
              rw [show (wr.setCell ⟨w.heap.size + 1, y, none⟩ (.int .u8 1)).heap.size = wr.heap.size by simp [World.setCell]] at ha
              have HA := Lib.hid ha
              clear ha
              have HW1 := Lib.hid (HW.out.step hy hs0 (fun e => (HM.out e).1) (.cells #[.int .i64 y] 3))
              have HB1 : Hid (Below w.heap.size w (((wr.setCell ⟨w.heap.size + 1, y, none⟩ (.int .u8 1)).setCell ⟨w.heap.size + 1 + 1, m, none⟩ (.int .i64 y)).alloc (.cells #[.int .i64 y] 3))) := Lib.hid (((HB.out.setCell (show w.heap.size ≤ w.heap.size + 1 by omega) _).setCell (show w.heap.size ≤ w.heap.size + 1 + 1 by omega) _).alloc (by simp [World.setCell]; omega) _)
              clear hs0 hs1 hs2 HB HM
              have e1 : tb < wr.heap.size := by omega
              have e2 : ¬ tb = w.heap.size + 1 := by omega
              have e3 : ¬ w.heap.size + 1 = tb := by omega
              have e4 : ¬ tb = w.heap.size + 1 + 1 := by omega
              have e5 : ¬ w.heap.size + 1 + 1 = tb := by omega
              by_cases htn : T y < 0
              · have htb : decide (T y < 0) = true := by simpa using htn
                have HQ := Lib.hid (Wq.start HW1.out (Ends.leaf htn) (Nat.succ_pos m))
                have HBQ := HB1
                go_wp2_with (at_builtin; refine wpList_app rfl _ _ #[29, 29] rfl rfl rfl HA.out ?_; rintro v' w1 ⟨rfl, rfl⟩)
                go_loopw [11] (fun k wi => ∃ k0 : Nat, ∃ S : Nat → Int, k0 ≤ (m + 1) ∧ k = .int .i64 k0 ∧ Hid (Wq n T w.heap.size x (m + 1) k0 wi S (updI P m y)) ∧ Hid (Below w.heap.size w wi)) (fun k _ => (m + 1) - (intOf k).toNat)
                case atStart => exact ⟨0, _, Nat.zero_le _, rfl, HQ, HBQ⟩
                case round =>
                  obtain ⟨k, S, hk, rfl, HQ, HB⟩ := hrel
                  by_cases hkl : k < (m + 1)
                  · have hkl2 : (k : Int) < (((m + 1) : Nat) : Int) := by omega
                    obtain ⟨u, pu, hun, hue⟩ := HQ.out.2.2.1 k hkl
                    obtain ⟨R, hR⟩ := HQ.out.1.1
                    have p0 := HQ.out.1.2.2.1.cell k (by omega)
                    have r0 := hR.cell u hun
                    have q0 := HQ.out.1.2.1.cell u hun
                    have fr := hR.frozen u
                    have fq := HQ.out.1.2.1.frozen u
                    rw [pu] at p0
                    have z1 := HQ.out.1.2.2.1.lt
                    have hun2 : (u : Int) < (n : Int) := by omega
                    have HU := Lib.hid (And.intro pu hue)
                    clear pu hue hR
                    go_wp2_with fail
                    go_roundw
                    case rel => exact ⟨k + 1, _, by omega, by go_num, Lib.hid (HQ.out.step HU.out.1 hun HU.out.2 _), Lib.hid ((HB.out.setCell (show w.heap.size ≤ w.heap.size by omega) _).setCell (show w.heap.size ≤ w.heap.size + 1 by omega) _)⟩
                    case measure => simp [intOf]; omega
                  · obtain rfl : k = (m + 1) := by omega
                    go_wp2_with fail
                    go_roundw
                    case rel => exact ⟨x + 1, _, S, _, by omega, hmn, by go_num, rfl, Lib.hid HQ.out.1, Lib.hid (fun y hy => by
                      by_cases e : y = x
                      · rw [e]; exact HQ.out.2.2.2.1 (by omega)
                      · exact HQ.out.2.1 y (by omega)), HB⟩
                    case measure => simp [intOf]; omega
              · have htb : decide (T y < 0) = false := by simpa using htn
                go_wp2_with (at_builtin; refine wpList_app rfl _ _ #[29, 29] rfl rfl rfl HA.out ?_; rintro v' w1 ⟨rfl, rfl⟩)
                go_roundw
                case rel => exact ⟨m + 1, (T y).toNat, _, _, hmn, by omega, by rw [Int.toNat_of_nonneg (by omega)], rfl, Lib.hid (HW1.out.weak (Ends.next htn)), Lib.hid (fun e => by omega), HB1⟩
                case measure => simp [slen]; omega
    · obtain rfl : x = n := by omega
      go_wp2_with fail
      go_ret2
      exact ⟨_, _, rfl, fun _ q hq => HZ.out.2.2.2.1 q hq (HD.out q hq), HB.out⟩
theorem Cnt.low {B : Nat} {w wr : World} {k : Nat} {v : Value} {p : Int} (h : Cnt B w wr k v p) : Below B w wr := by obtain ⟨_, _, _, _, _, h⟩ := h; exact h
def Bl (w : World) (e : Ending) (w' : World) : Prop := w' = w ∧ ∃ v, e = .returned (.bool v)
theorem zb (a0 : Option Addr) (l0 c0 : Nat) (a1 : Option Addr) (l1 c1 : Nat) (a2 : Option Addr) (l2 c2 : Nat) (w : World) : Calls Tryd.prog 4 #[.slice a0 l0 c0, .slice a1 l1 c1, .slice a2 l2 c2] w (Bl w) := by
  by_cases h0 : (1048576 : Int) < (l0 : Int)
  · go_enter Tryd.func4, Tryd.ntmps4
    go_wp2_with fail
    go_ret
    exact ⟨rfl, _, rfl⟩
  have e0 : IntKind.i64.wrap ((l0 : Int)) = (l0 : Int) := IntWalk.i64_in _ (by omega)
  by_cases h1 : (1048576 : Int) < (l1 : Int)
  · go_enter Tryd.func4, Tryd.ntmps4
    go_wp2_with fail
    go_ret
    exact ⟨rfl, _, rfl⟩
  have e1 : IntKind.i64.wrap ((l0 : Int) + (l1 : Int)) = (l0 : Int) + (l1 : Int) := IntWalk.i64_in _ (by omega)
  by_cases g1 : (1048576 : Int) < (l0 : Int) + (l1 : Int)
  · go_enter Tryd.func4, Tryd.ntmps4
    go_wp2_with fail
    go_ret
    exact ⟨rfl, _, rfl⟩
  by_cases h2 : (1048576 : Int) < (l2 : Int)
  · go_enter Tryd.func4, Tryd.ntmps4
    go_wp2_with fail
    go_ret
    exact ⟨rfl, _, rfl⟩
  have e2 : IntKind.i64.wrap ((l0 : Int) + (l1 : Int) + (l2 : Int)) = (l0 : Int) + (l1 : Int) + (l2 : Int) := IntWalk.i64_in _ (by omega)
  by_cases g2 : (1048576 : Int) < (l0 : Int) + (l1 : Int) + (l2 : Int)
  · go_enter Tryd.func4, Tryd.ntmps4
    go_wp2_with fail
    go_ret
    exact ⟨rfl, _, rfl⟩
  go_enter Tryd.func4, Tryd.ntmps4
  go_wp2_with fail
  go_ret
  exact ⟨rfl, _, rfl⟩

theorem ci32_info : (Tryd.prog.info? 21).map (fun i => (i.zero, i.size, i.bytes)) = some (some (.int .i32 0), 1, 4) := by kernel_rfl
theorem ci32 (a : Option Addr) (len cap : Nat) (S : Nat → Int) (w : World) (h : Fsl w a len (fun i => .int .i32 (S i))) (hlen : len ≤ 137438953472) :
    Calls Tryd.prog 6 #[.slice a len cap] w (Cop w a len 21 (fun i => .int .i32 (S i))) := by
  have hnil : ∀ w : World, (binOp .eql 23 (.slice a len cap) (.slice none 0 0)).run Tryd.prog w = .ok (.bool a.isNone) w := fun w => Lib.run_eql_slice_nil w 23 21 _ _ _ _ _ Tryd.underlying23
  have hmk := run_make_one (P := Tryd.prog) Tryd.underlying23 ci32_info rfl (by omega) len hlen
  cases a with
  | none =>
    have H := Lib.hid (Cop.nil (t := 21) h)
    go_enter Tryd.func6, Tryd.ntmps6
    go_wp2
    go_ret
    exact H.out
  | some x =>
    go_enter Tryd.func6, Tryd.ntmps6
    go_wp2
    go_loopw [4] (fun i wr => ∃ k : Nat, k ≤ len ∧ i = .int .i64 k ∧ Fblk wr w.heap.size 21 len (parV (fun i => .int .i32 (S i)) (.int .i32 0) k) ∧ Below w.heap.size w wr) (fun i _ => len - (intOf i).toNat)
    case atStart => exact ⟨0, by omega, rfl, by rw [parV_zero]; exact Fblk.made _ _ _ _, (Below.refl _ _).alloc (Nat.le_refl _) _⟩
    case round =>
      obtain ⟨k, hk, rfl, hb, hl⟩ := hrel
      have HB := Lib.hid hb
      by_cases hlt : k < len
      · obtain ⟨b, off, e, hlb, hc⟩ := h.at k hlt
        injection e with e
        subst e
        have hc' : wr.cell? ⟨b, off + k, none⟩ = some (.int .i32 (S k)) := by rw [hl.cell (p := ⟨b, off + k, none⟩) hlb]; exact hc
        have hd := hb.cell k hlt
        have hz := hb.frozen k
        have hk2 : (k : Int) < (len : Int) := by omega
        clear hc hb
        go_wp2
        go_roundw
        case rel => exact ⟨k + 1, by omega, by go_num, by rw [← parV_set]; exact HB.out.set k _, hl.setCell (Nat.le_refl _) _⟩
        case measure => simp [intOf]; omega
      · obtain rfl : k = len := by omega
        clear hb
        go_wp2
        go_ret
        exact Cop.mk (HB.out.congr fun i hi => by simp [parV, hi]) hl (Nat.le_refl _)
/-- The links of the targets, place by place. -/
noncomputable def L0 (C : Nat → Nat) (k : Nat) (T : Nat → Int) : Nat × Nat → Option (Nat × Nat) := fun p => if T (psum C p.1 + p.2) < 0 then none else some (plS C k (T (psum C p.1 + p.2)).toNat, plJ C k (T (psum C p.1 + p.2)).toNat)
theorem L0.links {C : Nat → Nat} {k n l : Nat} {T U : Nat → Int} {V : Nat → Nat → Value} (hk : psum C k = n) (hT : ∀ i, i < n → -1 ≤ T i ∧ T i < n) (h : ∀ i, i < k → OneV (C i * 10) (V i) ∧ ∀ j, j < C i → SymOk C k T U l (V i) j (psum C i + j)) : Links C k V (L0 C k T) := by
  intro s j hs hj
  obtain ⟨a, b, _⟩ := (h s hs).2 j hj
  have hx := At.of hk hs hj
  unfold lkS at a
  unfold lkJ at b
  unfold L0
  by_cases e : T (psum C s + j) < 0
  · rw [if_pos e] at a b
    exact .inl ⟨if_pos e, a, b⟩
  · rw [if_neg e] at a b
    have ht := hT _ hx
    obtain ⟨q1, q2, _⟩ := at_pl (x := (T (psum C s + j)).toNat) hk (by omega)
    exact .inr ⟨_, if_neg e, q1, q2, a, b⟩
theorem L0.path {C : Nat → Nat} {k n : Nat} {T : Nat → Int} (hk : psum C k = n) (hT : ∀ i, i < n → -1 ≤ T i ∧ T i < n) {x r m : Nat} (h : Lk.Path (Lt T) x r m) : x < n → ∀ s j, At C k x s j → ∃ t, Lk.Root (L0 C k T) (s, j) t := by
  induction h with
  | @done x hx =>
    intro hn s j ha
    refine ⟨(s, j), Lk.Root.self ?_⟩
    unfold L0
    unfold Lt at hx
    by_cases e : T x < 0
    · simp only [ha.2.2]; rw [if_pos e]
    · rw [if_neg e] at hx; cases hx
  | @step x y t m hx _ ih =>
    intro hn s j ha
    unfold Lt at hx
    by_cases e : T x < 0
    · rw [if_pos e] at hx; cases hx
    · rw [if_neg e] at hx
      injection hx with hx
      subst hx
      have ht := hT x hn
      have hp := at_pl (C := C) (k := k) (x := (T x).toNat) hk (by omega)
      obtain ⟨t, h2⟩ := ih (by omega) _ _ hp
      refine ⟨t, Lk.Root.step ?_ h2⟩
      unfold L0
      simp only [ha.2.2]
      rw [if_neg e]
theorem L0.root {C : Nat → Nat} {k n : Nat} {T : Nat → Int} (hk : psum C k = n) (hT : ∀ i, i < n → -1 ≤ T i ∧ T i < n) (hE : ∀ q, q < n → Ends T q) (s j : Nat) (hs : s < k) (hj : j < C s) : ∃ t, Lk.Root (L0 C k T) (s, j) t := by
  have hx := At.of hk hs hj
  obtain ⟨r, m, hp⟩ := hE _ hx
  exact L0.path hk hT hp hx s j ⟨hs, hj, rfl⟩
/-- The link's two words. -/
def lw (o : Option (Nat × Nat)) : Int := match o with
  | none => 4294967295
  | some t => (t.1 : Nat)
def lv (o : Option (Nat × Nat)) : Int := match o with
  | none => 4294967295
  | some t => (t.2 : Nat)
theorem Links.w {C : Nat → Nat} {k s j : Nat} {V : Nat → Nat → Value} {L : Nat × Nat → Option (Nat × Nat)} (h : Links C k V L) (hs : s < k) (hj : j < C s) : V s (j * 10 + 2) = .int .u32 (lw (L (s, j))) ∧ V s (j * 10 + 3) = .int .u32 (lv (L (s, j))) := by
  rcases h s j hs hj with ⟨e, a, b⟩ | ⟨t, e, _, _, a, b⟩
  · rw [e, a, b]; exact ⟨rfl, rfl⟩
  · rw [e, a, b]; exact ⟨rfl, rfl⟩
/-- Links that agree on every place. -/
theorem Links.same {C : Nat → Nat} {k : Nat} {V : Nat → Nat → Value} {L M : Nat × Nat → Option (Nat × Nat)} (h : Links C k V M) (e : ∀ p : Nat × Nat, p.1 < k → p.2 < C p.1 → M p = L p) : Links C k V L := by
  intro s j hs hj
  rw [← e (s, j) hs hj]
  exact h s j hs hj
theorem fsl_chg {S : Nat → Prop} {w w' : World} {a : Option Addr} {l : Nat} {V : Nat → Value} (h : Fsl w a l V) (hc : Chg S w w') (hn : ∀ x, a = some x → 0 < l → ¬ S x.block) : Fsl w' a l V := by
  refine ⟨h.1, fun i hi => ?_⟩
  obtain ⟨b, off, e, hb, hv⟩ := h.2 i hi
  exact ⟨b, off, e, Nat.lt_of_lt_of_le hb hc.size, hc.cell hv (show ¬ S b from hn ⟨b, off, none⟩ e (by omega))⟩
theorem fblk_chg {S : Nat → Prop} {w w' : World} {b n : Nat} {t : TypeId} {V : Nat → Value} (h : Fblk w b t n V) (hc : Chg S w w') (hn : ¬ S b) : Fblk w' b t n V := (hc.block b h.lt hn).trans h
theorem fsl_put {w : World} {a : Option Addr} {l : Nat} {V : Nat → Value} (h : Fsl w a l V) {p : Addr} (hn : ∀ x, a = some x → 0 < l → x.block ≠ p.block) (v : Value) : Fsl (w.setCell p v) a l V := by
  rcases Nat.eq_zero_or_pos l with e | e
  · subst e; exact ⟨h.1, fun i hi => absurd hi (Nat.not_lt_zero _)⟩
  · exact h.setCell (fun x hx => hn x hx e) v
theorem cell_sc2 {w : World} {b o1 o2 c off : Nat} {v1 v2 u : Value} (h : w.cell? ⟨c, off, none⟩ = some u) (hne : c ≠ b) : ((w.setCell ⟨b, o1, none⟩ v1).setCell ⟨b, o2, none⟩ v2).cell? ⟨c, off, none⟩ = some u := by
  rw [World.cell?_setCell_other _ _ _ _ (fun e => by injection e with e; exact hne e.symm), World.cell?_setCell_other _ _ _ _ (fun e => by injection e with e; exact hne e.symm)]
  exact h
theorem cell_nal {w : World} {c off : Nat} {u : Value} (h : w.cell? ⟨c, off, none⟩ = some u) (o : Obj) : (w.alloc o).cell? ⟨c, off, none⟩ = some u := by
  rw [World.cell?_alloc_lt _ _ _ (World.block_lt_of_cell? w _ h)]; exact h
theorem heap_sets {b k : Nat} (vs : List Value) (hb : k ≠ b) : ∀ (o : Nat) (w : World), (w.setCells b o vs).heap[k]? = w.heap[k]? := by
  induction vs with
  | nil => intro o w; rfl
  | cons v r ih => intro o w; rw [World.setCells, ih]; exact Below.heap_setCell _ _ _ _ hb
theorem cell_ns {w : World} {b c off : Nat} {u : Value} (h : w.cell? ⟨c, off, none⟩ = some u) (vs : List Value) (hne : c < b) : (w.setCells b 0 vs).cell? ⟨c, off, none⟩ = some u :=
  (World.cell?_of_block (a := ⟨c, off, none⟩) (heap_sets vs (show c ≠ b by omega) 0 _)).trans h
theorem cell_nb {w : World} {c off : Nat} {u : Value} (h : w.cell? ⟨c, off, none⟩ = some u) (o : Obj) (vs : List Value) : ((w.alloc o).setCells w.heap.size 0 vs).cell? ⟨c, off, none⟩ = some u := by
  have hl := World.block_lt_of_cell? w _ h
  exact (World.cell?_of_block (a := ⟨c, off, none⟩) (heap_sets vs (show c ≠ w.heap.size by have : c < w.heap.size := hl; omega) 0 _)).trans (cell_nal h o)
/-- What lies apart from the symbols' lists. -/
def Sep (k n7 rb zb : Nat) (blk : Nat → Nat) (a : Option Addr) (l : Nat) (w1 : World) : Prop :=
  ∀ i, i < k → blk i ≠ n7 ∧ blk i ≠ rb ∧ blk i ≠ zb ∧ (∀ x, a = some x → 0 < l → x.block ≠ blk i) ∧ w1.heap.size ≤ blk i
/-- What stands while the law asks. -/
def Kz (C : Nat → Nat) (k ob n7 rb zb n : Nat) (blk : Nat → Nat) (V0 : Nat → Nat → Value) (L : Nat × Nat → Option (Nat × Nat)) (VR SN : Nat → Value) (a : Option Addr) (l : Nat) (U : Nat → Int) (w1 W : World) : Prop :=
  (∃ V, SM C k ob blk W V ∧ Links C k V L ∧ SameBut V0 V) ∧ W.heap[n7]? = some (.cells #[.slice (some ⟨ob, 0, none⟩) k k] 38 (0, 0)) ∧ Gl W ∧ Fblk W rb 44 (n * 2) VR ∧ Fblk W zb 44 (n * 2) SN ∧ Fsl W a l (fun i => .int .u32 (U i)) ∧ Below w1.heap.size w1 W
section
variable {C : Nat → Nat} {k ob n7 rb zb n x s j l : Nat} {blk : Nat → Nat} {V0 : Nat → Nat → Value} {L : Nat × Nat → Option (Nat × Nat)} {VR SN : Nat → Value} {a : Option Addr} {U : Nat → Int} {w1 W W' : World}
theorem Kz.below (h : Kz C k ob n7 rb zb n blk V0 L VR SN a l U w1 W) (hb : Below W.heap.size W W') : Kz C k ob n7 rb zb n blk V0 L VR SN a l U w1 W' := by
  obtain ⟨⟨V, h1, h2, h3⟩, h4, h5, h6, h7, h8, h9⟩ := h
  have l1 := (Array.getElem?_eq_some_iff.1 h4).1
  exact ⟨⟨V, h1.keep hb, h2, h3⟩, (hb.block n7 l1).trans h4, h5.below hb, h6.below hb h6.lt, h7.below hb h7.lt, h8.below hb, h9.trans (hb.mono h9.size)⟩
theorem Kz.drew (h : Kz C k ob n7 rb zb n blk V0 L VR SN a l U w1 W) : Kz C k ob n7 rb zb n blk V0 L VR SN a l U w1 W.drew := h.below (belD (Below.refl _ _))
theorem Kz.c7 (h : Kz C k ob n7 rb zb n blk V0 L VR SN a l U w1 W) : W.cell? ⟨n7, 0, none⟩ = some (.slice (some ⟨ob, 0, none⟩) k k) := by rw [cell_of_row W n7 0 _ 38 _ h.2.1]; rfl
theorem Kz.ref (h : Kz C k ob n7 rb zb n blk V0 L VR SN a l U w1 W) (hx : x < n) (v0 : VR (x * 2) = .int .u32 s) (v1 : VR (x * 2 + 1) = .int .u32 j) : W.cell? ⟨rb, x * 2, none⟩ = some (.int .u32 s) ∧ W.cell? ⟨rb, x * 2 + 1, none⟩ = some (.int .u32 j) := by
  have r0 := h.2.2.2.1.cell (x * 2) (by omega)
  have r1 := h.2.2.2.1.cell (x * 2 + 1) (by omega)
  rw [v0] at r0
  rw [v1] at r1
  exact ⟨r0, r1⟩
theorem Kz.snap (h : Kz C k ob n7 rb zb n blk V0 L VR SN a l U w1 W) (hx : x < n) {p q : Value} (v0 : SN (x * 2) = p) (v1 : SN (x * 2 + 1) = q) : W.cell? ⟨zb, x * 2, none⟩ = some p ∧ W.cell? ⟨zb, x * 2 + 1, none⟩ = some q := by
  have r0 := h.2.2.2.2.1.cell (x * 2) (by omega)
  have r1 := h.2.2.2.2.1.cell (x * 2 + 1) (by omega)
  rw [v0] at r0
  rw [v1] at r1
  exact ⟨r0, r1⟩
theorem Kz.low (h : Kz C k ob n7 rb zb n blk V0 L VR SN a l U w1 W) : Below w1.heap.size w1 W := h.2.2.2.2.2.2
/-- A symbol read by value. -/
theorem Kz.cell (h : Kz C k ob n7 rb zb n blk V0 L VR SN a l U w1 W) (hs : s < k) (hj : j < C s) (hk : k ≤ 4097) (hc : C s ≤ 4096) (h1v : OneV (C s * 10) (V0 s)) :
    Calls Tryd.prog 14 #[.agg #[.slice (some ⟨ob, 0, none⟩) k k], .agg #[.int .u32 s, .int .u32 j]] W fun e w' => ∃ v0 v1 v5 v6 v7 v8 v9, e = .returned (.agg #[v0, v1, .int .u32 (lw (L (s, j))), .int .u32 (lv (L (s, j))), V0 s (j * 10 + 4), v5, v6, v7, v8, v9]) ∧ Kz C k ob n7 rb zb n blk V0 L VR SN a l U w1 w' := by
  have h0 := h
  obtain ⟨⟨V, h1, h2, h3⟩, _⟩ := h
  refine (cellC C k ob blk V s j W h1 hs hj hk hc (h1v.of h3 h2 hs)).mono ?_
  rintro e w' ⟨rfl, hb⟩
  obtain ⟨e2, e3⟩ := h2.w hs hj
  have e4 : V s (j * 10 + 4) = V0 s (j * 10 + 4) := h3 s (j * 10 + 4) (by omega) (by omega)
  exact ⟨_, _, _, _, _, _, _, by rw [e2, e3, e4], h0.below hb⟩
theorem Kz.cellR (h : Hid (Kz C k ob n7 rb zb n blk V0 L VR SN a l U w1 W)) (hx : x < n) (v0 : VR (x * 2) = .int .u32 s) (v1 : VR (x * 2 + 1) = .int .u32 j) (hs : s < k) (hj : j < C s) (hk : k ≤ 4097) (hc : C s ≤ 4096) (h1v : OneV (C s * 10) (V0 s)) :
    Calls Tryd.prog 14 #[.agg #[.slice (some ⟨ob, 0, none⟩) k k], .agg #[.int .u32 s, .int .u32 j]] W fun e w' => (∃ v0 v1 v5 v6 v7 v8 v9, e = .returned (.agg #[v0, v1, .int .u32 (lw (L (s, j))), .int .u32 (lv (L (s, j))), V0 s (j * 10 + 4), v5, v6, v7, v8, v9])) ∧
      ((w'.cell? ⟨n7, 0, none⟩ = some (.slice (some ⟨ob, 0, none⟩) k k) ∧ w'.cell? ⟨rb, x * 2, none⟩ = some (.int .u32 s) ∧ w'.cell? ⟨rb, x * 2 + 1, none⟩ = some (.int .u32 j)) ∧ (w'.cell? ⟨zb, x * 2, none⟩ = some (SN (x * 2)) ∧ w'.cell? ⟨zb, x * 2 + 1, none⟩ = some (SN (x * 2 + 1)) ∧ w'.frozen? ⟨zb, x * 2, none⟩ = false ∧ w'.frozen? ⟨zb, x * 2 + 1, none⟩ = false)) ∧ Hid (Kz C k ob n7 rb zb n blk V0 L VR SN a l U w1 w') :=
  (h.out.cell hs hj hk hc h1v).mono fun e w' ⟨p0, p1, p5, p6, p7, p8, p9, he, h2⟩ => by
    obtain ⟨q0, q1⟩ := h2.ref hx v0 v1
    obtain ⟨q2, q3⟩ := h2.snap hx rfl rfl
    exact ⟨⟨p0, p1, p5, p6, p7, p8, p9, he⟩, ⟨⟨h2.c7, q0, q1⟩, q2, q3, h2.2.2.2.2.1.frozen _, h2.2.2.2.2.1.frozen _⟩, Lib.hid h2⟩
/-- FollowSymbols, once all is flat: the link, or the symbol itself; nothing changes that is looked at. -/
theorem Kz.fol (h : Kz C k ob n7 rb zb n blk V0 L VR SN a l U w1 W) (hsep : Sep k n7 rb zb blk a l w1) (hfl : ∀ p : Nat × Nat, p.1 < k → p.2 < C p.1 → Lk.Flat L p) (hs : s < k) (hj : j < C s) (hk : k ≤ 4097) (hC : ∀ s, s < k → C s ≤ 4096) {t : Nat × Nat} (ht : (L (s, j) = none ∧ t = (s, j)) ∨ L (s, j) = some t) :
    Calls Tryd.prog 16 #[.agg #[.slice (some ⟨ob, 0, none⟩) k k], .agg #[.int .u32 s, .int .u32 j]] W fun e w' => e = .returned (.agg #[.int .u32 (t.1 : Nat), .int .u32 (t.2 : Nat)]) ∧ Kz C k ob n7 rb zb n blk V0 L VR SN a l U w1 w' ∧ ∀ b, b < W.heap.size → (∀ i, i < k → blk i ≠ b) → w'.heap[b]? = W.heap[b]? := by
  obtain ⟨⟨V, h1, h2, h3⟩, h4, h5, h6, h7, h8, h9⟩ := h
  have hr : ∃ m, Lk.Path L (s, j) t m := by
    rcases ht with ⟨hn, rfl⟩ | hn
    · exact ⟨0, .done hn⟩
    · rcases hfl (s, j) hs hj with e | ⟨u, e, e2⟩
      · rw [hn] at e; cases e
      · rw [hn] at e
        injection e with e
        subst e
        exact ⟨1, .step hn (.done e2)⟩
  obtain ⟨m, hP⟩ := hr
  obtain ⟨t1, t2⟩ := h2.rng hP hs hj
  refine (follow C k ob blk hk hC m s j t V L W hs hj h1 h2 h5 hP t1 t2).mono ?_
  rintro e w' ⟨rfl, V2, L2, g1, g2, g3, _, _, g4, g5⟩
  have hne : ∀ i, i < k → ¬ blk i = n7 ∧ ¬ blk i = rb ∧ ¬ blk i = zb := fun i hi => ⟨(hsep i hi).1, (hsep i hi).2.1, (hsep i hi).2.2.1⟩
  have l1 := (Array.getElem?_eq_some_iff.1 h4).1
  refine ⟨rfl, ⟨⟨V2, g1, g2.same fun p hp hq => (g3.flat (hfl p hp hq)).2, h3.trans g4⟩, ?_, h5.chg h1.2.2.1 g5, ?_, ?_, ?_, ?_⟩, fun b hb hn => g5.block b hb (by rintro ⟨i, hi, e⟩; exact hn i hi e.symm)⟩
  · exact (g5.block n7 l1 (by rintro ⟨i, hi, e⟩; exact (hne i hi).1 e.symm)).trans h4
  · exact fblk_chg h6 g5 (by rintro ⟨i, hi, e⟩; exact (hne i hi).2.1 e.symm)
  · exact fblk_chg h7 g5 (by rintro ⟨i, hi, e⟩; exact (hne i hi).2.2 e.symm)
  · exact fsl_chg h8 g5 (by rintro x hx hl ⟨i, hi, e⟩; exact (hsep i hi).2.2.2.1 x hx hl e)
  · exact h9.trans (g5.below h9.size (by rintro b ⟨i, hi, rfl⟩; exact (hsep i hi).2.2.2.2))
/-- One ref of the snapshot set. -/
theorem Kz.put (h : Kz C k ob n7 rb zb n blk V0 L VR SN a l U w1 W) (hsep : Sep k n7 rb zb blk a l w1) (ho : ob ≠ zb) (h7 : n7 ≠ zb) (hr : rb ≠ zb) (hz : 0 < zb) (ha : ∀ x, a = some x → 0 < l → x.block ≠ zb) (hw : w1.heap.size ≤ zb) (q : Nat) (v : Value) :
    Kz C k ob n7 rb zb n blk V0 L VR (upd SN q v) a l U w1 (W.setCell ⟨zb, q, none⟩ v) := by
  obtain ⟨⟨V, h1, h2, h3⟩, h4, h5, h6, h7', h8, h9⟩ := h
  refine ⟨⟨V, ⟨h1.1.other (by show zb ≠ ob; exact ho.symm) _, fun i hi => (h1.2.1 i hi).other (by show zb ≠ blk i; exact fun e => (hsep i hi).2.2.1 e.symm) _, h1.2.2⟩, h2, h3⟩, ?_, ⟨?_, ?_⟩, h6.other (by show zb ≠ rb; exact hr.symm) _, h7'.set q v, fsl_put h8 ha v, h9.setCell hw _⟩
  · rw [heap_setCell_other _ _ _ _ (by show n7 ≠ zb; exact h7)]; exact h4
  · rw [World.cell?_setCell_other W _ _ v (fun e => by injection e with e; omega)]; exact h5.1
  · rw [World.cell?_setCell_other W _ _ v (fun e => by injection e with e; omega)]; exact h5.2
/-- A box of the loop's own behind the world wr, and what is read beside it. -/
def Bx (wr : World) (A B : Value) (W : World) : Prop := Below wr.heap.size wr W ∧ W.heap[wr.heap.size]? = some (.cells #[A, B] 44 (0, 0))
theorem Bx.start (wr : World) (A B : Value) : Bx wr A B (wr.alloc (.cells #[A, B] 44)) := ⟨(Below.refl _ _).alloc (Nat.le_refl _) _, heap_alloc_new _ _⟩
theorem Bx.below {wr : World} {A B : Value} (h : Bx wr A B W) (hb : Below W.heap.size W W') : Bx wr A B W' :=
  ⟨h.1.trans (hb.mono h.1.size), (hb.block _ (Array.getElem?_eq_some_iff.1 h.2).1).trans h.2⟩
theorem Bx.drew {wr : World} {A B : Value} (h : Bx wr A B W) : Bx wr A B W.drew := h.below (belD (Below.refl _ _))
theorem Bx.put {wr : World} {A B A' B' : Value} (h : Bx wr A B W) : Bx wr A' B' ((W.setCell ⟨wr.heap.size, 0, none⟩ A').setCell ⟨wr.heap.size, 1, none⟩ B') := by
  refine ⟨(h.1.setCell (Nat.le_refl _) _).setCell (Nat.le_refl _) _, ?_⟩
  rw [heap_setCell_same _ _ _ _ _ _ (heap_setCell_same _ _ _ _ _ _ h.2)]
  rfl
theorem Bx.cells {wr : World} {A B : Value} (h : Bx wr A B W) (hK : Kz C k ob n7 rb zb n blk V0 L VR SN a l U w1 wr) (hx : x < n) (v0 : VR (x * 2) = .int .u32 s) (v1 : VR (x * 2 + 1) = .int .u32 j) :
    W.cell? ⟨n7, 0, none⟩ = some (.slice (some ⟨ob, 0, none⟩) k k) ∧ W.cell? ⟨rb, x * 2, none⟩ = some (.int .u32 s) ∧ W.cell? ⟨rb, x * 2 + 1, none⟩ = some (.int .u32 j) ∧ W.cell? ⟨wr.heap.size, 0, none⟩ = some A ∧ W.cell? ⟨wr.heap.size, 1, none⟩ = some B ∧ W.frozen? ⟨wr.heap.size, 0, none⟩ = false ∧ W.frozen? ⟨wr.heap.size, 1, none⟩ = false := by
  have h2 := hK.below h.1
  obtain ⟨q0, q1⟩ := h2.ref hx v0 v1
  exact ⟨h2.c7, q0, q1, cellsB (i := 0) h.2 rfl, cellsB (i := 1) h.2 rfl, frozen_of_row W _ 0 _ _ h.2, frozen_of_row W _ 1 _ _ h.2⟩
theorem Kz.inv {wr : World} {A B : Value} (hK : Hid (Kz C k ob n7 rb zb n blk V0 L VR SN a l U w1 wr)) (h : Hid (Bx wr A B W)) (hx : x < n) (v0 : VR (x * 2) = .int .u32 s) (v1 : VR (x * 2 + 1) = .int .u32 j) :
    Calls Tryd.prog 15 #[] W fun e w' => e = .returned (.agg #[.int .u32 4294967295, .int .u32 4294967295]) ∧ (w'.cell? ⟨n7, 0, none⟩ = some (.slice (some ⟨ob, 0, none⟩) k k) ∧ w'.cell? ⟨rb, x * 2, none⟩ = some (.int .u32 s) ∧ w'.cell? ⟨rb, x * 2 + 1, none⟩ = some (.int .u32 j) ∧ w'.cell? ⟨wr.heap.size, 0, none⟩ = some A ∧ w'.cell? ⟨wr.heap.size, 1, none⟩ = some B ∧ w'.frozen? ⟨wr.heap.size, 0, none⟩ = false ∧ w'.frozen? ⟨wr.heap.size, 1, none⟩ = false) ∧ Hid (Bx wr A B w') :=
  (inval W).mono fun e w' ⟨he, hb⟩ => ⟨he, (h.out.below hb).cells hK.out hx v0 v1, Lib.hid (h.out.below hb)⟩
theorem Kz.folR {wr : World} {A B : Value} (hK : Hid (Kz C k ob n7 rb zb n blk V0 L VR SN a l U w1 wr)) (h : Hid (Bx wr A B W)) (hx : x < n) (v0 : VR (x * 2) = .int .u32 s) (v1 : VR (x * 2 + 1) = .int .u32 j) (hsep : Sep k n7 rb zb blk a l w1) (hfl : ∀ p : Nat × Nat, p.1 < k → p.2 < C p.1 → Lk.Flat L p) (hs : s < k) (hj : j < C s) (hk : k ≤ 4097) (hC : ∀ s, s < k → C s ≤ 4096) {t : Nat × Nat} (ht : (L (s, j) = none ∧ t = (s, j)) ∨ L (s, j) = some t) :
    Calls Tryd.prog 16 #[.agg #[.slice (some ⟨ob, 0, none⟩) k k], .agg #[.int .u32 s, .int .u32 j]] W fun e w' => e = .returned (.agg #[.int .u32 (t.1 : Nat), .int .u32 (t.2 : Nat)]) ∧ (w'.cell? ⟨n7, 0, none⟩ = some (.slice (some ⟨ob, 0, none⟩) k k) ∧ w'.cell? ⟨rb, x * 2, none⟩ = some (.int .u32 s) ∧ w'.cell? ⟨rb, x * 2 + 1, none⟩ = some (.int .u32 j) ∧ w'.cell? ⟨wr.heap.size, 0, none⟩ = some A ∧ w'.cell? ⟨wr.heap.size, 1, none⟩ = some B) ∧ Hid (Kz C k ob n7 rb zb n blk V0 L VR SN a l U w1 w') :=
  ((hK.out.below h.out.1).fol hsep hfl hs hj hk hC ht).mono fun e w' ⟨he, h2, h3⟩ => by
    obtain ⟨q0, q1⟩ := h2.ref hx v0 v1
    have hr : w'.heap[wr.heap.size]? = _ := (h3 _ (Array.getElem?_eq_some_iff.1 h.out.2).1 (fun i hi e => by
      obtain ⟨⟨V, g1, _⟩, _⟩ := hK.out
      have := (g1.2.1 i hi).lt
      omega)).trans h.out.2
    exact ⟨he, ⟨h2.c7, q0, q1, cellsB (i := 0) hr rfl, cellsB (i := 1) hr rfl⟩, Lib.hid h2⟩
theorem there_below {B b : Nat} (h : W.there b 0 10) (hb : Below B W W') (hB : b < B) : W'.there b 0 10 := fun q hq => by
  obtain ⟨p1, p2⟩ := h q hq
  exact ⟨by rw [World.cell?_of_block (a := ⟨b, 0 + q, none⟩) (hb.block b hB)]; exact p1, by rw [World.frozen?_of_block (a := ⟨b, 0 + q, none⟩) (hb.block b hB)]; exact p2⟩
def symZ : Array Value := #[.pointer none, .string ⟨#[]⟩, .int .u32 0, .int .u32 0, .int .u32 0, .int .u32 0, .int .u32 0, .int .u16 0, .int .u8 0, .int .u8 0]
theorem there_new (w : World) : (w.alloc (.cells symZ 52)).there w.heap.size 0 10 := fun q hq => by
  have hr := heap_alloc_new w (.cells symZ 52)
  refine ⟨?_, frozen_of_row _ _ _ _ _ hr⟩
  rw [cell_of_row _ _ _ _ _ _ hr, Nat.zero_add, Array.getElem?_eq_getElem (by exact hq)]
  rfl
/-- The ten values of a symbol. -/
def Mok (M : Array Value) (l j u : Value) : Prop := M.size = 10 ∧ M[2]? = some l ∧ M[3]? = some j ∧ M[4]? = some u
theorem Kz.cellB {wr : World} (hK : Hid (Kz C k ob n7 rb zb n blk V0 L VR SN a l U w1 wr)) (hX : Below wr.heap.size wr W) (hx : x < n) (v0 : VR (x * 2) = .int .u32 s) (v1 : VR (x * 2 + 1) = .int .u32 j) (hs : s < k) (hj : j < C s) (hk : k ≤ 4097) (hc : C s ≤ 4096) (h1v : OneV (C s * 10) (V0 s)) :
    Calls Tryd.prog 14 #[.agg #[.slice (some ⟨ob, 0, none⟩) k k], .agg #[.int .u32 s, .int .u32 j]] W fun e w' => ∃ M, e = .returned (.agg M) ∧ M.size = 10 ∧ M.all (·.oneCell') = true ∧ Hid (Mok M (.int .u32 (lw (L (s, j)))) (.int .u32 (lv (L (s, j)))) (V0 s (j * 10 + 4))) ∧
      (w'.cell? ⟨n7, 0, none⟩ = some (.slice (some ⟨ob, 0, none⟩) k k) ∧ w'.cell? ⟨rb, x * 2, none⟩ = some (.int .u32 s) ∧ w'.cell? ⟨rb, x * 2 + 1, none⟩ = some (.int .u32 j)) ∧ Hid (Below W.heap.size W w') ∧ Hid (Below wr.heap.size wr w') := by
  have h0 := hK.out.below hX
  obtain ⟨⟨V, h1, h2, h3⟩, _⟩ := id h0
  have ho := h1v.of h3 h2 hs
  refine (cellC C k ob blk V s j W h1 hs hj hk hc ho).mono ?_
  rintro e w' ⟨rfl, hb⟩
  obtain ⟨e2, e3⟩ := h2.w hs hj
  have e4 : V s (j * 10 + 4) = V0 s (j * 10 + 4) := h3 s (j * 10 + 4) (by omega) (by omega)
  have h4 := h0.below hb
  obtain ⟨q0, q1⟩ := h4.ref hx v0 v1
  refine ⟨_, rfl, rfl, ?_, Lib.hid ⟨rfl, ?_, ?_, ?_⟩, ⟨h4.c7, q0, q1⟩, Lib.hid hb, Lib.hid (hX.trans (hb.mono hX.size))⟩
  · have o := fun q (hq : q < 10) => ho (j * 10 + q) (by omega)
    have o0 := o 0 (by omega)
    have o1 := o 1 (by omega)
    have o2 := o 2 (by omega)
    have o3 := o 3 (by omega)
    have o4 := o 4 (by omega)
    have o5 := o 5 (by omega)
    have o6 := o 6 (by omega)
    have o7 := o 7 (by omega)
    have o8 := o 8 (by omega)
    have o9 := o 9 (by omega)
    rw [Nat.add_zero] at o0
    simp [o0, o1, o2, o3, o4, o5, o6, o7, o8, o9]
  · show some (V s (j * 10 + 2)) = _
    rw [e2]
  · show some (V s (j * 10 + 3)) = _
    rw [e3]
  · show some (V s (j * 10 + 4)) = _
    rw [e4]
theorem below_sets {B b : Nat} {w0 : World} (vs : List Value) (hb : B ≤ b) : ∀ (o : Nat) (w : World), Below B w0 w → Below B w0 (w.setCells b o vs) := by
  induction vs with
  | nil => intro o w h; exact h
  | cons v r ih => intro o w h; rw [World.setCells]; exact ih _ _ (h.setCell hb v)
/-- The box of a symbol by value. -/
theorem cbox {b : Nat} {M : Array Value} {p q u : Value} (hM : Mok M p q u) (ht : W.there b 0 10) : (W.setCells b 0 M.toList).cell? ⟨b, 2, none⟩ = some p ∧ (W.setCells b 0 M.toList).cell? ⟨b, 3, none⟩ = some q ∧ (W.setCells b 0 M.toList).cell? ⟨b, 4, none⟩ = some u := by
  obtain ⟨h0, h1, h2, h3⟩ := hM
  have hl : M.toList.length = 10 := by simpa using h0
  have hr := World.rangeAt_setCells_same W b 0 M.toList (by rw [hl]; exact ht)
  have g2 := hr 2 p (by simpa using h1)
  have g3 := hr 3 q (by simpa using h2)
  have g4 := hr 4 u (by simpa using h3)
  exact ⟨g2, g3, g4⟩
end
set_option maxHeartbeats 8000000 in
set_option maxRecDepth 100000 in
theorem main (a0 : Option Addr) (l0 c0 : Nat) (Z : Nat → Int) (a1 : Option Addr) (l1 c1 : Nat) (S : Nat → Int) (a2 : Option Addr) (l2 c2 : Nat) (U : Nat → Int) (w : World)
    (h0 : Fsl w a0 l0 (fun i => .int .u16 (Z i))) (hZ : ∀ i, i < l0 → 0 ≤ Z i ∧ Z i ≤ 65535)
    (h1 : Fsl w a1 l1 (fun i => .int .i32 (S i))) (hS : ∀ i, i < l1 → -2147483648 ≤ S i ∧ S i ≤ 2147483647)
    (h2 : Fsl w a2 l2 (fun i => .int .u32 (U i))) (hU : ∀ i, i < l2 → 0 ≤ U i ∧ U i ≤ 4294967295) (hG : Gl w) (m0 : l0 ≤ maxLen) (m1 : l1 ≤ maxLen) (m2 : l2 ≤ maxLen) :
    Calls Tryd.prog 3 #[.slice a0 l0 c0, .slice a1 l1 c1, .slice a2 l2 c2] w fun e w' => e = .returned (.bool true) ∧ Below w.heap.size w w' := by
  unfold maxLen at m0 m1 m2
  have H0 := Lib.hid h0
  have H1 := Lib.hid h1
  have H2 := Lib.hid h2
  have HZ := Lib.hid hZ
  have HS := Lib.hid hS
  have HU := Lib.hid hU
  have HG := Lib.hid hG
  clear h0 h1 h2 hZ hS hU hG
  go_enter Tryd.func3, Tryd.ntmps3
  go_wp2_with fail
  refine (zb a0 l0 c0 a1 l1 c1 a2 l2 c2 _).mono ?_
  rintro e w1 ⟨rfl, v, rfl⟩
  cases v
  · go_wp2_with fail
    go_ret
    exact ⟨rfl, Below.refl _ _⟩
  by_cases gq : (1048576 : Int) < wrap64 (wrap64 (wrap64 (2 * (l0 : Int)) + wrap64 (4 * (l1 : Int))) + wrap64 (4 * (l2 : Int)))
  · go_wp2_with fail
    all_goals
      go_ret
      exact ⟨rfl, Below.refl _ _⟩
  by_cases g0 : (4096 : Int) < (l0 : Int)
  · go_wp2_with fail
    all_goals
      go_ret
      exact ⟨rfl, Below.refl _ _⟩
  by_cases g1 : (4096 : Int) < (l1 : Int)
  · go_wp2_with fail
    all_goals
      go_ret
      exact ⟨rfl, Below.refl _ _⟩
  by_cases g2 : (4096 : Int) < (l2 : Int)
  · go_wp2_with fail
    all_goals
      go_ret
      exact ⟨rfl, Below.refl _ _⟩
  have b0 : l0 ≤ 4096 := by omega
  have b1 : l1 ≤ 4096 := by omega
  have b2 : l2 ≤ 4096 := by omega
  go_wp2_with fail
  refine (c16 a0 l0 c0 Z _ H0.out (by omega)).mono ?_
  rintro e w2 ⟨a3, c3, rfl, _, hf2, hb2, _, _⟩
  have F2 := Lib.hid hf2
  have B2 := Lib.hid hb2
  clear hf2 hb2
  go_wp2_with fail
  refine (ci32 a1 l1 c1 S _ (H1.out.below B2.out) (by omega)).mono ?_
  rintro e w3 ⟨a4, c4, rfl, _, hf3, hb3, _, _⟩
  have E3 := Lib.hid hf3
  have F3 := Lib.hid (F2.out.below hb3)
  have B3 := Lib.hid (B2.out.trans (hb3.mono B2.out.size))
  clear hf3 hb3 F2
  go_wp2_with fail
  refine (c32 a2 l2 c2 U _ (H2.out.below B3.out) (by omega)).mono ?_
  rintro e w4 ⟨a5, c5, rfl, _, hf4, hb4, _, _⟩
  have D4 := Lib.hid hf4
  have E4 := Lib.hid (E3.out.below hb4)
  have F4 := Lib.hid (F3.out.below hb4)
  have B4 := Lib.hid (B3.out.trans (hb4.mono B3.out.size))
  clear hf4 hb4 E3 F3 B2 B3
  by_cases hn0 : l1 = 0
  · have g3 : ((l1 : Int) == 0) = true := by simp; omega
    clear hn0
    go_wp2_with fail
    go_ret
    exact ⟨rfl, B4.out⟩
  have hn1 : 0 < l1 := by omega
  have hn2 : 0 < (l1 : Int) := by omega
  have g3 : ((l1 : Int) == 0) = false := by simp; omega
  obtain ⟨bt, offt, rfl, _⟩ := E4.out.at 0 hn1
  clear hn0
  go_wp2_with fail
  refine (targets bt offt l1 c4 S _ E4.out HS.out hn1 b1).mono ?_
  rintro e w5 ⟨tb, rfl, _, hT, hb5⟩
  have T5 := Lib.hid hT
  have D5 := Lib.hid (D4.out.below hb5)
  have F5 := Lib.hid (F4.out.below hb5)
  have B5 := Lib.hid (B4.out.trans (hb5.mono B4.out.size))
  clear hT hb5 D4 F4 E4
  have HTB := Lib.hid (fun i (hi : i < l1) => tg_bd hn1 (S i))
  obtain ⟨T, hTe⟩ : ∃ T, T = (fun i => tg l1 (S i)) := ⟨_, rfl⟩
  have T5 := Lib.hid (show Fblk w5 tb 3 l1 (fun i => .int .i64 (T i)) by rw [hTe]; exact T5.out)
  have HTB := Lib.hid (show ∀ i, i < l1 → -1 ≤ T i ∧ T i < l1 by rw [hTe]; exact HTB.out)
  clear hTe
  go_wp2_with fail
  refine (roots tb l1 T _ T5.out HTB.out hn1 b1).mono ?_
  rintro e w6 ⟨vr, ok, rfl, hE, hb6⟩
  have HE := Lib.hid hE
  have T6 := Lib.hid (T5.out.below hb6 T5.out.lt)
  have D6 := Lib.hid (D5.out.below hb6)
  have F6 := Lib.hid (F5.out.below hb6)
  have B6 := Lib.hid (B5.out.trans (hb6.mono B5.out.size))
  clear hE hb6 T5 D5 F5
  cases ok
  · go_wp2_with fail
    go_ret
    exact ⟨rfl, B6.out⟩
  go_wp2_with fail
  refine (counts a3 l0 c3 Z l1 _ F6.out HZ.out b0 b1).mono ?_
  rintro e w7 ⟨v, k, rfl, hk, hcnt⟩
  obtain ⟨g, capg, C, rfl, hC, hpC, hk0, hg⟩ := hcnt.out hn1
  have HC7 := Lib.hid hC
  have HP := Lib.hid hpC
  have D7 := Lib.hid (D6.out.below (Cnt.low hcnt))
  have T7 := Lib.hid (T6.out.below (Cnt.low hcnt) T6.out.lt)
  have B7 := Lib.hid (B6.out.trans ((Cnt.low hcnt).mono B6.out.size))
  have hk1 : k ≤ 4097 := by omega
  clear hC hpC hcnt hg D6 T6 F6
  go_wp2_with fail
  refine (refs g capg k l1 C _ HC7.out HP.out hk1 b1).mono ?_
  rintro e w8 ⟨rb, rfl, hrb, hR, hb8⟩
  have R8 := Lib.hid hR
  have D8 := Lib.hid (D7.out.below hb8)
  have T8 := Lib.hid (T7.out.below hb8 T7.out.lt)
  have C8 := Lib.hid (HC7.out.below hb8)
  have B8 := Lib.hid (B7.out.trans (hb8.mono B7.out.size))
  clear hrb hR hb8 HC7 D7 T7
  go_wp2_with fail
  refine (build g capg k l1 rb C _ l1 T _ l2 c5 U _ C8.out HP.out R8.out T8.out.sl HTB.out D8.out hk1 b1 b2).mono ?_
  rintro e w9 ⟨ob, blk, V, rfl, hsm, hsy, hob, hb9⟩
  have S9 := Lib.hid hsm
  have Y9 := Lib.hid hsy
  have D9 := Lib.hid (D8.out.below hb9)
  obtain ⟨VR, hVR, hall⟩ := R8.out
  have R9 := Lib.hid (hVR.below hb9 hVR.lt)
  have HA := Lib.hid hall
  have B9 := Lib.hid (B8.out.trans (hb9.mono B8.out.size))
  have O9 := Lib.hid hob
  have HRB := Lib.hid (show rb < w8.heap.size ∧ ∀ x, a5 = some x → 0 < l2 → x.block < w8.heap.size from ⟨hVR.lt, fun x hx hl => by
    obtain ⟨b, off, e, hb, _⟩ := D8.out.at 0 hl
    rw [hx] at e
    injection e with e
    rw [e]; exact hb⟩)
  have HC : Hid (∀ s, s < k → C s ≤ 4096) := Lib.hid fun s hs => by have := psum_lt C hs; have := HP.out; have := psum_mono C (s := s + 1) (t := k) hs; omega
  clear hsm hsy hob hb9 hVR hall R8 D8 C8 T8
  have G9 : Hid (Gl w9) := Lib.hid (HG.out.below B9.out)
  have L9 := Lib.hid (L0.links HP.out HTB.out Y9.out)
  have P9 := Lib.hid (L0.root HP.out HTB.out (HE.out trivial))
  obtain ⟨M0, hM0⟩ : ∃ M, M = L0 C k T := ⟨_, rfl⟩
  rw [← hM0] at L9 P9
  go_wp2_with fail
  have hb0 : Below w9.heap.size w9 (w9.alloc (.cells #[.slice (some ⟨ob, 0, none⟩) k k] 38)) := (Below.refl _ _).alloc (Nat.le_refl _) _
  refine (followAll C k ob blk hk1 HC.out V M0 _ (S9.out.keep hb0) L9 (G9.out.below hb0) P9).mono ?_
  rintro e w10 ⟨rfl, V1, L1, hM, hL, hCo, hSB, hF, hch⟩
  have hblk : ∀ i, i < k → w8.heap.size < blk i ∧ blk i < w9.heap.size := fun i hi => ⟨Nat.lt_trans O9.out (S9.out.2.2.1 i hi), (S9.out.2.1 i hi).lt⟩
  have hz8 := B8.out.size
  have hz9 : w9.heap.size < w10.heap.size := by have := hch.size; simp at this; omega
  have hob9 := S9.out.1.lt
  have ho8 := O9.out
  have hn7 : w10.heap[w9.heap.size]? = some (.cells #[.slice (some ⟨ob, 0, none⟩) k k] 38 (0, 0)) := (hch.block _ (by simp) (by rintro ⟨i, hi, e⟩; have := hblk i hi; omega)).trans (heap_alloc_new _ _)
  have hK : Kz C k ob w9.heap.size rb w10.heap.size l1 blk V L1 VR (fun i => (madeCells #[.int .u32 0, .int .u32 0] (l1 * 2)).getD i undef) a5 l2 U w1 (w10.alloc (.cells (madeCells #[.int .u32 0, .int .u32 0] (l1 * 2)) 44)) := by
    have hbb : Below w10.heap.size w10 (w10.alloc (.cells (madeCells #[.int .u32 0, .int .u32 0] (l1 * 2)) 44)) := (Below.refl _ _).alloc (Nat.le_refl _) _
    refine ⟨⟨V1, hM.keep hbb, hL, hSB⟩, (hbb.block _ hz9).trans hn7, ((G9.out.below hb0).chg S9.out.2.2.1 hch).below hbb, (fblk_chg (R9.out.below hb0 R9.out.lt) hch (by rintro ⟨i, hi, e⟩; have := hblk i hi; have := HRB.out.1; omega)).below hbb (by have := HRB.out.1; omega), Fblk.madeMany _ _ _ _, (fsl_chg (D9.out.below hb0) hch (by rintro x hx hl ⟨i, hi, e⟩; have := hblk i hi; have := HRB.out.2 x hx hl; omega)).below hbb, ?_⟩
    refine (((B9.out.alloc B9.out.size _).trans (hch.below (by have := B9.out.size; simp; omega) (by rintro b ⟨i, hi, rfl⟩; have := hblk i hi; omega))).alloc (by omega) _)
  have hSep : Sep k w9.heap.size rb w10.heap.size blk a5 l2 w1 := fun i hi => by
    have := hblk i hi
    have := HRB.out.1
    exact ⟨by omega, by omega, by omega, fun x hx hl => by have := HRB.out.2 x hx hl; omega, by omega⟩
  have hFl : ∀ p : Nat × Nat, p.1 < k → p.2 < C p.1 → Lk.Flat L1 p := fun p a b => hF p ⟨a, b⟩
  have HK := Lib.hid hK
  have HSEP := Lib.hid hSep
  have HFL := Lib.hid hFl
  have hmk := run_make_many (P := Tryd.prog) Tryd.underlying34 refInfo rfl (by omega) l1 (by omega)
  have HOB := Lib.hid hob9
  clear hM hL hCo hSB hF hch hK hSep hFl hblk hb0 hn7 hob9 L9 P9 R9 D9 G9 S9
  go_wp2_with fail
  have hob9 := HOB.out
  have hrb8 := HRB.out.1
  have HPUT : Hid (∀ SN W q v, Kz C k ob w9.heap.size rb w10.heap.size l1 blk V L1 VR SN a5 l2 U w1 W → Kz C k ob w9.heap.size rb w10.heap.size l1 blk V L1 VR (upd SN q v) a5 l2 U w1 (W.setCell ⟨w10.heap.size, q, none⟩ v)) :=
    Lib.hid fun SN W q v h => h.put HSEP.out (by have := HOB.out; omega) (by omega) (by have := HRB.out.1; omega) (by omega) (fun x hx hl => by have := HRB.out.2 x hx hl; omega) (by omega) q v
  generalize (fun i => (madeCells #[.int .u32 0, .int .u32 0] (l1 * 2)).getD i undef) = SN0 at HK
  generalize w10.alloc (.cells (madeCells #[.int .u32 0, .int .u32 0] (l1 * 2)) 44) = W0 at HK ⊢
  have hzb : w1.heap.size ≤ w10.heap.size := by omega
  have hzz : 0 < w10.heap.size := by omega
  have hn79 : w9.heap.size < w10.heap.size := by omega
  have hrbz : rb < w10.heap.size := by have := HRB.out.1; omega
  clear hmk hz8 hz9 HOB ho8 hob9 hrb8
  generalize w10.heap.size = zb at HK HSEP HPUT hzb hzz hn79 hrbz ⊢
  generalize w9.heap.size = n7 at HK HSEP HPUT hn79 ⊢
  go_loopw [15] (fun i wr => ∃ x : Nat, ∃ SN : Nat → Value, x ≤ l1 ∧ i = .int .i64 x ∧ Hid (Kz C k ob n7 rb zb l1 blk V L1 VR SN a5 l2 U w1 wr) ∧ Hid (∀ y s j, y < x → At C k y s j → SN (y * 2) = .int .u32 (lw (L1 (s, j))) ∧ SN (y * 2 + 1) = .int .u32 (lv (L1 (s, j))))) (fun i _ => l1 - (intOf i).toNat)
  case atStart => exact ⟨0, _, Nat.zero_le _, rfl, HK, Lib.hid fun y s j hy => absurd hy (Nat.not_lt_zero _)⟩
  case round =>
    obtain ⟨x, SN, hx, rfl, KR, HSN⟩ := hrel
    by_cases hlt : x < l1
    · obtain ⟨s, j, hat, v0, v1⟩ := HA.out x hlt
      have HAT := Lib.hid hat
      obtain ⟨hs, hj, _⟩ := hat
      have hcs := HC.out s hs
      obtain ⟨r0, r1⟩ := KR.out.ref hlt v0 v1
      have f7 := KR.out.c7
      have z0 := KR.out.2.2.2.2.1.cell (x * 2) (by omega)
      have z1 := KR.out.2.2.2.2.1.cell (x * 2 + 1) (by omega)
      have e0 := KR.out.2.2.2.2.1.frozen (x * 2)
      have e1 := KR.out.2.2.2.2.1.frozen (x * 2 + 1)
      have hone := (Y9.out s hs).1
      have hx2 : (x : Int) < (l1 : Int) := by omega
      have HV0 := Lib.hid v0
      have HV1 := Lib.hid v1
      have HONE := Lib.hid hone
      have KRd := Lib.hid KR.out.drew
      have hfld := fld52
      clear v0 v1 hone
      go_wp2_with fail
      have hn7z : n7 ≠ zb := by omega
      have hrz : rb ≠ zb := by omega
      go_region_held3 (fun w' => w'.cell? ⟨n7, 0, none⟩ = some (.slice (some ⟨ob, 0, none⟩) k k) ∧ w'.cell? ⟨rb, x * 2, none⟩ = some (.int .u32 s) ∧ w'.cell? ⟨rb, x * 2 + 1, none⟩ = some (.int .u32 j))
        (first | exact ⟨f7, r0, r1⟩ | exact ⟨g7, g0, g1⟩ | exact ⟨cell_sc2 g7 hn7z, cell_sc2 g0 hrz, cell_sc2 g1 hrz⟩ | assumption)
        (first | (go_at_call 14; refine (Kz.cellR (by assumption) hlt HV0.out HV1.out hs hj hk1 hcs HONE.out).mono ?_; rintro e w' ⟨⟨p0, p1, p5, p6, p7, p8, p9, rfl⟩, ⟨⟨g7, g0, g1⟩, y0, y1, x0, x1⟩, g5⟩))
      go_wp2_with fail
      go_roundw
      case rel =>
        refine ⟨x + 1, _, by omega, by go_num, Lib.hid (HPUT.out _ _ _ _ (HPUT.out _ _ _ _ g5.out)), Lib.hid fun y s' j' hy ha => ?_⟩
        by_cases e : y = x
        · subst e
          obtain ⟨rfl, rfl⟩ := ha.uniq HAT.out
          exact ⟨by rw [upd_other _ _ _ _ (by omega), upd_same], upd_same _ _ _⟩
        · obtain ⟨q2, q3⟩ := HSN.out y s' j' (by omega) ha
          exact ⟨by rw [upd_other _ _ _ _ (by omega), upd_other _ _ _ _ (by omega)]; exact q2, by rw [upd_other _ _ _ _ (by omega), upd_other _ _ _ _ (by omega)]; exact q3⟩
      case measure => simp [intOf]; omega
    · obtain rfl : l1 = x := by omega
      have hfld := fld52
      go_wp2_with fail
      go_loopw [16] (fun i wr => ∃ y : Nat, y ≤ l1 ∧ i = .int .i64 y ∧ Hid (Kz C k ob n7 rb zb l1 blk V L1 VR SN a5 l2 U w1 wr)) (fun i _ => l1 - (intOf i).toNat)
      case atStart => exact ⟨0, Nat.zero_le _, rfl, KR⟩
      case round =>
        obtain ⟨y, hy, rfl, KR⟩ := hrel
        by_cases hlt : y < l1
        · obtain ⟨s, j, hat, v0, v1⟩ := HA.out y hlt
          obtain ⟨u0, u1⟩ := HSN.out y s j hlt hat
          obtain ⟨hs, hj, _⟩ := hat
          have hcs := HC.out s hs
          obtain ⟨r0, r1⟩ := KR.out.ref hlt v0 v1
          have f7 := KR.out.c7
          obtain ⟨z0, z1⟩ := KR.out.snap hlt u0 u1
          obtain ⟨V2, _, hL2, _⟩ := KR.out.1
          have hx2 : (y : Int) < (l1 : Int) := by omega
          have HV0 := Lib.hid v0
          have HV1 := Lib.hid v1
          have KRd := Lib.hid KR.out.drew
          have hcase := hL2 s j hs hj
          clear v0 v1 u0 u1 hL2
          have hwr : n7 < wr.heap.size ∧ rb < wr.heap.size ∧ zb < wr.heap.size := ⟨(Array.getElem?_eq_some_iff.1 KR.out.2.1).1, KR.out.2.2.2.1.lt, KR.out.2.2.2.2.1.lt⟩
          obtain ⟨hw7, hwrb, hwzb⟩ := hwr
          rcases hcase with ⟨e, _⟩ | ⟨t, e, t1, _⟩
          · rw [e, show lw none = 4294967295 from rfl] at z0
            rw [e, show lv none = 4294967295 from rfl] at z1
            have he : ∀ w, (binOp .eql 44 (.agg #[.int .u32 4294967295, .int .u32 4294967295]) (.agg #[.int .u32 4294967295, .int .u32 4294967295])).run Tryd.prog w = .ok (.bool true) w := fun w => by rw [eql_ref]; rfl
            have he2 : ∀ w, (binOp .neq 44 (.agg #[.int .u32 s, .int .u32 j]) (.agg #[.int .u32 s, .int .u32 j])).run Tryd.prog w = .ok (.bool false) w := fun w => by rw [neq_ref]; simp
            have HT := Lib.hid e
            have HX := Lib.hid (Bx.start wr (.int .u32 4294967295) (.int .u32 4294967295))
            clear e
            go_wp2_with fail
            generalize wr.alloc (.cells #[.int .u32 4294967295, .int .u32 4294967295] 44) = W at HX ⊢
            have HXd := Lib.hid HX.out.drew
            obtain ⟨f7, r0, r1, z0, z1, _⟩ := HX.out.cells KR.out hlt HV0.out HV1.out
            go_region_held3 (fun w' => w'.cell? ⟨n7, 0, none⟩ = some (.slice (some ⟨ob, 0, none⟩) k k) ∧ w'.cell? ⟨rb, y * 2, none⟩ = some (.int .u32 s) ∧ w'.cell? ⟨rb, y * 2 + 1, none⟩ = some (.int .u32 j) ∧ w'.cell? ⟨wr.heap.size, 0, none⟩ = some (.int .u32 4294967295) ∧ w'.cell? ⟨wr.heap.size, 1, none⟩ = some (.int .u32 4294967295))
              (first | exact ⟨f7, r0, r1, z0, z1⟩ | exact ⟨g7, g0, g1, y0, y1⟩ | assumption)
              (first | (go_at_call 15; refine (Kz.inv KR (by assumption) hlt HV0.out HV1.out).mono ?_; rintro e w' ⟨rfl, ⟨g7, g0, g1, y0, y1, x0, x1⟩, g5⟩))
            go_wp2_with fail
            have HX3 := Lib.hid (g5.out.put (A' := .int .u32 s) (B' := .int .u32 j))
            clear g7 g0 g1 y0 y1 x0 x1 g5 f7 r0 r1 z0 z1
            generalize (World.setCell (World.setCell _ _ _) ⟨wr.heap.size, 1, none⟩ (.int .u32 j)) = W3 at HX3 ⊢
            have HX3d := Lib.hid HX3.out.drew
            obtain ⟨f7, r0, r1, z0, z1, _⟩ := HX3.out.cells KR.out hlt HV0.out HV1.out
            go_region_held3 (fun w' => w'.cell? ⟨n7, 0, none⟩ = some (.slice (some ⟨ob, 0, none⟩) k k) ∧ w'.cell? ⟨rb, y * 2, none⟩ = some (.int .u32 s) ∧ w'.cell? ⟨rb, y * 2 + 1, none⟩ = some (.int .u32 j) ∧ w'.cell? ⟨wr.heap.size, 0, none⟩ = some (.int .u32 s) ∧ w'.cell? ⟨wr.heap.size, 1, none⟩ = some (.int .u32 j))
              (first | exact ⟨f7, r0, r1, z0, z1⟩ | exact ⟨g7, g0, g1, y0, y1⟩ | assumption)
              (first | (go_at_call 16; refine (Kz.folR KR (by assumption) hlt HV0.out HV1.out HSEP.out HFL.out hs hj hk1 HC.out (.inl ⟨HT.out, rfl⟩)).mono ?_; rintro e w' ⟨rfl, ⟨g7, g0, g1, y0, y1⟩, g6⟩))
            go_wp2_with fail
            go_roundw
            case rel => exact ⟨y + 1, by omega, by go_num, by assumption⟩
            case measure => simp [intOf]; omega
          · rw [e, show lw (some t) = ((t.1 : Nat) : Int) from rfl] at z0
            rw [e, show lv (some t) = ((t.2 : Nat) : Int) from rfl] at z1
            have he : ∀ w, (binOp .eql 44 (.agg #[.int .u32 (t.1 : Nat), .int .u32 (t.2 : Nat)]) (.agg #[.int .u32 4294967295, .int .u32 4294967295])).run Tryd.prog w = .ok (.bool false) w := fun w => by
              rw [eql_ref]
              have : ((t.1 : Nat) : Int) ≠ 4294967295 := by omega
              simp [this]
            have he2 : ∀ w, (binOp .neq 44 (.agg #[.int .u32 (t.1 : Nat), .int .u32 (t.2 : Nat)]) (.agg #[.int .u32 (t.1 : Nat), .int .u32 (t.2 : Nat)])).run Tryd.prog w = .ok (.bool false) w := fun w => by rw [neq_ref]; simp
            have HT := Lib.hid e
            have HX := Lib.hid (Bx.start wr (.int .u32 (t.1 : Nat)) (.int .u32 (t.2 : Nat)))
            clear e
            go_wp2_with fail
            generalize wr.alloc (.cells #[.int .u32 (t.1 : Nat), .int .u32 (t.2 : Nat)] 44) = W at HX ⊢
            have HXd := Lib.hid HX.out.drew
            obtain ⟨f7, r0, r1, z0, z1, _⟩ := HX.out.cells KR.out hlt HV0.out HV1.out
            go_region_held3 (fun w' => w'.cell? ⟨n7, 0, none⟩ = some (.slice (some ⟨ob, 0, none⟩) k k) ∧ w'.cell? ⟨rb, y * 2, none⟩ = some (.int .u32 s) ∧ w'.cell? ⟨rb, y * 2 + 1, none⟩ = some (.int .u32 j) ∧ w'.cell? ⟨wr.heap.size, 0, none⟩ = some (.int .u32 (t.1 : Nat)) ∧ w'.cell? ⟨wr.heap.size, 1, none⟩ = some (.int .u32 (t.2 : Nat)))
              (first | exact ⟨f7, r0, r1, z0, z1⟩ | exact ⟨g7, g0, g1, y0, y1⟩ | assumption)
              (first | (go_at_call 15; refine (Kz.inv KR (by assumption) hlt HV0.out HV1.out).mono ?_; rintro e w' ⟨rfl, ⟨g7, g0, g1, y0, y1, x0, x1⟩, g5⟩))
            go_wp2_with fail
            have HX3 := Lib.hid g5.out
            clear g7 g0 g1 y0 y1 x0 x1 g5 f7 r0 r1 z0 z1
            have HX3d := Lib.hid HX3.out.drew
            obtain ⟨f7, r0, r1, z0, z1, _⟩ := HX3.out.cells KR.out hlt HV0.out HV1.out
            go_region_held3 (fun w' => w'.cell? ⟨n7, 0, none⟩ = some (.slice (some ⟨ob, 0, none⟩) k k) ∧ w'.cell? ⟨rb, y * 2, none⟩ = some (.int .u32 s) ∧ w'.cell? ⟨rb, y * 2 + 1, none⟩ = some (.int .u32 j) ∧ w'.cell? ⟨wr.heap.size, 0, none⟩ = some (.int .u32 (t.1 : Nat)) ∧ w'.cell? ⟨wr.heap.size, 1, none⟩ = some (.int .u32 (t.2 : Nat)))
              (first | exact ⟨f7, r0, r1, z0, z1⟩ | exact ⟨g7, g0, g1, y0, y1⟩ | assumption)
              (first | (go_at_call 16; refine (Kz.folR KR (by assumption) hlt HV0.out HV1.out HSEP.out HFL.out hs hj hk1 HC.out (.inr HT.out)).mono ?_; rintro e w' ⟨rfl, ⟨g7, g0, g1, y0, y1⟩, g6⟩))
            go_wp2_with fail
            go_roundw
            case rel => exact ⟨y + 1, by omega, by go_num, by assumption⟩
            case measure => simp [intOf]; omega
        · obtain rfl : l1 = y := by omega
          have r3 : ∀ (W : World) (b : Nat) (M : Array Value), M.size = 10 → M.all (·.oneCell') = true → W.there b 0 10 → (storeCells ⟨b, 0, none⟩ M.toList).run Tryd.prog W = .ok () (W.setCells b 0 M.toList) := fun W b M hs ha h => by
            have := run_storeCells_cells (P := Tryd.prog) b 0 M.toList 0 W (fun j hj => by simpa using (h j (by simpa [hs] using hj)).1) (fun j hj => by simpa using (h j (by simpa [hs] using hj)).2)
              (fun v hv => (Array.all_eq_true_iff_forall_mem.1 ha) v (by simpa using hv))
            simpa using this
          have R3 := Lib.hid r3
          clear r3
          have thn := there_new
          unfold symZ at thn
          have THN := Lib.hid thn
          clear thn
          go_wp2_with fail
          go_loopw [18] (fun i wr => ∃ y : Nat, y ≤ l1 ∧ i = .int .i64 y ∧ Hid (Kz C k ob n7 rb zb l1 blk V L1 VR SN a5 l2 U w1 wr)) (fun i _ => l1 - (intOf i).toNat)
          case atStart => exact ⟨0, Nat.zero_le _, rfl, KR⟩
          case round =>
            obtain ⟨y, hy, rfl, KR⟩ := hrel
            by_cases hlt : y < l1
            · obtain ⟨s, j, hat, v0, v1⟩ := HA.out y hlt
              obtain ⟨u0, u1⟩ := HSN.out y s j hlt hat
              have huse := ((Y9.out s hat.1).2 j hat.2.1).2.2
              rw [hat.2.2] at huse
              obtain ⟨hs, hj, _⟩ := hat
              have hcs := HC.out s hs
              have HONE := Lib.hid (Y9.out s hs).1
              obtain ⟨r0, r4⟩ := KR.out.ref hlt v0 v1
              have f7 := KR.out.c7
              have hx2 : (y : Int) < (l1 : Int) := by omega
              have HV0 := Lib.hid v0
              have HV1 := Lib.hid v1
              have HU0 := Lib.hid u0
              have HU1 := Lib.hid u1
              have HUSE := Lib.hid huse
              clear v0 v1 u0 u1 huse
              have hwr : n7 < wr.heap.size ∧ rb < wr.heap.size ∧ zb < wr.heap.size := ⟨(Array.getElem?_eq_some_iff.1 KR.out.2.1).1, KR.out.2.2.2.1.lt, KR.out.2.2.2.2.1.lt⟩
              obtain ⟨hw7, hwrb, hwzb⟩ := hwr
              go_wp2_with fail
              go_region_held3 (fun w' => w'.cell? ⟨n7, 0, none⟩ = some (.slice (some ⟨ob, 0, none⟩) k k) ∧ w'.cell? ⟨rb, y * 2, none⟩ = some (.int .u32 s) ∧ w'.cell? ⟨rb, y * 2 + 1, none⟩ = some (.int .u32 j))
                (first | exact ⟨f7, r0, r4⟩ | exact ⟨g7, g0, g1⟩ | exact ⟨cell_nal g7 _, cell_nal g0 _, cell_nal g1 _⟩ | exact ⟨cell_nb g7 _ _, cell_nb g0 _ _, cell_nb g1 _ _⟩ | exact ⟨cell_nal f7 _, cell_nal r0 _, cell_nal r4 _⟩ | exact ⟨cell_ns g7 _ hw7, cell_ns g0 _ hwrb, cell_ns g1 _ hwrb⟩ | assumption)
                (first | (go_at_call 14; refine (Kz.cellB KR (by first | exact belD (Below.refl _ _) | exact belD ((Below.refl _ _).alloc (Nat.le_refl _) _)) hlt HV0.out HV1.out hs hj hk1 hcs HONE.out).mono ?_; rintro e w' ⟨M, rfl, sM, aM, HM, ⟨g7, g0, g1⟩, hB, hB2⟩; have Q4 := R3.out w' wr.heap.size M sM aM (there_below (W := wr.drew.alloc (.cells _ _)) (THN.out wr.drew) hB.out (by simp)); clear aM) | (go_at_call 14; refine (Kz.cellB KR (by first | exact belD (Below.refl _ _) | exact belD ((Below.refl _ _).alloc (Nat.le_refl _) _)) hlt HV0.out HV1.out hs hj hk1 hcs HONE.out).mono ?_; rintro e w' ⟨M, rfl, sM, aM, HM, ⟨g7, g0, g1⟩, hB, hB2⟩; have Q3 := fun w => R3.out _ _ M sM aM (THN.out w); clear aM))
              · have HBW := Lib.hid (show Below wr.heap.size wr ((w'.alloc (.cells #[.pointer none, .string ⟨#[]⟩, .int .u32 0, .int .u32 0, .int .u32 0, .int .u32 0, .int .u32 0, .int .u16 0, .int .u8 0, .int .u8 0] 52)).setCells w'.heap.size 0 M.toList) from below_sets _ hB2.out.size _ _ (hB2.out.alloc hB2.out.size _))
                have HCX := Lib.hid (cbox HM.out (THN.out w'))
                have HW := Lib.hid (KR.out.below HBW.out)
                clear HBW
                obtain ⟨c2, c3, c4⟩ := HCX.out
                clear HCX
                generalize ((w'.alloc (.cells #[.pointer none, .string ⟨#[]⟩, .int .u32 0, .int .u32 0, .int .u32 0, .int .u32 0, .int .u32 0, .int .u16 0, .int .u8 0, .int .u8 0] 52)).setCells w'.heap.size 0 M.toList) = Wf at HW c2 c3 c4 ⊢
                obtain ⟨z0, z1⟩ := HW.out.snap hlt HU0.out HU1.out
                have he2 : ∀ w, (binOp .neq 44 (.agg #[.int .u32 (lw (L1 (s, j))), .int .u32 (lv (L1 (s, j)))]) (.agg #[.int .u32 (lw (L1 (s, j))), .int .u32 (lv (L1 (s, j)))])).run Tryd.prog w = .ok (.bool false) w := fun w => by rw [neq_ref]; simp
                rw [HUSE.out] at c4
                go_wp2_with fail
                go_quiet (fail)
                go_wp2_with fail
                go_region_held3 (fun wS => wS.cell? ⟨w'.heap.size, 4, none⟩ = some (.int .u32 (at32 U l2 y)))
                  (first | exact c4 | assumption)
                  (first | (go_at_call 17; refine (get32 a5 l2 c5 y U _ (show Fsl (Wf.drewN (nq + 1)) a5 l2 _ from HW.out.2.2.2.2.2.1) b2 (by omega)).mono ?_; rintro e wT ⟨rfl, rfl⟩))
                go_wp2_with fail
                go_roundw
                case rel => exact ⟨y + 1, by omega, by go_num, Lib.hid (HW.out.below (by first | exact Below.refl _ _ | exact Qd.below_drewN (Below.refl _ _) _ | exact belD (Qd.below_drewN (Below.refl _ _) _)))⟩
                case measure => simp [intOf]; omega
              · have HBW := Lib.hid (show Below wr.heap.size wr (w'.setCells wr.heap.size 0 M.toList) from below_sets _ (Nat.le_refl _) _ _ hB2.out)
                have HCX := Lib.hid (cbox (b := wr.heap.size) HM.out (there_below (W := wr.drew.alloc (.cells _ _)) (THN.out wr.drew) hB.out (by simp)))
                have HW := Lib.hid (KR.out.below HBW.out)
                clear HBW
                obtain ⟨c2, c3, c4⟩ := HCX.out
                clear HCX
                generalize (w'.setCells wr.heap.size 0 M.toList) = Wf at HW c2 c3 c4 ⊢
                obtain ⟨z0, z1⟩ := HW.out.snap hlt HU0.out HU1.out
                have he2 : ∀ w, (binOp .neq 44 (.agg #[.int .u32 (lw (L1 (s, j))), .int .u32 (lv (L1 (s, j)))]) (.agg #[.int .u32 (lw (L1 (s, j))), .int .u32 (lv (L1 (s, j)))])).run Tryd.prog w = .ok (.bool false) w := fun w => by rw [neq_ref]; simp
                rw [HUSE.out] at c4
                go_wp2_with fail
                go_quiet (fail)
                go_wp2_with fail
                go_region_held3 (fun wS => wS.cell? ⟨wr.heap.size, 4, none⟩ = some (.int .u32 (at32 U l2 y)))
                  (first | exact c4 | assumption)
                  (first | (go_at_call 17; refine (get32 a5 l2 c5 y U _ (show Fsl (Wf.drewN (nq + 1)) a5 l2 _ from HW.out.2.2.2.2.2.1) b2 (by omega)).mono ?_; rintro e wT ⟨rfl, rfl⟩))
                go_wp2_with fail
                go_roundw
                case rel => exact ⟨y + 1, by omega, by go_num, Lib.hid (HW.out.below (by first | exact Below.refl _ _ | exact Qd.below_drewN (Below.refl _ _) _ | exact belD (Qd.below_drewN (Below.refl _ _) _)))⟩
                case measure => simp [intOf]; omega
            · obtain rfl : l1 = y := by omega
              go_wp2_with fail
              go_ret
              exact ⟨rfl, KR.out.low⟩
theorem walk (a0 : Option Addr) (len0 cap0 : Nat) (z0 : List Int) (a1 : Option Addr) (len1 cap1 : Nat) (z1 : List Int) (a2 : Option Addr) (len2 cap2 : Nat) (z2 : List Int) (w : World) (w0 : Aid.IsRow .u16 w a0 len0 cap0 z0) (w1 : Aid.IsRow .i32 w a1 len1 cap1 z1) (w2 : Aid.IsRow .u32 w a2 len2 cap2 z2) (hG : Gl w) :
    Calls Tryd.prog 3 #[.slice a0 len0 cap0, .slice a1 len1 cap1, .slice a2 len2 cap2] w fun e w' => e = .returned (.bool true) ∧ Below w.heap.size w w' := by
  obtain ⟨Z, hF0, hZ, m0, _⟩ := Fl.of_ints w0
  obtain ⟨S, hF1, hS, m1, _⟩ := Fl.of_ints w1
  obtain ⟨U, hF2, hU, m2, _⟩ := Fl.of_ints w2
  exact main a0 len0 cap0 Z a1 len1 cap1 S a2 len2 cap2 U w hF0 (fun i hi => Aid.u16_of (hZ i hi)) hF1 (fun i hi => Aid.i32_of (hS i hi)) hF2 (fun i hi => Aid.u32_of (hU i hi)) hG m0 m1 m2

def laid : List (String × DataW Unit) := [("github.com/evanw/esbuild/internal/ast.InvalidRef", Rows.laid_github_com_evanw_esbuild_internal_ast_InvalidRef)]
theorem gName : Tryd.prog.globalNamed "github.com/evanw/esbuild/internal/ast.InvalidRef" = some 0 := by kernel_rfl
theorem gType : (Tryd.prog.globals[0]?).map (·.type) = some 44 := by kernel_rfl
theorem glVar {W : World} (h : laidMet Tryd.prog laid W) : W.var? Tryd.prog "github.com/evanw/esbuild/internal/ast.InvalidRef" = some #[.int .u32 4294967295, .int .u32 4294967295] := by
  obtain ⟨g, t, cs, fuel, p, hg, ht, hv, hd⟩ := Lib.laidMet.reads h (.head _)
  obtain rfl := Option.some.inj (gName.symm.trans hg)
  obtain rfl := Option.some.inj (gType.symm.trans ht)
  have hc := Lib.ints_of_struct (k := .u32) (zs := [4294967295, 4294967295]) Tryd.underlying44 (fun i fd hi => by
    match i, hi with
    | 0, hi => cases hi; exact ⟨by kernel_rfl, rfl, by kernel_rfl⟩
    | 1, hi => cases hi; exact ⟨by kernel_rfl, rfl, by kernel_rfl⟩
    | n + 2, hi => simp at hi) (by kernel_rfl) hd
  rw [hv]
  obtain ⟨l⟩ := cs
  simp only at hc
  rw [hc]
  rfl
theorem gl_of {W : World} (h : laidMet Tryd.prog laid W) : Gl W := ⟨World.var?_cell gName (glVar h) 0, World.var?_cell gName (glVar h) 1⟩

set_option maxRecDepth 100000 in
theorem lifted (os : Os) (started : os.Started) (H : Type) (enc : TypeId × Value → H) :
    ReturnsInHanded {} Tryd.checked os 3 .any (fun w args => (Rows.fnFollowAllSymbolsLeavesNothingToWriteSpec.pre enc Tryd.prog Tryd.f3 [] false w args ∧ laidMetH Tryd.prog laid w) ∧ sizedMet enc Tryd.prog Tryd.f3 (OpenSpec.ofChange Rows.fnFollowAllSymbolsLeavesNothingToWriteSpec) false w args)
      (Rows.fnFollowAllSymbolsLeavesNothingToWriteSpec.post enc Tryd.prog Tryd.f3 false true false false) := by
  refine returnsInHanded_of_change_and (C := Tryd.checked) (X := fun w _ => laidMetH Tryd.prog laid w) (fun _ _ _ hh h => h.of_heap hh) own started (by kernel_rfl) Tryd.func3
    (ChangeSpec.witness_shaped (enc := enc) (C := Tryd.checked) (os := os) (X := fun w _ => laidMetH Tryd.prog laid w) false (World.laidAll Tryd.prog os laid) #[.slice none 0 0, .slice none 0 0, .slice none 0 0] 8 (World.laidAll_os _ _ _)
      (World.shaped_of_ZipB (by kernel_rfl) (by kernel_rfl)) (by kernel_rfl) (by kernel_rfl) (by kernel_rfl)
      (by rw [MakeChecks.laidMetH_plain _ _ _ (by kernel_rfl)]; exact laidMet_laidAll _ (by kernel_rfl) (by kernel_rfl))) ?_
  intro W base args ds gs before hval0 hW _ _ hL _
  have hval : ∀ (j : Nat) t v, Tryd.f3.params[j]? = some t → args[j]? = some v → Value.okWide Tryd.prog W .any base t v := hval0
  have hL' : laidMet Tryd.prog laid W := by rw [MakeChecks.laidMetH_plain _ _ _ (by kernel_rfl)] at hL; exact hL
  have hG := gl_of hL'
  have hW' := hW
  obtain ⟨p, q, hA0, hV, rfl, hfz, hnd⟩ := hW
  have hA : DataW.TrodAll enc Tryd.prog W 0 (fun _ => true) true Tryd.f3.params.toList args.toList ds p := hA0
  rw [Tryd.params3] at hA hval
  obtain ⟨v0, vs0, d0, ds0, p0, q0, hargs, rfl, rfl, h0, r0⟩ := trodAll_cons hA
  obtain ⟨v1, vs1, d1, ds1, p1, q1, rfl, rfl, rfl, h1, r1⟩ := trodAll_cons r0
  obtain ⟨v2, vs2, d2, ds2, p2, q2, rfl, rfl, rfl, h2, r2⟩ := trodAll_cons r1
  obtain ⟨rfl, rfl, rfl⟩ := trodAll_nil r2
  obtain rfl : args = #[v0, v1, v2] := by cases args; simp_all
  obtain ⟨g, t, cs, fuel, dg, pg, rfl, hg, ht, hcs, htr, rfl⟩ := trodVars_one hV
  obtain rfl := Option.some.inj (gName.symm.trans hg)
  obtain rfl := Option.some.inj (gType.symm.trans ht)
  obtain ⟨a0, len0, cap0, rfl⟩ := okWide_slice Tryd.underlying22 (hval 0 22 v0 rfl rfl)
  have k0 := h0
  have lt0 : ∀ x ∈ p0, x.block < W.heap.size := by obtain ⟨m, hm⟩ := k0; exact DataW.trod_lt m _ _ _ hm
  obtain ⟨z0, w0⟩ := Aid.open_row Tryd.underlying22 Tryd.underlying47 (by kernel_rfl) h0
  obtain ⟨a1, len1, cap1, rfl⟩ := okWide_slice Tryd.underlying23 (hval 1 23 v1 rfl rfl)
  have k1 := h1
  have lt1 : ∀ x ∈ p1, x.block < W.heap.size := by obtain ⟨m, hm⟩ := k1; exact DataW.trod_lt m _ _ _ hm
  obtain ⟨z1, w1⟩ := Aid.open_row Tryd.underlying23 Tryd.underlying21 (by kernel_rfl) h1
  obtain ⟨a2, len2, cap2, rfl⟩ := okWide_slice Tryd.underlying24 (hval 2 24 v2 rfl rfl)
  have k2 := h2
  have lt2 : ∀ x ∈ p2, x.block < W.heap.size := by obtain ⟨m, hm⟩ := k2; exact DataW.trod_lt m _ _ _ hm
  obtain ⟨z2, w2⟩ := Aid.open_row Tryd.underlying24 Tryd.underlying42 (by kernel_rfl) h2
  clear hA0 hval0
  refine (walk a0 len0 cap0 z0 a1 len1 cap1 z1 a2 len2 cap2 z2 W w0 w1 w2 hG).mono fun e W' ⟨he, bel⟩ => ?_
  subst he
  have hlv : ∀ x ∈ pg, x.block < W.heap.size := DataW.trod_lt _ _ _ _ htr
  obtain ⟨fuel', htr'⟩ := Below.trod laidOut (t := 44) (v := .agg cs) (by kernel_rfl) (of_decide_eq_true (by kernel_rfl)) ⟨fuel, htr⟩ bel hlv
  have hvar : W'.var? Tryd.prog "github.com/evanw/esbuild/internal/ast.InvalidRef" = some cs := by
    have h0 : (0 : Nat) < W.heap.size := Fl.lt_of_cell hG.1
    have hb := bel.block 0 h0
    simp only [World.var?, gName, Option.bind_some, hb] at hcs ⊢
    exact hcs
  exact ⟨_, rfl, _, _, _, [], _, _, hW', trodAll_mk1 (shut_bool Tryd.underlying4 _), (trodAll_cons_mk (Below.trod laidOut (by kernel_rfl) (of_decide_eq_true (by kernel_rfl)) k0 bel lt0) (trodAll_cons_mk (Below.trod laidOut (by kernel_rfl) (of_decide_eq_true (by kernel_rfl)) k1 bel lt1) (trodAll_cons_mk (Below.trod laidOut (by kernel_rfl) (of_decide_eq_true (by kernel_rfl)) k2 bel lt2) trodAll_mk0))), trodVars_mk1 gName gType hvar htr', bel.frame _, fun h => by cases h⟩
theorem over : Rows.FnFollowAllSymbolsLeavesNothingToWriteSaid :=
  OpenClaim.holds_of_wide 3 Tryd.f3 rfl rfl rfl rfl rfl rfl rfl ⟨rfl, rfl, rfl, rfl, rfl⟩ rfl rfl rfl rfl rfl (by kernel_rfl) Tryd.func3 (by kernel_rfl)
    (of_decide_eq_true (by kernel_rfl)) (by unfold Func.isWrapper; first | (rw [if_pos (by decide +kernel)]; kernel_rfl) | (rw [if_neg (by decide +kernel)]; exact ⟨rfl, rfl⟩))
    (fun os started H enc _ => lifted os started H enc)
theorem proved : Rows.FnFollowAllSymbolsLeavesNothingToWriteCardSaid :=
  Claim7.holds_tied_plain_at .later [] [.data] true (true, "f2ffdb14fd23fd0ab4f18750b411f141710a7744d61968e79c5cef3c36151c8f") false
    over (fun _ h => by cases h) (by kernel_rfl) (fun _ h => by cases h) fnFollowAllSymbolsLeavesNothingToWrite_row_tie rfl ⟨rfl, rfl⟩ (by kernel_rfl) rfl
    (fun f fn hf hfn => by
      obtain rfl : f = 3 := Option.some.inj ((show Tryd.prog.funcNamed "github.com/evanw/esbuild/n011_236.FnFollowAllSymbolsLeavesNothingToWrite" = some 3 by kernel_rfl).symm.trans hf) |>.symm
      obtain rfl : fn = Tryd.f3 := (Option.some.inj (Tryd.func3.symm.trans hfn)).symm
      exact ⟨by kernel_rfl, fun j t ht => by
        rw [Tryd.params3] at ht
        have hm : t ∈ [22, 23, 24] := by simpa using Array.mem_of_getElem? ht
        have hall : ([22, 23, 24].all fun u => !Tryd.prog.wantsStandIn u) = true := by kernel_rfl
        exact (show Tryd.prog.wantsStandIn t = false by simpa using List.all_eq_true.1 hall t hm)⟩)
    (by kernel_rfl)
#print axioms proved
end Go.Proofs.YtljkjogjnbconaaDoor.fnFollowAllSymbolsLeavesNothingToWrite
