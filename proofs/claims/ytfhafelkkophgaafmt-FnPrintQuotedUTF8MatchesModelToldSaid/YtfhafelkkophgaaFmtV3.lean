/- Contracts of functions that the law of this seat reaches, and plain facts; no condition. -/
import Derived.Test.YtfhafelkkophgaaFmtProg
import Derived.WalkKit
import Derived.ProofKit
import Derived.OpenShut
import Derived.ShutString
import Derived.Test.YtfhafelkkophgaaFmtAid
import Derived.Test.YtfhafelkkophgaaFmtV2
import Derived.ArgAppend
import Derived.WalkSmall
import Derived.Lib.OthersKept
import Derived.Laws.RangeAny
import Derived.Laws.OwnMore
import Derived.WalkSpells
import Derived.LoopTactic
import Derived.IntWalk
import Derived.Outline
import Derived.Deep.QuietTactic
import Derived.BigQuiet
import Derived.Deep.RegionHeld3
import Derived.Deep.RegionLaw
import Derived.StillTailTactics
import Derived.OwnWalk
import Derived.RegionTactic
import Derived.Laws.BitsAllLaws
import Derived.Laws.BitsLemmas
import Derived.Lib.ConvBytes
namespace Go.Proofs.YtfhafelkkophgaaFmt.Aux
open Go.ChangeShapes Go.WideShapes Go.ChangeAt Go.RowKit
open Go.ChangeMaps (open_string shut_string)
set_option linter.unusedVariables false
set_option linter.unusedSimpArgs false
open Fl Str Pb Qd PlainAid Aux
theorem u16_info : (Tryf.prog.info? 27).map (fun i => (i.zero, i.size, i.bytes)) = some (some (.int .u16 0), 1, 2) := by kernel_rfl
theorem mk16 (c : Nat) (hc : c ≤ 16777216) (w : World) : (Instr.makeSlice 22 (.int .i64 0) (.int .i64 c)).run Tryf.prog w = .ok (.slice (some ⟨w.heap.size, 0, none⟩) 0 c) (w.alloc (.cells (madeCells #[.int .u16 0] c) 27)) := by
  obtain ⟨i0, hi, hz0, hz1, hz2⟩ := info_parts u16_info
  have h := run_make (P := Tryf.prog) w 22 27 i0 _ Tryf.underlying22 hi hz0 .i64 .i64 0 (c : Int) (Int.le_refl _) (by omega) (by rw [hz2]; omega) (by omega)
  rw [hz1] at h
  simpa [Value.cells] using h
/-- Where the writer of units stands. -/
def UW (w : World) (s : ByteArray) (wr : World) (i : Nat) (v : Value) (xs : List Int) : Prop :=
  v = .slice (some ⟨w.heap.size, 0, none⟩) xs.length s.size ∧ wr.ownsRow w.heap.size 27 1 v xs.length (xs.map (.int .u16)) ∧ wr.heap[w.heap.size + 1]? = some (.stringIter s i) ∧ Below w.heap.size w wr ∧ xs.length ≤ i
theorem UW.start (w : World) (s : ByteArray) (hs : s.size ≤ 16777216) : UW w s ((w.alloc (.cells (madeCells #[.int .u16 0] s.size) 27)).iter s 0) 0 (.slice (some ⟨w.heap.size, 0, none⟩) 0 s.size) [] := by
  refine ⟨rfl, ?_, ?_, ?_, Nat.le_refl _⟩
  · refine World.ownsRow.alloc ?_ _
    exact ⟨rfl, .inr ⟨w.heap.size, s.size, _, rfl, Nat.le_refl _, heap_alloc_new _ _, Nat.zero_le _, by unfold maxLen; omega, by rw [size_madeCells]; simp, by simp⟩⟩
  · have := World.iter_heap (w.alloc (.cells (madeCells #[.int .u16 0] s.size) 27)) s 0
    simpa using this
  · exact ((Below.refl _ w).alloc (Nat.le_refl _) _).alloc (by simp) _
theorem owns_iterAt {w : World} {base : Nat} {e : TypeId} {size : Nat} {v : Value} {n : Nat} {xs : List Value} (h : w.ownsRow base e size v n xs) {k : Nat} (hk : v.ownBlock ≠ some k) (s : ByteArray) (p : Nat) : (w.iterAt k s p).ownsRow base e size v n xs := by
  obtain ⟨h1, h2⟩ := h
  refine ⟨h1, ?_⟩
  rcases h2 with h2 | ⟨g, cap, cur, a, b, c, d⟩
  · exact .inl h2
  · refine .inr ⟨g, cap, cur, a, b, ?_, d⟩
    rw [Lib.iterAt_other _ _ _ _ _ (fun e => hk (by rw [a]; simp [Value.ownBlock, e]))]
    exact c
theorem UW.next {w wr : World} {s : ByteArray} {i : Nat} {v : Value} {xs : List Int} (h : UW w s wr i v xs) (m : Nat) : UW w s (wr.iterAt (w.heap.size + 1) s (i + m)) (i + m) v xs := by
  obtain ⟨e, o, it, b, l⟩ := h
  refine ⟨e, owns_iterAt o (by rw [e]; simp [Value.ownBlock]) _ _, Lib.iterAt_heap _ _ _ _ _ it, Lib.below_iterAt b (by omega) _ _, by omega⟩
theorem UW.app {w wr : World} {s : ByteArray} {i : Nat} {v : Value} {xs : List Int} (h : UW w s wr i v xs) (news : List Int) (hl : xs.length + news.length ≤ i) (hi : i ≤ s.size) (C : Array Value) (hC : C.toList = news.map (.int .u16)) (l : Nat) (hll : news.length = l) :
    ∃ v' w', (Builtin.append_ #[22, 22] 22 #[v, .slice (some ⟨wr.heap.size, 0, none⟩) l l]).run Tryf.prog (wr.alloc (.cells C 27)) = .ok v' w' ∧ UW w s w' i v' (xs ++ news) := by
  obtain ⟨e, o, it, b, l2⟩ := h
  subst e; subst hll
  obtain ⟨i0, hi0, hz0, hz1, hz2⟩ := info_parts u16_info
  have hsz := b.size
  have hits : w.heap.size + 1 < wr.heap.size := (Array.getElem?_eq_some_iff.1 it).1
  obtain ⟨w', hr, h2, h3⟩ := run_append_fits (P := Tryf.prog) (wr.alloc (.cells C 27)) w.heap.size 22 22 27 i0 1 Tryf.underlying22 hi0 hz1 w.heap.size xs.length s.size (xs.map (.int .u16)) (o.alloc _) ⟨wr.heap.size, 0, none⟩ news.length news.length (news.map (.int .u16)) (by simp) (by
      intro j u hu
      have e : (⟨wr.heap.size, 0, none⟩ : Addr).add j = ⟨wr.heap.size, j, none⟩ := by unfold Addr.add; split <;> simp_all
      rw [e, cell_of_row _ _ j _ _ _ (heap_alloc_new _ _), ← Array.getElem?_toList, hC]
      exact hu) (by intro u hu; simp at hu; obtain ⟨x, _, rfl⟩ := hu; rfl) (by omega)
  refine ⟨_, w', hr, by simp, ?_, ?_, ?_, by simp; omega⟩
  · simpa using h2
  · rw [h3.block _ (by simp; omega) (by simp), Below.heap_alloc _ _ _ hits]
    exact it
  · refine (b.alloc hsz (.cells C 27)).trans ⟨h3.os, h3.tape, h3.output, h3.size, fun i hi' => h3.block i (by simp; omega) fun e => ?_⟩
    injection e with e
    omega
/-- What StringToUTF16 hands back. -/
def U36 (w : World) (s : ByteArray) (R : List Int) (e : Ending) (w' : World) : Prop :=
  e = .returned (.slice (some ⟨w.heap.size, 0, none⟩) (u16s R).length s.size) ∧ Hid (Fsl w' (some ⟨w.heap.size, 0, none⟩) (u16s R).length (fun i => .int .u16 ((u16s R).getD i 0))) ∧ (u16s R).length ≤ s.size ∧ Hid (Below w.heap.size w w') ∧ w.heap.size < w'.heap.size
theorem UW.fin {w wr : World} {s : ByteArray} {i : Nat} {v : Value} {R : List Int} (h : UW w s wr i v (u16s R)) (hi : i ≤ s.size) : U36 w s R (.returned v) wr := by
  obtain ⟨e, o, it, b, l⟩ := h
  subst e
  refine ⟨rfl, Lib.hid ⟨(fun e => by cases e), fun j hj => ?_⟩, by omega, Lib.hid b, by have := (Array.getElem?_eq_some_iff.1 it).1; omega⟩
  obtain ⟨_, h2⟩ := o
  rcases h2 with ⟨h2, _⟩ | ⟨g, cap, cur, a, _, hg, _, _, _, ht⟩
  · cases h2
  · injection a with a1 a2 a3
    injection a1 with a1
    injection a1 with a1 _ _
    subst a1
    have hc : cur[j]? = some (.int .u16 ((u16s R).getD j 0)) := by
      have h3 : (cur.toList.take ((u16s R).length * 1))[j]? = ((u16s R).map (Value.int .u16))[j]? := by rw [ht]
      rw [List.getElem?_take, if_pos (by omega)] at h3
      rw [← Array.getElem?_toList, h3]
      simp [List.getD, List.getElem?_eq_getElem hj]
    exact ⟨_, 0, rfl, (Array.getElem?_eq_some_iff.1 hg).1, by rw [cell_of_row _ _ _ _ _ _ hg, Nat.zero_add]; exact hc⟩
theorem u16r_len (r : Int) : 1 ≤ (u16r r).length ∧ (u16r r).length ≤ 2 ∧ ((u16r r).length = 2 → 65535 < r) := by
  unfold u16r
  split <;> simp; omega
set_option maxRecDepth 100000 in
set_option maxHeartbeats 8000000 in
theorem units36 (s : ByteArray) (hs : s.size ≤ 16777216) (R : List Int) (hR : Chn s 0 R) (w : World) : Calls Tryf.prog 36 #[.string s] w (U36 w s R) := by
  have hm := mk16 s.size (by omega)
  have HS := Lib.hid (UW.start w s hs)
  have HR := Lib.hid hR
  clear hR
  go_enter Tryf.func36, Tryf.ntmps36
  go_wp2_with fail
  go_loopw [3] (fun d wr => ∃ (i : Nat) (Rd Rt : List Int), Hid (R = Rd ++ Rt) ∧ Hid (Chn s i Rt) ∧ Hid (UW w s wr i d (u16s Rd))) (fun _ wr => s.size - wr.iterPos (w.heap.size + 1))
  case atStart => exact ⟨0, [], R, Lib.hid rfl, HR, HS⟩
  case round =>
    obtain ⟨i, Rd, Rt, HE, HC, HU⟩ := hrel
    have hit := HU.out.2.2.1
    rcases chn_cases HC.out with ⟨ei, er⟩ | ⟨r, m, R', er, hd, hc2, hlt⟩
    · have hnx := fun ty => Lib.run_next_end_at (P := Tryf.prog) wr (w.heap.size + 1) s i ty hit (by omega)
      clear hit
      go_wp2_with fail
      go_ret
      have : R = Rd := by rw [HE.out, er, List.append_nil]
      rw [this]
      exact HU.out.fin (by omega)
    · have hnx := fun ty => Lib.run_next_any_at (P := Tryf.prog) wr (w.heap.size + 1) s i ty hit hlt
      obtain ⟨d1, d2⟩ := dv_decode hd
      simp only [d1, d2] at hnx
      have hp := iterPos_of hit
      have HU2 := Lib.hid (HU.out.next m)
      obtain ⟨l1, l2, l3, l4⟩ := dv_lt hd
      obtain ⟨r0, r1, r2, r3, r4, r5⟩ := dv_r hd
      have HE2 : Hid (R = (Rd ++ [r]) ++ R') := Lib.hid (by rw [HE.out, er, List.append_assoc]; rfl)
      have hl := HU.out.2.2.2.2
      have HC2 := Lib.hid hc2
      clear hit d1 d2 hc2 hd er
      by_cases hb : r ≤ 65535
      · have hw16 : IntKind.u16.wrap r = r := IntWalk.u16_in _ (by omega)
        have HA := Lib.hid (HU2.out.app [r] (by simp; omega) (by omega) #[.int .u16 r] rfl 1 rfl)
        have hu : u16s (Rd ++ [r]) = u16s Rd ++ [r] := by rw [u16s_app]; simp [u16s, u16r, hb]
        have HUU := Lib.hid hu
        clear hu
        go_wp2_with (at_builtin; refine wpList_app rfl _ _ #[22, 22] rfl rfl rfl HA.out ?_; intro v' w1 hcn; have HN := Lib.hid hcn; clear hcn)
        go_roundw
        case rel => exact ⟨i + m, Rd ++ [r], R', HE2, HC2, Lib.hid (by rw [HUU.out]; exact HN.out)⟩
        case measure => rw [iterPos_of HN.out.2.2.1, hp]; omega
      · have a1 : bits .and .i32 ((r - 65536) / 1024) 1023 = (r - 65536) / 1024 := by rw [i32_and1023 _ (by omega) (by omega)]; omega
        have a2 : bits .and .i32 (r - 65536) 1023 = (r - 65536) % 1024 := by rw [i32_and1023 _ (by omega) (by omega)]
        have HA := Lib.hid (HU2.out.app [55296 + (r - 65536) / 1024, 56320 + (r - 65536) % 1024] (by simp; omega) (by omega) #[.int .u16 (55296 + (r - 65536) / 1024), .int .u16 (56320 + (r - 65536) % 1024)] rfl 2 rfl)
        have hu : u16s (Rd ++ [r]) = u16s Rd ++ [55296 + (r - 65536) / 1024, 56320 + (r - 65536) % 1024] := by rw [u16s_app]; simp [u16s, u16r, hb]
        have HUU := Lib.hid hu
        clear hu
        go_wp2_with (at_builtin; refine wpList_app rfl _ _ #[22, 22] rfl rfl rfl HA.out ?_; intro v' w1 hcn; have HN := Lib.hid hcn; clear hcn)
        go_roundw
        case rel => exact ⟨i + m, Rd ++ [r], R', HE2, HC2, Lib.hid (by rw [HUU.out]; exact HN.out)⟩
        case measure => rw [iterPos_of HN.out.2.2.1, hp]; omega
end Go.Proofs.YtfhafelkkophgaaFmt.Aux
