/- Contracts of functions that the law of this seat reaches, and plain facts; no condition. -/
import Derived.Test.YtogacjjgfpkdfaaProg
import Derived.WalkKit
import Derived.ProofKit
import Derived.OpenShut
import Derived.ShutString
import Derived.Test.YtogacjjgfpkdfaaAid
import Derived.Test.YtogacjjgfpkdfaaFl
import Derived.Test.YtogacjjgfpkdfaaStr
import Derived.Test.YtogacjjgfpkdfaaPb
import Derived.Test.YtogacjjgfpkdfaaQd
import Derived.Test.YtogacjjgfpkdfaaAm
import Derived.Test.YtogacjjgfpkdfaaMp
import Derived.Test.YtogacjjgfpkdfaaG
import Derived.Test.YtogacjjgfpkdfaaAid
import Derived.Maps.RangeRun
import Derived.Carry
import Derived.Laws.IdiomRangeMap
import Derived.ArgAppend
import Derived.Maps.Own
import Derived.WalkSmall
import Derived.WalkSpells
import Derived.Laws.Externs
import Derived.WalkLawsBesides
import Derived.LoopTactic
import Derived.Deep.CutBlock
import Derived.Deep.DeepCutAuto
import Derived.IntWalk
import Derived.Outline
import Derived.Deep.QuietTactic
import Derived.BigQuiet
import Derived.RegionTactic
import Derived.Deep.RegionHeld3
import Derived.Deep.MidRow
import Derived.StillTailTactics
import Derived.BigRegion
import Derived.Laws.OwnMore
import Derived.Laws.Rows
namespace Go.Proofs.Ytogacjjgfpkdfaa.Aux
open Go.ChangeShapes Go.WideShapes Go.ChangeAt Go.RowKit
open Go.ChangeMaps (open_string shut_string)
set_option linter.unusedVariables false
set_option linter.unusedSimpArgs false
open Fl Str Pb Qd Am Mp PlainAid Aux
open Go.ChangeMaps
def Mb (w : World) (e : Ending) (w' : World) : Prop := ∃ t : Int, e = .returned (.int .i64 t) ∧ Hid (Below w.heap.size w w')
set_option maxRecDepth 100000 in
set_option maxHeartbeats 40000000 in
theorem bytes5 (a : Option Addr) (n cap : Nat) (M : Nat → MD) (w : World) (h : MsgsIn w a n M) (hn20 : n ≤ 1048576) (hnl : ∀ i, i < n → (M i).nl ≤ 1048576) : Calls Try.prog 5 #[.slice a n cap] w (Mb w) := by
  rcases Nat.eq_zero_or_pos n with h0 | hpos
  · subst h0
    clear h hn20 hnl
    go_enter Try.func5, Try.ntmps5
    go_wp2_with fail
    go_loopw [3, 4] (fun s3 s4 wr => s3 = .int .i64 0 ∧ s4 = .int .i64 0 ∧ wr = w) (fun _ _ _ => 0)
    case atStart => exact ⟨rfl, rfl, rfl⟩
    case round =>
      obtain ⟨rfl, rfl, rfl⟩ := hrel
      go_wp2_with fail
      go_ret
      exact ⟨_, rfl, Lib.hid (Below.refl _ _)⟩
  · obtain ⟨b, o, rfl, hA⟩ := MsgsIn.block h hpos
    have HA := Lib.hid hA
    have HNL := Lib.hid hnl
    clear hnl
    have hb : b < w.heap.size := by
      obtain ⟨_, _, hA0, _⟩ := hA 0 hpos
      exact At.lt hA0
    clear hA h
    go_enter Try.func5, Try.ntmps5
    go_wp2_with fail
    go_loopw [3, 4] (fun s3 s4 wr => ∃ (t : Int) (i : Nat), i ≤ n ∧ s3 = .int .i64 t ∧ s4 = .int .i64 i ∧ Hid (Below w.heap.size w wr)) (fun _ s4 _ => n - (intOf s4).toNat)
    case atStart => exact ⟨0, 0, by omega, rfl, rfl, Lib.hid (Below.refl _ _)⟩
    case round =>
      obtain ⟨t, i, hi, rfl, rfl, HB⟩ := hrel
      by_cases hlt : i < n
      · have hiz : (i : Int) < (n : Int) := by omega
        obtain ⟨na, nc, hA, hN⟩ := HA.out i hlt
        obtain ⟨m, hm⟩ : ∃ m, M i = m := ⟨_, rfl⟩
        have hnl := HNL.out i hlt
        rw [hm] at hA hN hnl
        obtain ⟨id, plug, text, ⟨p, ⟨file, ns, line, col, len, lt, sg⟩⟩, nl, nd⟩ := m
        have hC : ∀ j v, (MD.cells ⟨id, plug, text, ⟨p, ⟨file, ns, line, col, len, lt, sg⟩⟩, nl, nd⟩ na nc)[j]? = some v → wr.cell? ⟨b, o + i * 12 + j, none⟩ = some v := fun j v hj => (HB.out.cell (p := ⟨b, o + i * 12 + j, none⟩) hb).trans (hA j v hj)
        have c0 := hC 0 _ rfl
        rw [Nat.add_zero] at c0
        have c1 := hC 1 _ rfl
        have c2 := hC 2 _ rfl
        have c3 := hC 3 _ rfl
        have c4 := hC 4 _ rfl
        have c5 := hC 5 _ rfl
        have c6 := hC 6 _ rfl
        have c7 := hC 7 _ rfl
        have c8 := hC 8 _ rfl
        have c9 := hC 9 _ rfl
        have c10 := hC 10 _ rfl
        have c11 := hC 11 _ rfl
        have hnl20 : nl ≤ 1048576 := hnl
        clear hA hm hC hnl
        go_wp2_with fail
        obtain ⟨W, hW⟩ : ∃ W, wr.alloc (.cells (MD.cells ⟨id, plug, text, ⟨p, ⟨file, ns, line, col, len, lt, sg⟩⟩, nl, nd⟩ na nc).toArray 42) = W := ⟨_, rfl⟩
        have hrow : W.heap[wr.heap.size]? = some (.cells (MD.cells ⟨id, plug, text, ⟨p, ⟨file, ns, line, col, len, lt, sg⟩⟩, nl, nd⟩ na nc).toArray 42 (0, 0)) := by rw [← hW]; exact heap_alloc_new _ _
        have HAT : Hid (At W wr.heap.size 0 (MD.cells ⟨id, plug, text, ⟨p, ⟨file, ns, line, col, len, lt, sg⟩⟩, nl, nd⟩ na nc)) := Lib.hid fun j v hj => by
          rw [Nat.zero_add, cell_of_row _ _ j _ _ _ hrow]; simpa using hj
        have HBW : Hid (Below w.heap.size w W) := Lib.hid (by rw [← hW]; exact HB.out.alloc HB.out.size _)
        change Code.wp _ _ _ _ (wr.alloc (.cells (MD.cells ⟨id, plug, text, ⟨p, ⟨file, ns, line, col, len, lt, sg⟩⟩, nl, nd⟩ na nc).toArray 42))
        rw [hW]
        have hmW : wr.heap.size < W.heap.size := by rw [← hW]; simp
        clear hrow hW c0 c1 c2 c3 c4 c5 c6 c7 c8 c9 c10 c11
        obtain ⟨mb, hmb⟩ : ∃ mb, mb = wr.heap.size := ⟨_, rfl⟩
        rw [← hmb] at HAT hmW ⊢
        clear hmb
        have hC : ∀ j v, (MD.cells ⟨id, plug, text, ⟨p, ⟨file, ns, line, col, len, lt, sg⟩⟩, nl, nd⟩ na nc)[j]? = some v → W.cell? ⟨mb, j, none⟩ = some v := fun j v hj => by
          have := HAT.out j v hj
          rwa [Nat.zero_add] at this
        have HS0 : Hid ((fun w' : World => w'.cell? ⟨mb, 0, none⟩ = some (.string id) ∧ w'.cell? ⟨mb, 1, none⟩ = some (.string plug) ∧ w'.cell? ⟨mb, 2, none⟩ = some (.string text) ∧ w'.cell? ⟨mb, 3, none⟩ = some (.bool p) ∧ w'.cell? ⟨mb, 4, none⟩ = some (.string file) ∧ w'.cell? ⟨mb, 5, none⟩ = some (.string ns) ∧ w'.cell? ⟨mb, 6, none⟩ = some (.int .i64 line) ∧ w'.cell? ⟨mb, 7, none⟩ = some (.int .i64 col) ∧ w'.cell? ⟨mb, 8, none⟩ = some (.int .i64 len) ∧ w'.cell? ⟨mb, 9, none⟩ = some (.string lt) ∧ w'.cell? ⟨mb, 10, none⟩ = some (.string sg)) W) := Lib.hid ⟨hC 0 _ rfl, hC 1 _ rfl, hC 2 _ rfl, hC 3 _ rfl, hC 4 _ rfl, hC 5 _ rfl, hC 6 _ rfl, hC 7 _ rfl, hC 8 _ rfl, hC 9 _ rfl, hC 10 _ rfl⟩
        clear hC
        obtain ⟨s0, s1, s2, s3, s4, s5, s6, s7, s8, s9, s10⟩ := HS0.out
        go_region_held3 (fun w' => w'.cell? ⟨mb, 0, none⟩ = some (.string id) ∧ w'.cell? ⟨mb, 1, none⟩ = some (.string plug) ∧ w'.cell? ⟨mb, 2, none⟩ = some (.string text) ∧ w'.cell? ⟨mb, 3, none⟩ = some (.bool p) ∧ w'.cell? ⟨mb, 4, none⟩ = some (.string file) ∧ w'.cell? ⟨mb, 5, none⟩ = some (.string ns) ∧ w'.cell? ⟨mb, 6, none⟩ = some (.int .i64 line) ∧ w'.cell? ⟨mb, 7, none⟩ = some (.int .i64 col) ∧ w'.cell? ⟨mb, 8, none⟩ = some (.int .i64 len) ∧ w'.cell? ⟨mb, 9, none⟩ = some (.string lt) ∧ w'.cell? ⟨mb, 10, none⟩ = some (.string sg))
          (first | exact ⟨s0, s1, s2, s3, s4, s5, s6, s7, s8, s9, s10⟩ | exact HS3.out | assumption)
          ((go_at_call 10
            refine (locBytes10 ⟨p, ⟨file, ns, line, col, len, lt, sg⟩⟩ _).mono ?_
            rintro e w3 ⟨q, rfl, hb3⟩
            have HS3 : Hid ((fun w' : World => w'.cell? ⟨mb, 0, none⟩ = some (.string id) ∧ w'.cell? ⟨mb, 1, none⟩ = some (.string plug) ∧ w'.cell? ⟨mb, 2, none⟩ = some (.string text) ∧ w'.cell? ⟨mb, 3, none⟩ = some (.bool p) ∧ w'.cell? ⟨mb, 4, none⟩ = some (.string file) ∧ w'.cell? ⟨mb, 5, none⟩ = some (.string ns) ∧ w'.cell? ⟨mb, 6, none⟩ = some (.int .i64 line) ∧ w'.cell? ⟨mb, 7, none⟩ = some (.int .i64 col) ∧ w'.cell? ⟨mb, 8, none⟩ = some (.int .i64 len) ∧ w'.cell? ⟨mb, 9, none⟩ = some (.string lt) ∧ w'.cell? ⟨mb, 10, none⟩ = some (.string sg)) w3) := Lib.hid ⟨(hb3.out.cell (p := ⟨mb, 0, none⟩) (by simpa using hmW)).trans s0, (hb3.out.cell (p := ⟨mb, 1, none⟩) (by simpa using hmW)).trans s1, (hb3.out.cell (p := ⟨mb, 2, none⟩) (by simpa using hmW)).trans s2, (hb3.out.cell (p := ⟨mb, 3, none⟩) (by simpa using hmW)).trans s3, (hb3.out.cell (p := ⟨mb, 4, none⟩) (by simpa using hmW)).trans s4, (hb3.out.cell (p := ⟨mb, 5, none⟩) (by simpa using hmW)).trans s5, (hb3.out.cell (p := ⟨mb, 6, none⟩) (by simpa using hmW)).trans s6, (hb3.out.cell (p := ⟨mb, 7, none⟩) (by simpa using hmW)).trans s7, (hb3.out.cell (p := ⟨mb, 8, none⟩) (by simpa using hmW)).trans s8, (hb3.out.cell (p := ⟨mb, 9, none⟩) (by simpa using hmW)).trans s9, (hb3.out.cell (p := ⟨mb, 10, none⟩) (by simpa using hmW)).trans s10⟩
            have HB3 := Lib.hid (HBW.out.trans ((below_of_drew hb3.out).mono (by have := HBW.out.size; simpa using this)))))
        go_wp2_with fail
        all_goals try (go_ret; exact ⟨_, rfl, HB3⟩)
        obtain ⟨b2, o2, hNA⟩ : ∃ b2 o2, Hid (0 < nl → na = some ⟨b2, o2, none⟩ ∧ b2 < w.heap.size ∧ ∀ j, j < nl → At w b2 (o2 + j * 9) (nd j).cells) := by
          rcases Nat.eq_zero_or_pos nl with hz | hp
          · exact ⟨0, 0, Lib.hid fun h => by omega⟩
          · obtain ⟨b2, o2, e, hA2⟩ := NotesIn.block hN hp
            exact ⟨b2, o2, Lib.hid fun _ => ⟨e, At.lt (hA2 0 hp), hA2⟩⟩
        clear hN
        have HC11 : Hid (w3.cell? ⟨mb, 11, none⟩ = some (.slice na nl nc)) := Lib.hid (by
          have h1 := HAT.out 11 _ rfl
          rw [Nat.zero_add] at h1
          exact (hb3.out.cell (p := ⟨mb, 11, none⟩) (by simpa using hmW)).trans h1)
        go_loopw [3, 6] (fun s3 s6 w2 => ∃ (t2 : Int) (j : Nat), j ≤ nl ∧ s3 = .int .i64 t2 ∧ s6 = .int .i64 j ∧ Hid (Below w.heap.size w w2 ∧ w2.cell? ⟨mb, 11, none⟩ = some (.slice na nl nc) ∧ mb < w2.heap.size)) (fun _ s6 _ => nl - (intOf s6).toNat)
        case atStart => exact ⟨_, 0, by omega, rfl, rfl, Lib.hid ⟨HB3.out, HC11.out, by have := hb3.out.size; simp at this; omega⟩⟩
        case round =>
          obtain ⟨t2, j, hj, rfl, rfl, HH⟩ := hrel
          obtain ⟨hB2, c11, hmb2⟩ := HH.out
          by_cases hjl : j < nl
          · have hjz : (j : Int) < (nl : Int) := by omega
            obtain ⟨hna, hb2, hA2⟩ := hNA.out (by omega)
            have hB := hA2 j hjl
            obtain ⟨x, hx⟩ : ∃ x, nd j = x := ⟨_, rfl⟩
            rw [hx] at hB
            obtain ⟨text2, ⟨p2, ⟨file2, ns2, line2, col2, len2, lt2, sg2⟩⟩⟩ := x
            rw [hna] at c11
            have hC : ∀ k v, (NoteD.cells ⟨text2, ⟨p2, ⟨file2, ns2, line2, col2, len2, lt2, sg2⟩⟩⟩)[k]? = some v → wr.cell? ⟨b2, o2 + j * 9 + k, none⟩ = some v := fun k v hk => (hB2.cell (p := ⟨b2, o2 + j * 9 + k, none⟩) hb2).trans (hB k v hk)
            have d0 := hC 0 _ rfl
            rw [Nat.add_zero] at d0
            have HS4 : Hid ((fun w' : World => w'.cell? ⟨mb, 11, none⟩ = some (.slice (some ⟨b2, o2, none⟩) nl nc) ∧ w'.cell? ⟨b2, o2 + j * 9, none⟩ = some (.string text2) ∧ w'.cell? ⟨b2, o2 + j * 9 + 1, none⟩ = some (.bool p2) ∧ w'.cell? ⟨b2, o2 + j * 9 + 2, none⟩ = some (.string file2) ∧ w'.cell? ⟨b2, o2 + j * 9 + 3, none⟩ = some (.string ns2) ∧ w'.cell? ⟨b2, o2 + j * 9 + 4, none⟩ = some (.int .i64 line2) ∧ w'.cell? ⟨b2, o2 + j * 9 + 5, none⟩ = some (.int .i64 col2) ∧ w'.cell? ⟨b2, o2 + j * 9 + 6, none⟩ = some (.int .i64 len2) ∧ w'.cell? ⟨b2, o2 + j * 9 + 7, none⟩ = some (.string lt2) ∧ w'.cell? ⟨b2, o2 + j * 9 + 8, none⟩ = some (.string sg2)) wr) := Lib.hid ⟨c11, d0, hC 1 _ rfl, hC 2 _ rfl, hC 3 _ rfl, hC 4 _ rfl, hC 5 _ rfl, hC 6 _ rfl, hC 7 _ rfl, hC 8 _ rfl⟩
            have HB4 := Lib.hid hB2
            have hb2s : b2 < wr.heap.size := by have := hB2.size; omega
            clear hna hA2 hB hx hC d0 c11 HH hB2
            obtain ⟨s0, s1, s2, s3, s4, s5, s6, s7, s8, s9⟩ := HS4.out
            go_wp2_with fail
            go_region_held3 (fun w' => w'.cell? ⟨mb, 11, none⟩ = some (.slice (some ⟨b2, o2, none⟩) nl nc) ∧ w'.cell? ⟨b2, o2 + j * 9, none⟩ = some (.string text2) ∧ w'.cell? ⟨b2, o2 + j * 9 + 1, none⟩ = some (.bool p2) ∧ w'.cell? ⟨b2, o2 + j * 9 + 2, none⟩ = some (.string file2) ∧ w'.cell? ⟨b2, o2 + j * 9 + 3, none⟩ = some (.string ns2) ∧ w'.cell? ⟨b2, o2 + j * 9 + 4, none⟩ = some (.int .i64 line2) ∧ w'.cell? ⟨b2, o2 + j * 9 + 5, none⟩ = some (.int .i64 col2) ∧ w'.cell? ⟨b2, o2 + j * 9 + 6, none⟩ = some (.int .i64 len2) ∧ w'.cell? ⟨b2, o2 + j * 9 + 7, none⟩ = some (.string lt2) ∧ w'.cell? ⟨b2, o2 + j * 9 + 8, none⟩ = some (.string sg2))
              (first | exact ⟨s0, s1, s2, s3, s4, s5, s6, s7, s8, s9⟩ | exact HS5.out | assumption)
              ((go_at_call 10
                refine (locBytes10 ⟨p2, ⟨file2, ns2, line2, col2, len2, lt2, sg2⟩⟩ _).mono ?_
                rintro e w5 ⟨q2, rfl, hb5⟩
                have HS5 : Hid ((fun w' : World => w'.cell? ⟨mb, 11, none⟩ = some (.slice (some ⟨b2, o2, none⟩) nl nc) ∧ w'.cell? ⟨b2, o2 + j * 9, none⟩ = some (.string text2) ∧ w'.cell? ⟨b2, o2 + j * 9 + 1, none⟩ = some (.bool p2) ∧ w'.cell? ⟨b2, o2 + j * 9 + 2, none⟩ = some (.string file2) ∧ w'.cell? ⟨b2, o2 + j * 9 + 3, none⟩ = some (.string ns2) ∧ w'.cell? ⟨b2, o2 + j * 9 + 4, none⟩ = some (.int .i64 line2) ∧ w'.cell? ⟨b2, o2 + j * 9 + 5, none⟩ = some (.int .i64 col2) ∧ w'.cell? ⟨b2, o2 + j * 9 + 6, none⟩ = some (.int .i64 len2) ∧ w'.cell? ⟨b2, o2 + j * 9 + 7, none⟩ = some (.string lt2) ∧ w'.cell? ⟨b2, o2 + j * 9 + 8, none⟩ = some (.string sg2)) w5) := Lib.hid ⟨(hb5.out.cell (p := ⟨mb, 11, none⟩) (by simpa using hmb2)).trans s0, (hb5.out.cell (p := ⟨b2, o2 + j * 9, none⟩) (by simpa using hb2s)).trans s1, (hb5.out.cell (p := ⟨b2, o2 + j * 9 + 1, none⟩) (by simpa using hb2s)).trans s2, (hb5.out.cell (p := ⟨b2, o2 + j * 9 + 2, none⟩) (by simpa using hb2s)).trans s3, (hb5.out.cell (p := ⟨b2, o2 + j * 9 + 3, none⟩) (by simpa using hb2s)).trans s4, (hb5.out.cell (p := ⟨b2, o2 + j * 9 + 4, none⟩) (by simpa using hb2s)).trans s5, (hb5.out.cell (p := ⟨b2, o2 + j * 9 + 5, none⟩) (by simpa using hb2s)).trans s6, (hb5.out.cell (p := ⟨b2, o2 + j * 9 + 6, none⟩) (by simpa using hb2s)).trans s7, (hb5.out.cell (p := ⟨b2, o2 + j * 9 + 7, none⟩) (by simpa using hb2s)).trans s8, (hb5.out.cell (p := ⟨b2, o2 + j * 9 + 8, none⟩) (by simpa using hb2s)).trans s9⟩
                have HB5 := Lib.hid (HB4.out.trans ((below_of_drew hb5.out).mono (by have := HB4.out.size; simpa using this)))
                have hsz5 := hb5.out.size))
            go_wp2_with fail
            all_goals try (go_ret; exact ⟨_, rfl, HB5⟩)
            go_roundw
            case rel => exact ⟨_, j + 1, by omega, rfl, by go_num, Lib.hid ⟨HB5.out, (hb5.out.cell (p := ⟨mb, 11, none⟩) (by simpa using hmb2)).trans ((by rw [(hNA.out (by omega)).1]; exact s0)), by simp at hsz5; omega⟩⟩
            case measure => simp [intOf]; omega
          · have hjz : ¬ (j : Int) < (nl : Int) := by omega
            go_wp2_with fail
            go_roundw
            case rel => exact ⟨t2, i + 1, by omega, rfl, by go_num, Lib.hid hB2⟩
            case measure => simp [intOf]; omega
      · have hiz : ¬ (i : Int) < (n : Int) := by omega
        go_wp2_with fail
        go_ret
        exact ⟨_, rfl, HB⟩
end Go.Proofs.Ytogacjjgfpkdfaa.Aux
