/- Contracts of functions that the law of this seat reaches, and plain facts; no condition. -/
import Derived.Test.YtpnhldglcnmhdaaFmtProg
import Derived.WalkKit
import Derived.ProofKit
import Derived.OpenShut
import Derived.ShutString
import Derived.Test.YtpnhldglcnmhdaaFmtAid
import Derived.Test.YtpnhldglcnmhdaaFmtFl
import Derived.Test.YtpnhldglcnmhdaaFmtE
import Derived.Test.YtpnhldglcnmhdaaFmtStr
import Derived.Test.YtpnhldglcnmhdaaFmtPb
import Derived.Test.YtpnhldglcnmhdaaFmtQd
import Derived.ArgAppend
import Derived.WalkSmall
import Derived.Lib.OthersKept
import Derived.Laws.RangeAny
import Derived.Laws.OwnMore
import Derived.WalkSpells
import Derived.LoopTactic
import Derived.IntWalk
import Derived.Outline
import Derived.Deep.QuietTactic
import Derived.BigQuiet
import Derived.Deep.RegionHeld3
import Derived.Deep.RegionLaw
import Derived.StillTailTactics
import Derived.OwnWalk
import Derived.RegionTactic
import Derived.Laws.BitsAllLaws
import Derived.Laws.BitsLemmas
import Derived.Lib.ConvBytes
import Derived.Lib.RuneBytes
import Derived.Maps.Own
namespace Go.Proofs.YtpnhldglcnmhdaaFmt.Aux
open Go.ChangeShapes Go.WideShapes Go.ChangeAt Go.RowKit
open Go.ChangeMaps (open_string shut_string)
set_option linter.unusedVariables false
set_option linter.unusedSimpArgs false
open Fl Str Pb Qd PlainAid Aux
/-- What printIdentifier leaves. -/
def Pi (w : World) (p : Nat) (R : List Int) (e : Ending) (w' : World) : Prop := e = .returned (.tuple #[]) ∧ ∃ ja jc, w'.cell? ⟨p, 9, none⟩ = some (.slice ja (ER R).length jc) ∧ Hid (OW w' (p + 1) (.slice ja (ER R).length jc) (ER R)) ∧ Hid (Below p w w')
theorem pi_fin {w w1 : World} {p : Nat} {R : List Int} {v u : Value} (hp : p < w.heap.size) (h : OW w1 (w.heap.size + 1) v (ER R)) (hb : Below w.heap.size w w1) (hc : w1.cell? ⟨p, 9, none⟩ = some u) : Pi w p R (.returned (.tuple #[])) (w1.setCell ⟨p, 9, none⟩ v) := by
  obtain ⟨ja, jc, rfl⟩ := ow_slice h
  refine ⟨rfl, ja, jc, ?_, Lib.hid ?_, Lib.hid ((hb.mono (Nat.le_of_lt hp)).setCell (Nat.le_refl _) _)⟩
  · exact World.cell?_setCell_same _ _ _ (by rw [hc])
  · have h2 : OW (w1.setCell ⟨p, 9, none⟩ (.slice ja (ER R).length jc)) (w.heap.size + 1) (.slice ja (ER R).length jc) (ER R) := (Chg.setCell (S := fun k => k = p) (Chg.refl _ w1) (p := ⟨p, 9, none⟩) (.inl rfl) _).owns h fun k hk e => by
      have := (World.ownsRow.lt h k hk).1
      omega
    obtain ⟨a1, a2⟩ := h2
    refine ⟨a1, ?_⟩
    rcases a2 with a2 | ⟨g, cap, cur, e1, e2, e3⟩
    · exact .inl a2
    · exact .inr ⟨g, cap, cur, e1, by omega, e3⟩
set_option maxRecDepth 100000 in
set_option maxHeartbeats 8000000 in
theorem pr11 (p : Nat) (s : ByteArray) (hs : s.size ≤ 16777216) (R : List Int) (hR : Chn s 0 R) (hk : Ok R) (w : World) (h : PS w p (.slice none 0 0)) : Calls Tryf.prog 11 #[.pointer (some ⟨p, 0, none⟩), .string s] w (Pi w p R) := by
  obtain ⟨c9, f9, c24, c31⟩ := h
  have hp : p < w.heap.size := World.block_lt_of_cell? w _ c9
  have HQ := Lib.hid (quote12 s hs R hR hk 0 w.drew)
  have HF := Lib.hid (fun (w1 : World) (v u : Value) (h1 : OW w1 (w.drew.heap.size + 1) v (ER R)) (hb : Below w.drew.heap.size w.drew w1) (hc : w1.cell? ⟨p, 9, none⟩ = some u) => pi_fin (w := w) hp h1 (below_of_drew hb) hc)
  have C9 := Lib.hid c9
  have F9 := Lib.hid f9
  clear hR hk
  go_enter Tryf.func11, Tryf.ntmps11
  go_wp2_with fail
  refine wp_region_any (by kernel_rfl) ?_
  try (change wpAny _ _ _ _ _ _ _ (World.drew _))
  refine wpAny_take (i := 0) (v := .pointer (some ⟨p, 0, none⟩)) rfl (by kernel_rfl) (by kernel_rfl) (by kernel_rfl) (fun _ _ _ h => h) (Or.inl ⟨by rfl, fun w => by go_simp⟩) ?_
  refine wpAny_take (i := 1) (v := .pointer (some ⟨p, 0, none⟩)) rfl (by kernel_rfl) (by kernel_rfl) (by kernel_rfl) (fun _ _ _ h => h) (Or.inl ⟨by rfl, fun w => by go_simp⟩) ?_
  refine wpAny_take (i := 2) (v := .pointer (some ⟨p, 0, none⟩)) rfl (by kernel_rfl) (by kernel_rfl) (by kernel_rfl) (fun _ _ _ h => h) (Or.inl ⟨by rfl, fun w => by go_simp⟩) ?_
  refine wpAny_take (i := 3) (v := .pointer (some ⟨p, 9, none⟩)) rfl (by kernel_rfl) (by kernel_rfl) (by kernel_rfl) (fun _ _ _ h => h) (Or.inl ⟨by rfl, fun w => by go_simp⟩) ?_
  refine wpAny_take (i := 5) (v := .string s) rfl (by kernel_rfl) (by kernel_rfl) (by kernel_rfl) (fun _ _ _ h => h) (Or.inl ⟨by rfl, fun w => by go_simp⟩) ?_
  refine wpAny_take (i := 6) (v := .pointer (some ⟨p, 0, none⟩)) rfl (by kernel_rfl) (by kernel_rfl) (by kernel_rfl) (fun _ _ _ h => h) (Or.inl ⟨by rfl, fun w => by go_simp⟩) ?_
  refine wpAny_take (i := 7) (v := .pointer (some ⟨p, 0, none⟩)) rfl (by kernel_rfl) (by kernel_rfl) (by kernel_rfl) (fun _ _ _ h => h) (Or.inl ⟨by rfl, fun w => by go_simp⟩) ?_
  refine wpAny_take (i := 8) (v := .pointer (some ⟨p, 12, none⟩)) rfl (by kernel_rfl) (by kernel_rfl) (by kernel_rfl) (fun _ _ _ h => h) (Or.inl ⟨by rfl, fun w => by go_simp⟩) ?_
  refine wpAny_take (i := 9) (v := .pointer (some ⟨p, 24, none⟩)) rfl (by kernel_rfl) (by kernel_rfl) (by kernel_rfl) (fun _ _ _ h => h) (Or.inl ⟨by rfl, fun w => by go_simp⟩) ?_
  refine wpAny_ready (rs := [4, 10]) (by kernel_rfl) (by simp) ?_
  refine AllReady.cons rfl (fun K hK => ?_) (AllReady.cons rfl (fun K hK => ?_) AllReady.nil)
  · go_simp
    refine hK _ _ ?_
    clear hK K
    refine wpAny_ready (rs := [10]) (by kernel_rfl) (by simp) ?_
    refine AllReady.cons rfl (fun K hK => ?_) AllReady.nil
    go_simp
    refine hK _ _ ?_
    clear hK K
    refine wpAny_ready (rs := [11]) (by kernel_rfl) (by simp) ?_
    refine AllReady.cons rfl (fun K hK => ?_) AllReady.nil
    go_simp
    refine HQ.out.mono ?_
    rintro e w1 ⟨ja, jc, rfl, HO, HB⟩
    have hc1 := (HB.out.cell (p := ⟨p, 9, none⟩) hp).trans C9.out
    have hf1 := (HB.out.frozen (p := ⟨p, 9, none⟩) hp).trans F9.out
    have HFF := Lib.hid (HF.out w1 _ _ HO.out HB.out hc1)
    clear c9 f9 c24 c31
    refine hK _ _ ?_
    clear hK K
    refine wpAny_ready (rs := [12]) (by kernel_rfl) (by simp) ?_
    refine AllReady.cons rfl (fun K hK => ?_) AllReady.nil
    go_simp
    refine hK _ _ ?_
    clear hK K
    refine wpAny_ready (rs := [13]) (by kernel_rfl) (by simp) ?_
    refine AllReady.cons rfl (fun K hK => ?_) AllReady.nil
    go_simp
    refine hK _ _ ?_
    clear hK K
    refine wpAny_ready (rs := [14]) (by kernel_rfl) (by simp) ?_
    refine AllReady.cons rfl (fun K hK => ?_) AllReady.nil
    go_simp
    refine hK _ _ ?_
    clear hK K
    refine wpAny_done (by kernel_rfl) ?_ _
    go_wp2_with fail
    go_end0
    exact HFF.out
  · go_simp
    refine hK _ _ ?_
    clear hK K
    refine wpAny_ready (rs := [4]) (by kernel_rfl) (by simp) ?_
    refine AllReady.cons rfl (fun K hK => ?_) AllReady.nil
    go_simp
    refine hK _ _ ?_
    clear hK K
    refine wpAny_ready (rs := [11]) (by kernel_rfl) (by simp) ?_
    refine AllReady.cons rfl (fun K hK => ?_) AllReady.nil
    go_simp
    refine HQ.out.mono ?_
    rintro e w1 ⟨ja, jc, rfl, HO, HB⟩
    have hc1 := (HB.out.cell (p := ⟨p, 9, none⟩) hp).trans C9.out
    have hf1 := (HB.out.frozen (p := ⟨p, 9, none⟩) hp).trans F9.out
    have HFF := Lib.hid (HF.out w1 _ _ HO.out HB.out hc1)
    clear c9 f9 c24 c31
    refine hK _ _ ?_
    clear hK K
    refine wpAny_ready (rs := [12]) (by kernel_rfl) (by simp) ?_
    refine AllReady.cons rfl (fun K hK => ?_) AllReady.nil
    go_simp
    refine hK _ _ ?_
    clear hK K
    refine wpAny_ready (rs := [13]) (by kernel_rfl) (by simp) ?_
    refine AllReady.cons rfl (fun K hK => ?_) AllReady.nil
    go_simp
    refine hK _ _ ?_
    clear hK K
    refine wpAny_ready (rs := [14]) (by kernel_rfl) (by simp) ?_
    refine AllReady.cons rfl (fun K hK => ?_) AllReady.nil
    go_simp
    refine hK _ _ ?_
    clear hK K
    refine wpAny_done (by kernel_rfl) ?_ _
    go_wp2_with fail
    go_end0
    exact HFF.out
set_option maxHeartbeats 8000000 in
theorem pr7 (p : Nat) (s : ByteArray) (hs : s.size ≤ 16777216) (R : List Int) (hR : Chn s 0 R) (hk : Ok R) (w : World) (h : PS w p (.slice none 0 0)) : Calls Tryf.prog 7 #[.pointer (some ⟨p, 0, none⟩), .string s] w (Pi w p R) := by
  have HQ := Lib.hid (pr11 p s hs R hR hk w h)
  clear hR hk h
  go_enter Tryf.func7, Tryf.ntmps7
  go_wp2_with (go_at_call 11; refine HQ.out.mono ?_; rintro e w2 hh; obtain rfl := hh.1; have HH := Lib.hid hh; clear hh)
  go_end0
  exact HH.out
end Go.Proofs.YtpnhldglcnmhdaaFmt.Aux
