/- Contracts of functions that the law of this seat reaches, and plain facts; no condition. -/
import Derived.Test.YtfjjokophgkifaaProg
import Derived.WalkKit
import Derived.ProofKit
import Derived.OpenShut
import Derived.ShutString
import Derived.Test.YtfjjokophgkifaaAid
import Derived.Test.YtfjjokophgkifaaFl
import Derived.Test.YtfjjokophgkifaaStr
import Derived.Test.YtfjjokophgkifaaPb
import Derived.Test.YtfjjokophgkifaaQd
import Derived.Test.YtfjjokophgkifaaAm
import Derived.Test.YtfjjokophgkifaaMp
import Derived.Test.YtfjjokophgkifaaG
import Derived.Test.YtfjjokophgkifaaAid
import Derived.Maps.RangeRun
import Derived.Carry
import Derived.Laws.EntriesVeiled
import Derived.Laws.IdiomRangeMap
import Derived.ArgAppend
import Derived.Maps.Own
import Derived.WalkSmall
import Derived.WalkSpells
import Derived.Laws.Externs
import Derived.WalkLawsBesides
import Derived.LoopTactic
import Derived.Deep.CutBlock
import Derived.Deep.DeepCutAuto
import Derived.IntWalk
import Derived.Outline
import Derived.Deep.QuietTactic
import Derived.BigQuiet
import Derived.RegionTactic
import Derived.Deep.RegionHeld3
import Derived.Deep.RegionLaw
import Derived.Deep.MidRow
import Derived.StillTailTactics
import Derived.BigRegion
import Derived.Laws.OwnMore
import Derived.Laws.Rows
namespace Go.Proofs.Ytfjjokophgkifaa.Aux
open Go.ChangeShapes Go.WideShapes Go.ChangeAt Go.RowKit
open Go.ChangeMaps (open_string shut_string)
set_option linter.unusedVariables false
set_option linter.unusedSimpArgs false
open Fl Str Pb Qd Am Mp PlainAid Aux
open Go.ChangeMaps
def Fp (n : Nat) (F : Nat → FD) (f : Nat) (w : World) (e : Ending) (w' : World) : Prop :=
  ∃ a c L, e = .returned (.slice a (L.filterMap (cssOf F)).length c) ∧ VS n F [] f L ∧ Hid (w'.ownsRow w.heap.size 23 1 (.slice a (L.filterMap (cssOf F)).length c) (L.filterMap (cssOf F)).length ((L.filterMap (cssOf F)).map (Value.int .u32))) ∧ Hid (Below w.heap.size w w')
theorem st_zero (cb n : Nat) (F : Nat → FD) (w : World) (W : World) (hW : W = ((((w.alloc (.cells #[.pointer (some ⟨cb, 0, none⟩)] 27)).alloc (.cells #[.slice none 0 0] 88)).alloc (.map #[] 0)).alloc (.cells #[.map (some (w.heap.size + 2))] 204)).alloc (.cells #[clos w.heap.size] 205)) : St w cb F W [] [] (.slice none 0 0) := by
  obtain ⟨w1, h1⟩ : ∃ w1, w1 = w.alloc (.cells #[.pointer (some ⟨cb, 0, none⟩)] 27) := ⟨_, rfl⟩
  obtain ⟨w2, h2⟩ : ∃ w2, w2 = w1.alloc (.cells #[.slice none 0 0] 88) := ⟨_, rfl⟩
  obtain ⟨w3, h3⟩ : ∃ w3, w3 = w2.alloc (.map #[] 0) := ⟨_, rfl⟩
  obtain ⟨w4, h4⟩ : ∃ w4, w4 = w3.alloc (.cells #[.map (some (w.heap.size + 2))] 204) := ⟨_, rfl⟩
  rw [← h1, ← h2, ← h3, ← h4] at hW
  have s1 : w1.heap.size = w.heap.size + 1 := by rw [h1]; simp
  have s2 : w2.heap.size = w.heap.size + 2 := by rw [h2]; simp; omega
  have s3 : w3.heap.size = w.heap.size + 3 := by rw [h3]; simp; omega
  have s4 : w4.heap.size = w.heap.size + 4 := by rw [h4]; simp; omega
  have n1 := heap_alloc_new w (.cells #[.pointer (some ⟨cb, 0, none⟩)] 27)
  have n2 := heap_alloc_new w1 (.cells #[.slice none 0 0] 88)
  have n3 := MapIs.made Try.prog 23 w2
  have n4 := heap_alloc_new w3 (.cells #[.map (some (w.heap.size + 2))] 204)
  have n5 := heap_alloc_new w4 (.cells #[clos w.heap.size] 205)
  rw [← h1] at n1
  rw [← h2, s1] at n2
  rw [← h3, s2] at n3
  rw [← h4, s3] at n4
  rw [← hW, s4] at n5
  have b2 : Below w1.heap.size w1 w2 := by rw [h2]; exact (Below.refl _ _).alloc (Nat.le_refl _) _
  have b3 : Below w2.heap.size w2 w3 := by rw [h3]; exact (Below.refl _ _).alloc (Nat.le_refl _) _
  have b4 : Below w3.heap.size w3 w4 := by rw [h4]; exact (Below.refl _ _).alloc (Nat.le_refl _) _
  have b5 : Below w4.heap.size w4 W := by rw [hW]; exact (Below.refl _ _).alloc (Nat.le_refl _) _
  have b1 : Below w.heap.size w w1 := by rw [h1]; exact (Below.refl _ _).alloc (Nat.le_refl _) _
  have b35 := b4.trans (b5.mono b4.size)
  have b25 := b3.trans (b35.mono b3.size)
  have b15 := b2.trans (b25.mono b2.size)
  refine ⟨b1.trans (b15.mono b1.size), (b15.block _ (by omega)).trans n1, (b25.block _ (by omega)).trans n2, (b5.block _ (by omega)).trans n4, n5, ?_, World.ownsRow_nil _ _ _ _, fun x hx => absurd hx List.not_mem_nil, List.nodup_nil⟩
  rw [vmap_nil]
  exact n3.below b35 (by omega)
set_option maxRecDepth 100000 in
set_option maxHeartbeats 4000000 in
theorem find14 (cb lb n : Nat) (F : Nat → FD) (f : Nat) (w : World) (hG : Gr w cb lb n F) (hfb : FB n F) (hfw : FW n F) (hvl : VL n F) (hf : f < n) : Calls Try.prog 14 #[.pointer (some ⟨cb, 0, none⟩), .int .u32 (f : Int)] w (Fp n F f w) := by
  have HV := Lib.hid (fun W hW => visit15 w cb lb n F hG hfb hfw hvl n [] [] (.slice none 0 0) f W (by simp) List.nodup_nil (fun x hx => absurd hx List.not_mem_nil) hf (st_zero cb n F w W hW))
  clear hG hfb hfw hvl
  have hmm : ∀ w : World, (Instr.makeMap 204 none).run Try.prog w = .ok (.map (some w.heap.size)) (w.alloc (.map #[] 0)) := fun w => run_makeMap 204 w
  go_enter Try.func14, Try.ntmps14
  go_wp2_with fail
  refine (HV.out _ rfl).mono ?_
  rintro e w5 ⟨rfl, HV5⟩
  obtain ⟨L, ov, hvs, hst⟩ := HV5.out
  obtain ⟨a, c, rfl⟩ := own_slice hst.own
  have x1 : w5.cell? ⟨w.heap.size + 1, 0, none⟩ = some (.slice a (L.filterMap (cssOf F)).length c) := by rw [cell_of_row _ _ 0 _ _ _ hst.k1]; rfl
  go_wp2_with fail
  refine bodyPost_ret (v := .slice a (L.filterMap (cssOf F)).length c) ?_ rfl ⟨a, c, L, rfl, hvs, Lib.hid ?_, Lib.hid hst.bl⟩
  · simp [results, Try.results14, go_sem, x1]
  · have ho := hst.own
    exact ⟨ho.1, by
      rcases ho.2 with h2 | ⟨g, cap, cur, e, h3, rest⟩
      · exact .inl h2
      · exact .inr ⟨g, cap, cur, e, by omega, rest⟩⟩
set_option maxRecDepth 100000 in
theorem find10 (cb lb n : Nat) (F : Nat → FD) (f : Nat) (w : World) (hG : Gr w cb lb n F) (hfb : FB n F) (hfw : FW n F) (hvl : VL n F) (hf : f < n) : Calls Try.prog 10 #[.pointer (some ⟨cb, 0, none⟩), .int .u32 (f : Int)] w (Fp n F f w) := by
  have HC := Lib.hid (find14 cb lb n F f w hG hfb hfw hvl hf)
  clear hG hfb hfw hvl
  go_enter Try.func10, Try.ntmps10
  go_wp2_with fail
  refine HC.out.mono ?_
  rintro e w' ⟨a, c, L, rfl, H⟩
  go_wp2_with fail
  go_ret
  exact ⟨a, c, L, rfl, H⟩
end Go.Proofs.Ytfjjokophgkifaa.Aux
