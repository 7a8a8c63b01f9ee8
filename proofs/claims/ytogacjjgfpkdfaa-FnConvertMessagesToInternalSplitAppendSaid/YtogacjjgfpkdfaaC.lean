/- Contracts of functions that the law of this seat reaches, and plain facts; no condition. -/
import Derived.Test.YtogacjjgfpkdfaaProg
import Derived.WalkKit
import Derived.ProofKit
import Derived.OpenShut
import Derived.ShutString
import Derived.Test.YtogacjjgfpkdfaaAid
import Derived.Test.YtogacjjgfpkdfaaFl
import Derived.Test.YtogacjjgfpkdfaaStr
import Derived.Test.YtogacjjgfpkdfaaPb
import Derived.Test.YtogacjjgfpkdfaaQd
import Derived.Test.YtogacjjgfpkdfaaAm
import Derived.Test.YtogacjjgfpkdfaaMp
import Derived.Test.YtogacjjgfpkdfaaB
import Derived.Maps.RangeRun
import Derived.Carry
import Derived.Laws.IdiomRangeMap
import Derived.ArgAppend
import Derived.Maps.Own
import Derived.WalkSmall
import Derived.WalkSpells
import Derived.Laws.Externs
import Derived.WalkLawsBesides
import Derived.LoopTactic
import Derived.Deep.CutBlock
import Derived.Deep.DeepCutAuto
import Derived.IntWalk
import Derived.Outline
import Derived.Deep.QuietTactic
import Derived.BigQuiet
import Derived.RegionTactic
import Derived.Deep.RegionHeld3
import Derived.Deep.MidRow
import Derived.StillTailTactics
import Derived.BigRegion
import Derived.Laws.OwnMore
import Derived.Laws.Rows
namespace Go.Proofs.Ytogacjjgfpkdfaa.Aux
open Go.ChangeShapes Go.WideShapes Go.ChangeAt Go.RowKit
open Go.ChangeMaps (open_string shut_string)
set_option linter.unusedVariables false
set_option linter.unusedSimpArgs false
open Fl Str Pb Qd Am Mp PlainAid Aux
open Go.ChangeMaps
/-- The greatest. -/
def mx (s : ByteArray) : Nat := (ids s).foldl max 0
theorem foldl_max : ∀ (ks : List Nat) (a m : Nat), (∀ k ∈ ks, k ≤ m) → a ≤ m → (a = m ∨ m ∈ ks) → ks.foldl max a = m := by
  intro ks
  induction ks with
  | nil => intro a m _ _ h; rcases h with h | h
           · exact h
           · cases h
  | cons k ks ih =>
    intro a m h1 h2 h3
    rw [List.foldl_cons]
    have hk := h1 k List.mem_cons_self
    refine ih _ m (fun x hx => h1 x (List.mem_cons_of_mem _ hx)) (by omega) ?_
    rcases h3 with h3 | h3
    · left; omega
    · rcases List.mem_cons.1 h3 with h3 | h3
      · left; omega
      · exact .inr h3
theorem ite_all {c : Prop} [Decidable c] {a b : List Nat} {p : Nat → Bool} (ha : a.all p = true) (hb : b.all p = true) : (if c then a else b).all p = true := by
  split
  · exact ha
  · exact hb
theorem ids_lt (s : ByteArray) : ∀ k ∈ ids s, k < 256 := by
  have h : (ids s).all (fun k => decide (k < 256)) = true := by
    unfold ids
    repeat' (first | rfl | refine ite_all ?_ ?_)
  intro k hk
  exact of_decide_eq_true (List.all_eq_true.1 h k hk)
/-- While the map is ranged over. -/
structure It (ks : List Nat) (mb r : Nat) (w wr : World) (seen : Array Nat) : Prop where
  it : wr.heap[r]? = some (.mapIter (some mb) ks.length seen ks.length)
  mp : MapHas mb ks wr
  bl : Below w.heap.size w wr
def Mx (ks : List Nat) (seen : Array Nat) (m : Nat) : Prop := (∀ x ∈ ents ks 0, seen.contains x.born = true → ∃ k : Nat, x.key = .int .u8 (k : Int) ∧ k ≤ m) ∧ (m = 0 ∨ m ∈ ks)
theorem It.next {ks : List Nat} {mb r : Nat} {w wr w1 : World} {seen : Array Nat} (h : It ks mb r w wr seen) (hr : w.heap.size ≤ r) (hne : mb ≠ r) (x : Nat) (hw : w1 = wr ∨ w1 = wr.drew) :
    It ks mb r w (setBlock w1 r (.mapIter (some mb) ks.length (seen.push x) ks.length)) (seen.push x) := by
  have hlt : r < wr.heap.size := by
    have := h.it
    exact Classical.byContradiction fun hn => by rw [Array.getElem?_eq_none (by omega)] at this; cases this
  rcases hw with rfl | rfl
  · refine ⟨block_set _ _ _ hlt, ?_, setBlock_below h.bl hr _⟩
    have := h.mp
    unfold MapHas at this ⊢
    rw [block_other _ _ _ _ hne]; exact this
  · refine ⟨block_set _ _ _ hlt, ?_, setBlock_below (below_drew h.bl) hr _⟩
    have := h.mp
    unfold MapHas at this ⊢
    rw [block_other _ _ _ _ hne]; exact this
theorem Mx.step {ks : List Nat} {seen : Array Nat} {m : Nat} (h : Mx ks seen m) {e : MapEntry} (he : e ∈ ents ks 0) {k : Nat} (hk : e.key = .int .u8 (k : Int)) (hkm : k ∈ ks) : (k ≤ m → Mx ks (seen.push e.born) m) ∧ (m < k → Mx ks (seen.push e.born) k) := by
  have key : ∀ x ∈ ents ks 0, (seen.push e.born).contains x.born = true → seen.contains x.born = true ∨ x.key = e.key := by
    intro x hx hc
    rw [contains_push, Bool.or_eq_true] at hc
    rcases hc with hc | hc
    · exact .inl hc
    · right
      have hb : x.born = e.born := by simpa using hc
      have h1 := find_born x (ents ks 0) (ents_nodup ks 0) hx
      have h2 := find_born e (ents ks 0) (ents_nodup ks 0) he
      rw [hb, h2] at h1
      injection h1 with h1
      rw [h1]
  refine ⟨fun hle => ⟨fun x hx hc => ?_, h.2⟩, fun hlt => ⟨fun x hx hc => ?_, .inr hkm⟩⟩
  · rcases key x hx hc with h1 | h1
    · exact h.1 x hx h1
    · exact ⟨k, h1.trans hk, hle⟩
  · rcases key x hx hc with h1 | h1
    · obtain ⟨k', e1, e2⟩ := h.1 x hx h1
      exact ⟨k', e1, by omega⟩
    · exact ⟨k, h1.trans hk, Nat.le_refl _⟩
theorem Mx.done {ks : List Nat} {seen : Array Nat} {m : Nat} (h : Mx ks seen m) (h0 : (leftOf (ents ks 0).toArray seen).size = 0) : ks.foldl max 0 = m := by
  refine foldl_max ks 0 m (fun k hk => ?_) (Nat.zero_le _) (by rcases h.2 with h | h; exact .inl h.symm; exact .inr h)
  obtain ⟨x, hx, e⟩ := ents_has ks 0 hk
  have hs : seen.contains x.born = true := by
    cases hc : seen.contains x.born with
    | true => rfl
    | false =>
      exfalso
      have hm : x ∈ leftOf (ents ks 0).toArray seen := by
        unfold leftOf
        rw [Array.mem_filter]
        exact ⟨by simpa using hx, by show (!seen.contains x.born) = true; rw [hc]; rfl⟩
      have := Array.eq_empty_of_size_eq_zero h0
      rw [this] at hm
      simp at hm
  obtain ⟨k', e1, e2⟩ := h.1 x hx hs
  rw [e] at e1
  injection e1 with _ e1
  omega
def Mp15 (s : ByteArray) (w : World) (e : Ending) (w' : World) : Prop := e = .returned (.int .u8 (mx s : Nat)) ∧ Hid (Below w.heap.size w w')
set_option maxRecDepth 100000 in
set_option maxHeartbeats 4000000 in
theorem max15 (s : ByteArray) (w : World) : Calls Try.prog 15 #[.string s] w (Mp15 s w) := by
  obtain ⟨ks, hks⟩ : ∃ ks, ids s = ks := ⟨_, rfl⟩
  have HKS := Lib.hid hks
  have hlt := ids_lt s
  rw [hks] at hlt
  have HLT := Lib.hid hlt
  clear hks hlt
  have hmk := run_makeMap (P := Try.prog) 62 w
  go_enter Try.func15, Try.ntmps15
  go_wp2_with fail
  clear hmk
  refine (ids16 s w.heap.size (w.alloc (.map #[] 0)) (heap_alloc_new _ _)).mono ?_
  rintro e w2 ⟨rfl, h2⟩
  obtain ⟨h2a, h2b, h2c⟩ := h2.out
  rw [HKS.out] at h2a
  have hsz2 : w2.heap.size = w.heap.size + 1 := by rw [h2c]; simp
  have HB2 : Hid (Below w.heap.size w w2) := Lib.hid (((Below.refl _ w).alloc (Nat.le_refl _) _).trans h2b)
  have hrg := run_range_map (P := Try.prog) w2 62 5 65 w.heap.size _ _ Try.underlying62 h2a
  have HIT : Hid (It ks w.heap.size w2.heap.size w (w2.alloc (.mapIter (some w.heap.size) ks.length #[] ks.length)) #[]) := Lib.hid ⟨heap_alloc_new _ _, by
    unfold MapHas at h2a ⊢
    rw [Below.heap_alloc _ _ _ (by omega)]; exact h2a, HB2.out.alloc (by omega) _⟩
  have HSZ := Lib.hid hsz2
  clear h2 h2a h2b h2c HB2 hsz2
  go_wp2_with fail
  clear hrg
  have hsz2 := HSZ.out
  obtain ⟨r, hr⟩ : ∃ r, r = w2.heap.size := ⟨_, rfl⟩
  rw [← hr] at HIT ⊢
  rw [← hr] at hsz2
  have hne : w.heap.size ≠ r := by omega
  have hge : w.heap.size ≤ r := by omega
  generalize w2.alloc (.mapIter (some w.heap.size) ks.length #[] ks.length) = W at HIT ⊢
  clear hr hsz2
  go_loopw [4] (fun s4 wr => ∃ (m : Nat) (seen : Array Nat), s4 = .int .u8 m ∧ Hid (It ks w.heap.size r w wr seen ∧ Mx ks seen m)) (fun _ wr => (leftOf (ents ks 0).toArray (wr.iterSeen r)).size)
  case atStart => exact ⟨0, #[], rfl, Lib.hid ⟨HIT.out, fun x _ h => by simp at h, .inl rfl⟩⟩
  case round =>
    obtain ⟨m, seen, rfl, HH⟩ := hrel
    obtain ⟨HI, HX⟩ := HH.out
    have law := run_next_at (P := Try.prog) wr 0 r w.heap.size ks.length ks.length seen (ents ks 0).toArray ks.length HI.it HI.mp (fun x hx => by
      obtain ⟨_, _, _, _, h⟩ := ents_mem _ _ (show x ∈ ents ks 0 from hx); omega) (Nat.le_refl _)
    have hseen : wr.iterSeen r = seen := by unfold World.iterSeen; rw [HI.it]
    rcases law with ⟨h0, hrun⟩ | ⟨e, he, w3, hal, hrun⟩
    · have HFIN : Hid (mx s = m) := Lib.hid (by unfold mx; rw [HKS.out]; exact HX.done h0)
      have HBF := Lib.hid HI.bl
      have hnx : ∀ ty, (Instr.next (.pointer (some ⟨r, 0, none⟩)) false ty).run Try.prog wr = _ := fun _ => hrun
      clear h0 HI HX HH hseen
      go_wp2_with fail
      go_ret
      exact ⟨by rw [HFIN.out]; rfl, HBF⟩
    · have hem : e ∈ ents ks 0 := (mem_left he).1
      obtain ⟨k, hkm, hke, _⟩ := ents_mem _ _ hem
      have hk256 := HLT.out k hkm
      have HN := Lib.hid (HI.next hge hne e.born hal)
      have HS := Lib.hid (HX.step hem hke hkm)
      have hent := run_entry_at (P := Try.prog) (setBlock w3 r (.mapIter (some w.heap.size) ks.length (seen.push e.born) ks.length)) r w.heap.size ks.length seen (ents ks 0).toArray ks.length e HN.out.it HN.out.mp hem (ents_nodup ks 0)
      have HMS := Lib.hid (left_shrinks (ents ks 0).toArray seen e he)
      have HSE := Lib.hid hseen
      have hsn : (setBlock w3 r (.mapIter (some w.heap.size) ks.length (seen.push e.born) ks.length)).iterSeen r = seen.push e.born := by unfold World.iterSeen; rw [HN.out.it]
      have HSN := Lib.hid hsn
      rw [hke] at hrun hent
      have hnx : ∀ ty, (Instr.next (.pointer (some ⟨r, 0, none⟩)) false ty).run Try.prog wr = _ := fun _ => hrun
      clear hseen hsn HI HX HH hem hke hal he hkm hrun
      by_cases hmk : m < k
      · have hz : (m : Int) < (k : Int) := by omega
        go_wp2_with fail
        go_roundw
        case rel => exact ⟨k, seen.push e.born, rfl, Lib.hid ⟨HN.out, HS.out.2 hmk⟩⟩
        case measure => rw [HSN.out, HSE.out]; exact HMS.out
      · have hz : ¬ (m : Int) < (k : Int) := by omega
        go_wp2_with fail
        go_roundw
        case rel => exact ⟨m, seen.push e.born, rfl, Lib.hid ⟨HN.out, HS.out.1 (by omega)⟩⟩
        case measure => rw [HSN.out, HSE.out]; exact HMS.out
end Go.Proofs.Ytogacjjgfpkdfaa.Aux
