/- Contracts of functions that the law of this seat reaches, and plain facts; no condition. -/
import Derived.Test.YtiocceoogapkcaaProg
import Derived.WalkKit
import Derived.ProofKit
import Derived.OpenShut
import Derived.ShutString
import Derived.Test.YtiocceoogapkcaaAid
import Derived.Test.YtiocceoogapkcaaM
import Derived.Sort.LotA
import Derived.Sort.LotB
import Derived.Sort.LotC
import Derived.Sort.LotD3
import Derived.ArgAppend
import Derived.WalkSmall
import Derived.WalkSpells
import Derived.WalkLawsBesides
import Derived.LoopTactic
import Derived.Deep.LoopGhost
import Derived.Deep.CutBlock
import Derived.Deep.DeepCutAuto
import Derived.IntWalk
import Derived.Outline
import Derived.Deep.QuietTactic
import Derived.BigQuiet
import Derived.RegionTactic
import Derived.StillTailTactics
import Derived.Shelf.Small.Bits
import Derived.Shelf.Lays
import Derived.Laws.BitsAllLaws
import Derived.Laws.BitsLemmas
import Derived.BigRegion
import Derived.Laws.OwnMore
import Derived.Laws.Rows
namespace Go.Proofs.Ytiocceoogapkcaa.Aux
open Go.ChangeShapes Go.WideShapes Go.ChangeAt Go.RowKit
open Go.ChangeMaps (open_string shut_string)
set_option linter.unusedVariables false
set_option linter.unusedSimpArgs false
open Fl Str Pb Qd PlainAid Aux
open Go.Sort (swp)
theorem bt_app_l (a b : ByteArray) (i : Nat) (h : i < a.size) : bt (a ++ b) i = bt a i := by
  rw [bt_get _ i (by rw [ByteArray.size_append]; omega), bt_get a i h]
  congr 2
  simp only [ByteArray.data_append, Array.toList_append]
  rw [List.getElem_append_left (by rw [len_data]; exact h)]
theorem bt_app_r (a b : ByteArray) (i : Nat) (h : i < b.size) : bt (a ++ b) (a.size + i) = bt b i := by
  rw [bt_get _ _ (by rw [ByteArray.size_append]; omega), bt_get b i h]
  congr 2
  simp only [ByteArray.data_append, Array.toList_append]
  rw [List.getElem_append_right (by rw [len_data]; omega)]
  congr 1
  rw [len_data]; omega
section
variable {g : Nat → ByteArray} {f : Nat → Int} {d : Array Nat}
theorem tl_bt (hg : ∀ k, k < 64 → (g d[k]!).size = 1) : ∀ n, n ≤ 64 → ∀ k, k < n → bt (tlS g d n) k = bt (g d[k]!) 0 := by
  intro n
  induction n with
  | zero => intro _ k hk; omega
  | succ n ih =>
    intro hn k hk
    have hs := (tl_size hg n (by omega)).1
    rw [tlS]
    by_cases h : k < n
    · rw [bt_app_l _ _ _ (by omega)]
      exact ih (by omega) k h
    · obtain rfl : k = n := by omega
      have := bt_app_r (tlS g d k) (g d[k]!) 0 (by rw [hg k (by omega)]; omega)
      rw [hs, Nat.add_zero] at this
      exact this
theorem hd_pre : ∀ (n k : Nat), k ≤ n → ∃ X, hdS g d n = hdS g d k ++ X := by
  intro n
  induction n with
  | zero =>
    intro k hk
    obtain rfl : k = 0 := by omega
    exact ⟨⟨#[]⟩, by rfl⟩
  | succ n ih =>
    intro k hk
    by_cases h : k = n + 1
    · subst h
      refine ⟨⟨#[]⟩, ?_⟩
      apply WideShapes.bytes_inj
      simp
    · obtain ⟨X, e⟩ := ih k (by omega)
      rw [hdS]
      split
      · exact ⟨X, e⟩
      · refine ⟨X ++ g d[n]!, ?_⟩
        rw [e]
        apply WideShapes.bytes_inj
        simp
theorem hd_bt (hg : ∀ k, k < 64 → (g d[k]!).size = 1) {k : Nat} (hk : k < 64) (hn : isDig (g d[k]!) = false) : (hdS g d k).size < (hdS g d 64).size ∧ bt (hdS g d 64) (hdS g d k).size = bt (g d[k]!) 0 ∧ (hdS g d (k + 1)).size = (hdS g d k).size + 1 := by
  obtain ⟨X, e⟩ := hd_pre (g := g) (d := d) 64 (k + 1) (by omega)
  have e2 : hdS g d (k + 1) = hdS g d k ++ g d[k]! := by rw [hdS, if_neg (by rw [hn]; simp)]
  have h1 := hg k hk
  have hs : (hdS g d (k + 1)).size = (hdS g d k).size + 1 := by rw [e2, ByteArray.size_append]; omega
  refine ⟨by rw [e, ByteArray.size_append]; omega, ?_, hs⟩
  rw [e, bt_app_l _ _ _ (by omega), e2]
  exact bt_app_r (hdS g d k) (g d[k]!) 0 (by omega)
theorem hd_same {k : Nat} (hn : isDig (g d[k]!) = true) : (hdS g d (k + 1)).size = (hdS g d k).size := by rw [hdS, if_pos hn]
/-- How many stand before i, among the first n. -/
def rk (f : Nat → Int) (i n : Nat) : Nat := ((List.range n).filter (fun j => ltF f j i)).length
theorem rk_succ (i n : Nat) : rk f i (n + 1) = rk f i n + (if ltF f n i = true then 1 else 0) := by
  unfold rk
  rw [List.range_succ, List.filter_append, List.length_append]
  congr 1
  by_cases h : ltF f n i = true
  · simp [h]
  · simp [h]
theorem rk_le (i n : Nat) : rk f i n ≤ n := by
  unfold rk
  have := List.length_filter_le (fun j => ltF f j i) (List.range n)
  simpa using this
theorem perm_list (h : Sort.PermIn 0 64 (Array.range 64) d) : d.size = 64 ∧ d.toList.Perm (List.range 64) := by
  have hs : d.size = 64 := by have := h.1; simpa using this
  refine ⟨hs, ?_⟩
  have := h.2.2
  have e1 : d.extract 0 64 = d := by rw [← hs]; simp
  have e2 : (Array.range 64).extract 0 64 = Array.range 64 := by simp
  rw [e1, e2] at this
  simpa using this
theorem rank_place (h : Sort.PermIn 0 64 (Array.range 64) d) (hs : Sort.SortedIn (ltF f) 0 64 d) (i : Nat) (hi : i < 64) : rk f i 64 < 64 ∧ d[rk f i 64]! = i := by
  obtain ⟨hsz, hp⟩ := perm_list h
  have hm : i ∈ d.toList := hp.symm.subset (by simpa using hi)
  obtain ⟨p, hpl, hpe⟩ := List.getElem_of_mem hm
  have hp64 : p < 64 := by simpa [hsz] using hpl
  have hnd : d.toList.Nodup := hp.symm.nodup List.nodup_range
  have hg : ∀ q, (hq : q < 64) → d[q]! = d.toList[q]'(by simpa [hsz] using hq) := fun q hq => by
    rw [getElem!_pos d q (by omega)]; simp
  have e : rk f i 64 = p := by
    unfold rk
    rw [← (hp.filter _).length_eq]
    rw [show d.toList = d.toList.take p ++ d.toList.drop p by simp, List.filter_append, List.length_append]
    have a1 : (d.toList.take p).filter (fun j => ltF f j i) = d.toList.take p := by
      rw [List.filter_eq_self]
      intro x hx
      obtain ⟨q, hq, rfl⟩ := List.getElem_of_mem hx
      have hqp : q < p := by simp at hq; omega
      have h1 := hs q p (Nat.zero_le _) hqp hp64
      rw [hg q (by omega), hg p hp64, hpe] at h1
      rw [List.getElem_take]
      have hne : d.toList[q]'(by simp [hsz]; omega) ≠ i := fun e => by
        exact (List.pairwise_iff_getElem.1 hnd) q p (by simp [hsz]; omega) hpl hqp (e.trans hpe.symm)
      rw [ltF_not] at h1
      rw [ltF_iff]
      omega
    have a2 : (d.toList.drop p).filter (fun j => ltF f j i) = [] := by
      rw [List.filter_eq_nil_iff]
      intro x hx
      obtain ⟨q, hq, rfl⟩ := List.getElem_of_mem hx
      rw [List.getElem_drop]
      have hq64 : p + q < 64 := by simp [hsz] at hq; omega
      by_cases h0 : q = 0
      · subst h0
        simp only [Nat.add_zero, hpe]
        rw [Bool.not_eq_true, ltF_not]; omega
      · have h1 := hs p (p + q) (Nat.zero_le _) (by omega) hq64
        rw [hg p hp64, hg (p + q) hq64, hpe] at h1
        rw [Bool.not_eq_true]
        exact h1
    rw [a1, a2]
    simp [hsz]; omega
  rw [e]
  exact ⟨hp64, by rw [hg p hp64, hpe]⟩
end
end Go.Proofs.Ytiocceoogapkcaa.Aux
