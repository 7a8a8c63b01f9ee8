/- Contracts of functions that the law of this seat reaches, and plain facts; no condition. -/
import Derived.Test.YtiocceoogapkcaaProg
import Derived.WalkKit
import Derived.ProofKit
import Derived.OpenShut
import Derived.ShutString
import Derived.Test.YtiocceoogapkcaaAid
import Derived.Test.YtiocceoogapkcaaR
import Derived.Test.YtiocceoogapkcaaP
import Derived.Sort.LotA
import Derived.Sort.LotB
import Derived.Sort.LotC
import Derived.Sort.LotD3
import Derived.ArgAppend
import Derived.WalkSmall
import Derived.WalkSpells
import Derived.Test.YtiocceoogapkcaaShelf
import Derived.Lib.Builder
import Derived.Lib.AppendStr
import Derived.Laws.Externs
import Derived.WalkLawsBesides
import Derived.LoopTactic
import Derived.Deep.LoopGhost
import Derived.Deep.CutBlock
import Derived.Deep.DeepCutAuto
import Derived.IntWalk
import Derived.Outline
import Derived.Deep.QuietTactic
import Derived.BigQuiet
import Derived.RegionTactic
import Derived.Deep.RegionHeld3
import Derived.Deep.MidRow
import Derived.StillTailTactics
import Derived.Shelf.Small.Bits
import Derived.Shelf.Lays
import Derived.Laws.BitsAllLaws
import Derived.Laws.BitsLemmas
import Derived.BigRegion
import Derived.Laws.OwnMore
import Derived.Laws.Rows
namespace Go.Proofs.Ytiocceoogapkcaa.Aux
open Go.ChangeShapes Go.WideShapes Go.ChangeAt Go.RowKit
open Go.ChangeMaps (open_string shut_string)
set_option linter.unusedVariables false
set_option linter.unusedSimpArgs false
open Fl Str Pb Qd PlainAid Aux
open Go.Sort (swp)
section
variable {g : Nat → ByteArray} {w w' : World} {d : Array Nat}
/-- The place handed back. -/
def Ix (x : Nat) (w : World) (e : Ending) (w' : World) : Prop := e = .returned (.int .i64 (x : Int)) ∧ w' = w
set_option maxRecDepth 100000 in
set_option maxHeartbeats 4000000 in
theorem idx11 (T : ByteArray) (x : Nat) (hx : x < T.size) (hT : T.size ≤ 64) (hd : ∀ i, i < x → bt T i ≠ bt T x) (w : World) : Calls Try.prog 11 #[.string T, .int .u8 (bt T x)] w (Ix x w) := by
  obtain ⟨v, hv⟩ : ∃ v, bt T x = v := ⟨_, rfl⟩
  rw [hv] at hd ⊢
  have HD := Lib.hid hd
  have HV := Lib.hid hv
  clear hd hv
  go_enter Try.func11, Try.ntmps11
  go_wp2_with fail
  go_loopw [5] (fun s5 wr => ∃ i : Nat, i ≤ x ∧ s5 = .int .i64 i ∧ wr = w) (fun s5 _ => 64 - (intOf s5).toNat)
  case atStart => exact ⟨0, Nat.zero_le _, rfl, rfl⟩
  case round =>
    obtain ⟨i, hi, rfl, rfl⟩ := hrel
    have hiz : (i : Int) < (T.size : Int) := by omega
    obtain ⟨u, hu⟩ : ∃ u, bt T i = u := ⟨_, rfl⟩
    have gT : ∀ h' : i < T.size, ((T[i]'h').toNat : Int) = u := fun h' => (get_bt T i h').trans hu
    by_cases he : i = x
    · subst he
      have q : u = v := by rw [← hu, ← HV.out]
      subst q
      have qb : (u == u) = true := beq_self_eq_true u
      clear hu
      go_wp2_with fail
      go_ret
      exact ⟨rfl, rfl⟩
    · have q : ¬ u = v := by rw [← hu]; exact HD.out i (by omega)
      have qb : (u == v) = false := beq_eq_false_iff_ne.2 q
      clear hu
      go_wp2_with fail
      go_roundw
      case rel => exact ⟨i + 1, by omega, by go_num, trivial⟩
      case measure => simp [intOf]; omega
theorem dl_take (hsz : d.size = 64) (n : Nat) (hn : n < 64) : d.toList.take (n + 1) = d.toList.take n ++ [d[n]!] := by
  have hl : n < d.toList.length := by simpa [hsz] using hn
  rw [List.take_succ_eq_append_getElem hl, getElem!_pos d n (by omega)]
  simp
theorem hd_len (hsz : d.size = 64) (hg : ∀ k, k < 64 → (g d[k]!).size = 1) : ∀ n, n ≤ 64 → (hdS g d n).size = ((d.toList.take n).filter (fun x => !isDig (g x))).length := by
  intro n
  induction n with
  | zero => intro _; rfl
  | succ n ih =>
    intro hn
    have i1 := ih (by omega)
    rw [dl_take hsz n (by omega), List.filter_append, List.length_append, ← i1]
    cases hD : isDig (g d[n]!) with
    | true => rw [hd_same hD]; simp [hD]
    | false =>
      rw [hdS, if_neg (by rw [hD]; simp), ByteArray.size_append, hg n (by omega)]
      simp [hD]
theorem hd_54 (hp : Sort.PermIn 0 64 (Array.range 64) d) (hg : ∀ k, k < 64 → (g d[k]!).size = 1) : (hdS g d 64).size = ((List.range 64).filter (fun x => !isDig (g x))).length := by
  obtain ⟨hsz, hl⟩ := perm_list hp
  rw [hd_len hsz hg 64 (Nat.le_refl _), List.take_of_length_le (by simp [hsz])]
  exact (hl.filter _).length_eq
/-- The bytes stand once each. -/
def dis (T : ByteArray) : Bool := (List.range T.size).all fun x => (List.range x).all fun i => !(bt T i == bt T x)
theorem dis_ne {T : ByteArray} (h : dis T = true) (x : Nat) (hx : x < T.size) (i : Nat) (hi : i < x) : bt T i ≠ bt T x := by
  unfold dis at h
  rw [List.all_eq_true] at h
  have h1 := h x (by simpa using hx)
  rw [List.all_eq_true] at h1
  have h2 := h1 i (by simpa using hi)
  simpa using h2
theorem ub_bt (T : ByteArray) (x : Nat) (h : x < T.size) : ((ub T x).toNat : Int) = bt T x := by
  rw [bt_get T x h]
  have hx : x < T.data.toList.length := by rw [len_data]; exact h
  unfold ub
  simp [List.getD, List.getElem?_eq_getElem hx]
theorem nm_size (H T : ByteArray) (i : Nat) : (⟨(nmB H T i).toArray⟩ : ByteArray).size = (dgs T.size (i / H.size)).length + 1 := by
  show (nmB H T i).toArray.size = _
  simp [nmB]
theorem nm_bt0 (H T : ByteArray) (i : Nat) (h : 0 < H.size) : bt ⟨(nmB H T i).toArray⟩ 0 = bt H (i % H.size) := by
  rw [bt_get _ 0 (by rw [nm_size]; omega), ← ub_bt H _ (Nat.mod_lt _ h)]
  rfl
theorem nm_btk (H T : ByteArray) (i k : Nat) (h : 0 < T.size) (hk : k < (dgs T.size (i / H.size)).length) : bt ⟨(nmB H T i).toArray⟩ (k + 1) = bt T ((dgs T.size (i / H.size))[k]) := by
  have hm : (dgs T.size (i / H.size))[k] < T.size := dgs_lt T.size h (i / H.size) (i / H.size) (Nat.le_refl _) _ (List.getElem_mem _)
  rw [bt_get _ (k + 1) (by rw [nm_size]; omega), ← ub_bt T _ hm]
  simp [nmB]
def NmP (A : ByteArray) (w : World) (e : Ending) (w' : World) : Prop := e = .returned (.string A) ∧ Hid (Below w.heap.size w w')
theorem names (H T Y X : ByteArray) (hY : Y.size = H.size) (hX : X.size = T.size) (hH0 : 0 < H.size) (hH : H.size ≤ 64) (hT0 : 0 < T.size) (hT : T.size ≤ 64) (dH : dis H = true) (dT : dis T = true) (i : Nat) (hi : i ≤ 2147483647) :
    ∃ (A B : ByteArray) (n j : Nat) (t : Nat → Nat), (∀ w, Calls Try.prog 10 #[.agg #[.string H, .string T], .int .i64 i] w (NmP A w)) ∧ (∀ w, Calls Try.prog 10 #[.agg #[.string Y, .string X], .int .i64 i] w (NmP B w)) ∧ A.size = n + 1 ∧ B.size = n + 1 ∧ n ≤ 2147483647 ∧ j < H.size ∧ (∀ w, Calls Try.prog 11 #[.string H, .int .u8 (bt A 0)] w (Ix j w)) ∧ bt B 0 = bt Y j ∧ (∀ k, 1 ≤ k → k < n + 1 → t k < T.size ∧ (∀ w, Calls Try.prog 11 #[.string T, .int .u8 (bt A k)] w (Ix (t k) w)) ∧ bt B k = bt X (t k)) := by
  have hdl := dgs_len T.size (i / H.size) (i / H.size) (Nat.le_refl _)
  have hdi := Nat.div_le_self i H.size
  refine ⟨⟨(nmB H T i).toArray⟩, ⟨(nmB Y X i).toArray⟩, (dgs T.size (i / H.size)).length, i % H.size, fun k => (dgs T.size (i / H.size)).getD (k - 1) 0, ?_, ?_, nm_size H T i, ?_, by omega, Nat.mod_lt _ hH0, ?_, ?_, ?_⟩
  · intro w; exact name10 H T i hH0 hH hT0 hT hi w
  · intro w; exact name10 Y X i (by omega) (by omega) (by omega) (by omega) hi w
  · rw [nm_size, hX, hY]
  · intro w
    rw [nm_bt0 H T i hH0]
    exact idx11 H _ (Nat.mod_lt _ hH0) hH (dis_ne dH _ (Nat.mod_lt _ hH0)) w
  · rw [nm_bt0 Y X i (by omega), hY]
  · intro k h1 h2
    obtain ⟨k, rfl⟩ : ∃ k', k = k' + 1 := ⟨k - 1, by omega⟩
    have hk : k < (dgs T.size (i / H.size)).length := by omega
    have e : (dgs T.size (i / H.size)).getD (k + 1 - 1) 0 = (dgs T.size (i / H.size))[k] := by
      rw [Nat.add_sub_cancel]; simp [List.getD, List.getElem?_eq_getElem hk]
    have hm : (dgs T.size (i / H.size))[k] < T.size := dgs_lt T.size hT0 (i / H.size) (i / H.size) (Nat.le_refl _) _ (List.getElem_mem _)
    have b2 := nm_btk Y X i k (by omega) (by rw [hX, hY]; exact hk)
    have e2 : (dgs X.size (i / Y.size))[k]'(by rw [hX, hY]; exact hk) = (dgs T.size (i / H.size))[k] := by
      congr 1
      rw [hX, hY]
    show (dgs T.size (i / H.size)).getD (k + 1 - 1) 0 < T.size ∧ (∀ w, Calls Try.prog 11 #[.string T, .int .u8 (bt ⟨(nmB H T i).toArray⟩ (k + 1))] w (Ix ((dgs T.size (i / H.size)).getD (k + 1 - 1) 0) w)) ∧ bt ⟨(nmB Y X i).toArray⟩ (k + 1) = bt X ((dgs T.size (i / H.size)).getD (k + 1 - 1) 0)
    rw [e]
    refine ⟨hm, ?_, by rw [b2, e2]⟩
    intro w
    rw [nm_btk H T i k hT0 hk]
    exact idx11 T _ hm hT (dis_ne dT _ hm) w
end
end Go.Proofs.Ytiocceoogapkcaa.Aux
