/- Contracts of functions that the law of this seat reaches, and plain facts; no condition. -/
import Derived.Test.YtfhafelkkophgaaFmtProg
import Derived.WalkKit
import Derived.ProofKit
import Derived.OpenShut
import Derived.ShutString
import Derived.Test.YtfhafelkkophgaaFmtAid
import Derived.Test.YtfhafelkkophgaaFmtV3
import Derived.Test.YtfhafelkkophgaaFmtD1
import Derived.ArgAppend
import Derived.WalkSmall
import Derived.Lib.OthersKept
import Derived.Laws.RangeAny
import Derived.Laws.OwnMore
import Derived.WalkSpells
import Derived.LoopTactic
import Derived.IntWalk
import Derived.Outline
import Derived.Deep.QuietTactic
import Derived.BigQuiet
import Derived.Deep.RegionHeld3
import Derived.Deep.RegionLaw
import Derived.StillTailTactics
import Derived.OwnWalk
import Derived.RegionTactic
import Derived.Laws.BitsAllLaws
import Derived.Laws.BitsLemmas
import Derived.Lib.ConvBytes
namespace Go.Proofs.YtfhafelkkophgaaFmt.Aux
open Go.ChangeShapes Go.WideShapes Go.ChangeAt Go.RowKit
open Go.ChangeMaps (open_string shut_string)
set_option linter.unusedVariables false
set_option linter.unusedSimpArgs false
open Fl Str Pb Qd PlainAid Aux
/-- The text's byte i and the unit k go on alike. -/
def Cor (s : ByteArray) (n : Nat) (Z : Nat → Int) (i k : Nat) : Prop := ∃ R, Chn s i R ∧ (∀ j, (hj : j < (u16s R).length) → Z (k + j) = (u16s R)[j]) ∧ k + (u16s R).length = n
section
variable {s : ByteArray} {n : Nat} {Z : Nat → Int} {i k : Nat}
theorem Cor.start {R : List Int} (h : Chn s 0 R) : Cor s (u16s R).length (fun i => (u16s R).getD i 0) 0 0 := ⟨R, h, fun j hj => by simp [List.getD, hj], by simp⟩
theorem Cor.le (h : Cor s n Z i k) : i ≤ s.size ∧ k ≤ n := by
  obtain ⟨R, h1, _, h3⟩ := h
  exact ⟨chn_le h1, by omega⟩
theorem Cor.cases (h : Cor s n Z i k) : (i = s.size ∧ k = n) ∨ (i < s.size ∧ k < n ∧ bt s i < 128 ∧ Z k = bt s i ∧ Cor s n Z (i + 1) (k + 1)) ∨
    (i < s.size ∧ k < n ∧ 128 ≤ bt s i ∧ 128 ≤ Z k ∧ ∃ r m, Dv s i r m ∧ 128 ≤ r ∧ ((r ≤ 65535 ∧ Z k = r ∧ Cor s n Z (i + m) (k + 1)) ∨ (65535 < r ∧ k + 1 < n ∧ Z k = 55296 + (r - 65536) / 1024 ∧ Z (k + 1) = 56320 + (r - 65536) % 1024 ∧ Cor s n Z (i + m) (k + 2)))) := by
  obtain ⟨R, hc, hz, hn⟩ := h
  rcases chn_cases hc with ⟨e1, rfl⟩ | ⟨r, m, R', rfl, hd, ht, hlt⟩
  · exact .inl ⟨e1, by simpa [u16s] using hn⟩
  · obtain ⟨r0, r1, r2, r3, r4, r5⟩ := dv_r hd
    have hb := bt_rng s i
    by_cases hr : r ≤ 65535
    · have hu : u16s (r :: R') = r :: u16s R' := by simp [u16s, u16r, hr]
      simp only [hu] at hz hn
      simp only [List.length_cons] at hz hn
      have z0 := hz 0 (by omega)
      simp only [Nat.add_zero, List.getElem_cons_zero] at z0
      have hC : Cor s n Z (i + m) (k + 1) := ⟨R', ht, fun j hj => by
        have := hz (j + 1) (by omega)
        rw [show k + (j + 1) = k + 1 + j by omega] at this
        simpa using this, by omega⟩
      by_cases h1 : bt s i < 128
      · obtain ⟨m1, e1⟩ := r4 (r3.1 h1)
        rw [m1] at hC
        exact .inr (.inl ⟨hlt, by omega, h1, by omega, hC⟩)
      · exact .inr (.inr ⟨hlt, by omega, by omega, by omega, r, m, hd, by omega, .inl ⟨hr, z0, hC⟩⟩)
    · have hu : u16s (r :: R') = (55296 + (r - 65536) / 1024) :: (56320 + (r - 65536) % 1024) :: u16s R' := by simp [u16s, u16r, hr]
      simp only [hu] at hz hn
      simp only [List.length_cons] at hz hn
      have z0 := hz 0 (by omega)
      have z1 := hz 1 (by omega)
      simp only [Nat.add_zero, List.getElem_cons_zero, List.getElem_cons_succ] at z0 z1
      have hC : Cor s n Z (i + m) (k + 2) := ⟨R', ht, fun j hj => by
        have := hz (j + 2) (by omega)
        rw [show k + (j + 2) = k + 2 + j by omega] at this
        simpa using this, by omega⟩
      exact .inr (.inr ⟨hlt, by omega, by omega, by omega, r, m, hd, by omega, .inr ⟨by omega, by omega, z0, z1, hC⟩⟩)
/-- The next one is the same where it is plain. -/
theorem Cor.nxt (h : Cor s n Z i k) (v : Int) (hv : v < 128) : (i < s.size ∧ bt s i = v) ↔ (k < n ∧ Z k = v) := by
  rcases h.cases with ⟨e1, e2⟩ | ⟨h1, h2, h3, h4, _⟩ | ⟨h1, h2, h3, h4, _⟩
  · omega
  · omega
  · omega
theorem Cor.rng (h : Cor s n Z i k) (a b : Int) (hb : b < 128) : (i < s.size ∧ a ≤ bt s i ∧ bt s i ≤ b) ↔ (k < n ∧ a ≤ Z k ∧ Z k ≤ b) := by
  rcases h.cases with ⟨e1, e2⟩ | ⟨h1, h2, h3, h4, _⟩ | ⟨h1, h2, h3, h4, _⟩
  · omega
  · omega
  · omega
/-- The one ahead. -/
def Prv (s : ByteArray) (Z : Nat → Int) (i k : Nat) : Prop := (1 ≤ i ∧ bt s (i - 1) = 60) ↔ (1 ≤ k ∧ Z (k - 1) = 60)
theorem Prv.start : Prv s Z 0 0 := by unfold Prv; omega
theorem Prv.asc (h : Z k = bt s i) : Prv s Z (i + 1) (k + 1) := by
  unfold Prv
  simp only [Nat.add_sub_cancel]
  rw [h]
  omega
theorem dv_last {r : Int} {m : Nat} (h : Dv s i r m) (hr : 128 ≤ r) : 128 ≤ bt s (i + m - 1) := by
  unfold Dv at h
  rcases h with h | ⟨rfl, h⟩ | ⟨rfl, h⟩ | ⟨rfl, h⟩
  · omega
  · rw [show i + 2 - 1 = i + 1 by omega]; omega
  · rw [show i + 3 - 1 = i + 2 by omega]; omega
  · rw [show i + 4 - 1 = i + 3 by omega]; omega
theorem Prv.far {r : Int} {m e : Nat} (h : Dv s i r m) (hr : 128 ≤ r) (he : 1 ≤ e) (hz : 128 ≤ Z (k + e - 1)) : Prv s Z (i + m) (k + e) := by
  have := dv_last h hr
  unfold Prv
  omega
theorem low_lt {x : Int} {j : Nat} (hj : j < 6) (h : low x = scrB j) : x < 128 := by
  have := scrB_le j hj
  unfold low at h
  split at h <;> omega
/-- The slash that ends a '</' in front of 'script', in bytes. -/
def scrb (s : ByteArray) (i : Nat) : Prop := 1 ≤ i ∧ bt s (i - 1) = 60 ∧ i + 7 ≤ s.size ∧ ∀ j, j < 6 → low (bt s (i + 1 + j)) = scrB j
theorem cor_run (f : Nat → Int → Prop) (hf : ∀ j x, j < 6 → f j x → x < 128) (h : Cor s n Z i k) : ∀ m, m ≤ 6 → ((i + m ≤ s.size ∧ ∀ j, j < m → f j (bt s (i + j))) ↔ (k + m ≤ n ∧ ∀ j, j < m → f j (Z (k + j)))) ∧ ((i + m ≤ s.size ∧ ∀ j, j < m → f j (bt s (i + j))) → Cor s n Z (i + m) (k + m)) := by
  intro m
  induction m with
  | zero =>
    intro _
    have := h.le
    exact ⟨⟨fun _ => ⟨by omega, fun j hj => absurd hj (Nat.not_lt_zero _)⟩, fun _ => ⟨by omega, fun j hj => absurd hj (Nat.not_lt_zero _)⟩⟩, fun _ => h⟩
  | succ m ih =>
    intro hm
    obtain ⟨ih1, ih2⟩ := ih (by omega)
    have up : ∀ (g : Nat → Int) (a b : Nat), (a + (m + 1) ≤ b ∧ ∀ j, j < m + 1 → f j (g (a + j))) ↔ ((a + m ≤ b ∧ ∀ j, j < m → f j (g (a + j))) ∧ a + m < b ∧ f m (g (a + m))) := fun g a b =>
      ⟨fun ⟨h1, h2⟩ => ⟨⟨by omega, fun j hj => h2 j (by omega)⟩, by omega, h2 m (by omega)⟩, fun ⟨⟨_, h2⟩, h3, h4⟩ => ⟨by omega, fun j hj => by
        by_cases e : j = m
        · subst e; exact h4
        · exact h2 j (by omega)⟩⟩
    rw [up (bt s) i s.size, up Z k n]
    constructor
    · constructor
      · rintro ⟨h1, h2, h3⟩
        have hc := ih2 h1
        have := (hc.nxt (bt s (i + m)) (hf m _ (by omega) h3)).1 ⟨h2, rfl⟩
        exact ⟨ih1.1 h1, this.1, by rw [this.2]; exact h3⟩
      · rintro ⟨h1, h2, h3⟩
        have h1' := ih1.2 h1
        have hc := ih2 h1'
        have := (hc.nxt (Z (k + m)) (hf m _ (by omega) h3)).2 ⟨h2, rfl⟩
        exact ⟨h1', this.1, by rw [this.2]; exact h3⟩
    · rintro ⟨h1, h2, h3⟩
      have hc := ih2 h1
      have hlt := hf m _ (by omega) h3
      rcases hc.cases with ⟨e1, e2⟩ | ⟨_, _, _, _, h5⟩ | ⟨_, _, h4, _, _⟩
      · omega
      · exact h5
      · omega
theorem scr_cor (h : Cor s n Z (i + 1) (k + 1)) (hp : Prv s Z i k) : scrb s i ↔ scr n Z false k := by
  have hr := (cor_run (fun j x => low x = scrB j) (fun j x hj h => low_lt hj h) h 6 (Nat.le_refl _)).1
  unfold scrb scr
  unfold Prv at hp
  constructor
  · rintro ⟨h1, h2, h3, h4⟩
    have a := hp.1 ⟨h1, h2⟩
    have b := hr.1 ⟨by omega, h4⟩
    exact ⟨rfl, a.1, a.2, by omega, b.2⟩
  · rintro ⟨_, h1, h2, h3, h4⟩
    have a := hp.2 ⟨h1, h2⟩
    have b := hr.2 ⟨by omega, h4⟩
    exact ⟨a.1, a.2, by omega, b.2⟩
end
/-- The decoder where a rune is known to stand. -/
def D31v (w : World) (r : Int) (m : Nat) (e : Ending) (w' : World) : Prop := e = .returned (.tuple #[.int .i32 r, .int .i64 (m : Int), .bool true]) ∧ ∃ q, w' = w.drewN q
theorem dv_one {s : ByteArray} {i : Nat} {r r' : Int} {m m' : Nat} (h : Dv s i r m) (h' : Dv s i r' m') : r = r' ∧ m = m' := by
  unfold Dv at h h'
  omega
theorem dec31v {s : ByteArray} {i : Nat} (hs : s.size ≤ 16777216) {r : Int} {m : Nat} (h : Dv s i r m) (w : World) : Calls Tryf.prog 31 #[.string s, .int .i64 (i : Int)] w (D31v w r m) := by
  refine (dec31 s i hs (dv_lt h).1 w).mono ?_
  rintro e w' ⟨hq, r', m', ok, rfl, hv⟩
  rcases hv.out with ⟨rfl, hd⟩ | ⟨_, _, _, hn⟩
  · obtain ⟨rfl, rfl⟩ := dv_one h hd
    exact ⟨rfl, hq⟩
  · exact absurd h (hn r m)
def S32 (w : World) (s : ByteArray) (i : Nat) (e : Ending) (w' : World) : Prop := w' = w ∧ ∃ v, e = .returned (.bool v) ∧ Hid (v = true ↔ scrb s i)
theorem s32n {w : World} {s : ByteArray} {i : Nat} (h : ¬ scrb s i) : S32 w s i (.returned (.bool false)) w := ⟨rfl, false, rfl, Lib.hid ⟨fun e => (by cases e), fun e => absurd e h⟩⟩
set_option maxRecDepth 100000 in
set_option maxHeartbeats 8000000 in
theorem scr32 (s : ByteArray) (i : Nat) (hs : s.size ≤ 16777216) (hi : i < s.size) (w : World) : Calls Tryf.prog 32 #[.string s, .int .i64 (i : Int)] w (S32 w s i) := by
  by_cases h1 : 1 ≤ i
  · obtain ⟨x, hx, hx0, hx1⟩ : ∃ x : Int, bt s (i - 1) = x ∧ 0 ≤ x ∧ x ≤ 255 := ⟨_, rfl, (bt_rng s _).1, (bt_rng s _).2⟩
    have gm : ∀ h' : i - 1 < s.size, ((s[i - 1]'h').toNat : Int) = x := fun h' => (get_bt s (i - 1) h').trans hx
    have HX := Lib.hid hx
    clear hx
    have km : i - 1 < s.size := by omega
    have em : ((i : Int) - 1).toNat = i - 1 := by omega
    have hm0 : (0 : Int) ≤ (i : Int) - 1 := by omega
    have hm1 : (i : Int) - 1 < (s.size : Int) := by omega
    have hi1 : ¬ (i : Int) < 1 := by omega
    by_cases hx60 : x = 60
    · subst hx60
      by_cases h7 : i + 7 ≤ s.size
      · have h72 : (i : Int) + 7 ≤ (s.size : Int) := by omega
        go_enter Tryf.func32, Tryf.ntmps32
        go_wp2_with fail
        go_loopw [6, 7] (fun j _ wr => ∃ k : Nat, k ≤ 6 ∧ j = .int .i64 k ∧ Hid (∀ j, j < k → low (bt s (i + 1 + j)) = scrB j) ∧ wr = w) (fun j _ _ => 6 - (intOf j).toNat)
        case atStart => exact ⟨0, Nat.zero_le _, rfl, Lib.hid fun j hj => absurd hj (Nat.not_lt_zero _), by trivial⟩
        case round =>
          obtain ⟨k, hk, rfl, HM, rfl⟩ := hrel
          by_cases hlt : k < 6
          · have hk2 : (k : Int) < 6 := by omega
            have kk : i + 1 + k < s.size := by omega
            obtain ⟨y, hy, hy0, hy1⟩ : ∃ y : Int, bt s (i + 1 + k) = y ∧ 0 ≤ y ∧ y ≤ 255 := ⟨_, rfl, (bt_rng s _).1, (bt_rng s _).2⟩
            have g0 : ∀ h' : i + 1 + k < s.size, ((s[i + 1 + k]'h').toNat : Int) = y := fun h' => (get_bt s (i + 1 + k) h').trans hy
            have HY := Lib.hid hy
            clear hy
            have ek : ((i : Int) + 1 + (k : Int)).toNat = i + 1 + k := by omega
            have hlt2 : (i : Int) + 1 + (k : Int) < (s.size : Int) := by omega
            obtain ⟨bs, hbs, hb0, hb1, hbe⟩ := scrG k hlt
            have HBE := Lib.hid hbe
            clear hbe
            have scrL : k < (⟨#[115, 99, 114, 105, 112, 116]⟩ : ByteArray).size := hlt
            have miss : ∀ y' : Int, low (bt s (i + 1 + k)) = y' → (y' != bs) = true → ¬ scrb s i := fun _ hl hm h => by
              have := h.2.2.2 k hlt
              rw [hl, ← HBE.out] at this
              rw [this] at hm
              simp at hm
            have MISS := Lib.hid miss
            clear miss
            by_cases g1 : 65 ≤ y
            · by_cases g2 : y ≤ 90
              · have wv : IntKind.u8.wrap (y + 32) = y + 32 := IntWalk.u8_in _ (by omega)
                have HL : Hid (low (bt s (i + 1 + k)) = y + 32) := Lib.hid (by rw [HY.out, low, if_pos ⟨g1, g2⟩])
                cases hm : (y + 32 != bs)
                · go_wp2_with fail
                  go_roundw
                  case rel => exact ⟨k + 1, by omega, by go_num, Lib.hid (mstep HM.out (by rw [HL.out, ← HBE.out]; simpa using hm)), by trivial⟩
                  case measure => simp [intOf]; omega
                · go_wp2_with fail
                  go_ret
                  exact s32n (MISS.out _ HL.out hm)
              · have HL : Hid (low (bt s (i + 1 + k)) = y) := Lib.hid (by rw [HY.out, low, if_neg (fun h => g2 h.2)])
                cases hm : (y != bs)
                · go_wp2_with fail
                  go_roundw
                  case rel => exact ⟨k + 1, by omega, by go_num, Lib.hid (mstep HM.out (by rw [HL.out, ← HBE.out]; simpa using hm)), by trivial⟩
                  case measure => simp [intOf]; omega
                · go_wp2_with fail
                  go_ret
                  exact s32n (MISS.out _ HL.out hm)
            · have HL : Hid (low (bt s (i + 1 + k)) = y) := Lib.hid (by rw [HY.out, low, if_neg (fun h => g1 h.1)])
              cases hm : (y != bs)
              · go_wp2_with fail
                go_roundw
                case rel => exact ⟨k + 1, by omega, by go_num, Lib.hid (mstep HM.out (by rw [HL.out, ← HBE.out]; simpa using hm)), by trivial⟩
                case measure => simp [intOf]; omega
              · go_wp2_with fail
                go_ret
                exact s32n (MISS.out _ HL.out hm)
          · obtain rfl : k = 6 := by omega
            go_wp2_with fail
            go_ret
            exact ⟨rfl, true, rfl, Lib.hid ⟨fun _ => ⟨h1, HX.out, h7, HM.out⟩, fun _ => rfl⟩⟩
      · have h72 : ¬ (i : Int) + 7 ≤ (s.size : Int) := by omega
        go_enter Tryf.func32, Tryf.ntmps32
        go_wp2_with fail
        go_ret
        exact s32n (fun h => h7 h.2.2.1)
    · have y60 : (x != 60) = true := by simpa using hx60
      go_enter Tryf.func32, Tryf.ntmps32
      go_wp2_with fail
      go_ret
      exact s32n (fun h => hx60 (HX.out.symm.trans h.2.1))
  · have hi1 : (i : Int) < 1 := by omega
    go_enter Tryf.func32, Tryf.ntmps32
    go_wp2_with fail
    go_ret
    exact s32n (fun h => h1 h.1)
theorem dv_high {s : ByteArray} {i : Nat} {r : Int} {m : Nat} (h : Dv s i r m) (hr : 128 ≤ r) : ∀ j, j < m → 128 ≤ bt s (i + j) := by
  intro j hj
  unfold Dv at h
  rcases h with h | ⟨rfl, h⟩ | ⟨rfl, h⟩ | ⟨rfl, h⟩
  · omega
  · rcases (by omega : j = 0 ∨ j = 1) with rfl | rfl <;> (try rw [Nat.add_zero]) <;> omega
  · rcases (by omega : j = 0 ∨ j = 1 ∨ j = 2) with rfl | rfl | rfl <;> (try rw [Nat.add_zero]) <;> omega
  · rcases (by omega : j = 0 ∨ j = 1 ∨ j = 2 ∨ j = 3) with rfl | rfl | rfl | rfl <;> (try rw [Nat.add_zero]) <;> omega
/-- How often the unit v stands among the first k. -/
def cntu (Z : Nat → Int) (v : Int) : Nat → Nat
  | 0 => 0
  | k + 1 => if Z k = v then cntu Z v k + 1 else cntu Z v k
theorem cntu_le (Z : Nat → Int) (v : Int) : ∀ k, cntu Z v k ≤ k
  | 0 => Nat.le_refl _
  | k + 1 => by
    have := cntu_le Z v k
    simp only [cntu]
    split <;> omega
/-- What one unit adds to the backticks' cost. -/
def bst (Z : Nat → Int) (n : Nat) (ms : Bool) (k : Nat) : Int := if Z k = 10 then (if ms then -1 else 0) else if Z k = 96 then 1 else if Z k = 36 ∧ k + 1 < n ∧ Z (k + 1) = 123 then 1 else 0
def bkc (Z : Nat → Int) (n : Nat) (ms : Bool) : Nat → Int
  | 0 => 0
  | k + 1 => bkc Z n ms k + bst Z n ms k
theorem bst_le (Z : Nat → Int) (n : Nat) (ms : Bool) (k : Nat) : -1 ≤ bst Z n ms k ∧ bst Z n ms k ≤ 1 := by
  unfold bst
  split
  · split <;> omega
  · split
    · omega
    · split <;> omega
theorem bkc_le (Z : Nat → Int) (n : Nat) (ms : Bool) : ∀ k : Nat, -(k : Int) ≤ bkc Z n ms k ∧ bkc Z n ms k ≤ k
  | 0 => ⟨Int.le_refl _, Int.le_refl _⟩
  | k + 1 => by
    have := bkc_le Z n ms k
    have := bst_le Z n ms k
    simp only [bkc]
    omega
/-- The quote that is chosen. -/
def qch (sg db bk : Int) (al : Bool) : Int := if sg < db then (if bk < sg ∧ al = true then 96 else 39) else (if bk < db ∧ al = true then 96 else 34)
theorem qch_cases (sg db bk : Int) (al : Bool) : qch sg db bk al = 34 ∨ qch sg db bk al = 39 ∨ qch sg db bk al = 96 := by
  unfold qch
  split
  · split <;> simp
  · split <;> simp
theorem cntu_skip {g : Nat → Int} {v : Int} {i : Nat} : ∀ m, (∀ j, j < m → g (i + j) ≠ v) → cntu g v (i + m) = cntu g v i
  | 0, _ => rfl
  | m + 1, h => by
    have := cntu_skip m (fun j hj => h j (by omega))
    rw [← this, ← Nat.add_assoc]
    simp only [cntu, if_neg (h m (by omega))]
theorem bst_high {g : Nat → Int} {n : Nat} {ms : Bool} {k : Nat} (h : 128 ≤ g k) : bst g n ms k = 0 := by
  unfold bst
  rw [if_neg (by omega), if_neg (by omega), if_neg (by omega)]
theorem bkc_skip {g : Nat → Int} {n : Nat} {ms : Bool} {i : Nat} : ∀ m, (∀ j, j < m → 128 ≤ g (i + j)) → bkc g n ms (i + m) = bkc g n ms i
  | 0, _ => rfl
  | m + 1, h => by
    have := bkc_skip m (fun j hj => h j (by omega)) (g := g) (n := n) (ms := ms)
    rw [← this, ← Nat.add_assoc]
    simp only [bkc, bst_high (h m (by omega))]
    omega
theorem cnt_cor {s : ByteArray} {n : Nat} {Z : Nat → Int} (v : Int) (hv : v < 128) (ms : Bool) : ∀ (d i k : Nat), s.size - i ≤ d → Cor s n Z i k → cntu (bt s) v i = cntu Z v k → bkc (bt s) s.size ms i = bkc Z n ms k → cntu (bt s) v s.size = cntu Z v n ∧ bkc (bt s) s.size ms s.size = bkc Z n ms n := by
  intro d
  induction d with
  | zero =>
    intro i k hd h e1 e2
    rcases h.cases with ⟨rfl, rfl⟩ | ⟨h1, _⟩ | ⟨h1, _⟩
    · exact ⟨e1, e2⟩
    · omega
    · omega
  | succ d ih =>
    intro i k hd h e1 e2
    rcases h.cases with ⟨rfl, rfl⟩ | ⟨h1, h2, h3, h4, h5⟩ | ⟨h1, h2, h3, h4, r, m, hdv, hr, hh⟩
    · exact ⟨e1, e2⟩
    · refine ih (i + 1) (k + 1) (by omega) h5 ?_ ?_
      · simp only [cntu, h4, e1]
      · have hx := h5.nxt 123 (by decide)
        have hb : bst (bt s) s.size ms i = bst Z n ms k := by
          unfold bst
          rw [h4]
          have hi : (bt s i = 36 ∧ i + 1 < s.size ∧ bt s (i + 1) = 123) ↔ (bt s i = 36 ∧ k + 1 < n ∧ Z (k + 1) = 123) := and_congr_right fun _ => hx
          simp only [hi]
        simp only [bkc, hb, e2]
    · have hl := dv_lt hdv
      have hb := dv_high hdv hr
      have b1 : cntu (bt s) v (i + m) = cntu (bt s) v i := cntu_skip m (fun j hj e => by have := hb j hj; omega)
      have b2 : bkc (bt s) s.size ms (i + m) = bkc (bt s) s.size ms i := bkc_skip m hb
      rcases hh with ⟨_, _, hc⟩ | ⟨_, _, _, hz, hc⟩
      · refine ih (i + m) (k + 1) (by omega) hc ?_ ?_
        · rw [b1, e1]
          exact (cntu_skip 1 (fun j hj e => by have : j = 0 := by omega
                                               subst this; rw [Nat.add_zero] at e; omega)).symm
        · rw [b2, e2]
          exact (bkc_skip 1 (fun j hj => by have : j = 0 := by omega
                                            subst this; rw [Nat.add_zero]; exact h4)).symm
      · have hzz : ∀ j, j < 2 → 128 ≤ Z (k + j) := fun j hj => by
          rcases (by omega : j = 0 ∨ j = 1) with rfl | rfl
          · rw [Nat.add_zero]; exact h4
          · omega
        refine ih (i + m) (k + 2) (by omega) hc ?_ ?_
        · rw [b1, e1]
          exact (cntu_skip 2 (fun j hj e => by have := hzz j hj; omega)).symm
        · rw [b2, e2]
          exact (bkc_skip 2 hzz).symm
end Go.Proofs.YtfhafelkkophgaaFmt.Aux
