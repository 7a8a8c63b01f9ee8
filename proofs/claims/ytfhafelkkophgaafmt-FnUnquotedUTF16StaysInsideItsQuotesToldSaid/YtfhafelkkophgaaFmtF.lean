/- Contracts of functions that the law of this seat reaches, and plain facts; no condition. -/
import Derived.Test.YtfhafelkkophgaaFmtProg
import Derived.WalkKit
import Derived.ProofKit
import Derived.OpenShut
import Derived.ShutString
import Derived.Test.YtfhafelkkophgaaFmtAid
import Derived.Test.YtfhafelkkophgaaFmtD1
import Derived.Test.YtfhafelkkophgaaFmtD2
import Derived.Test.YtfhafelkkophgaaFmtD3
import Derived.ArgAppend
import Derived.WalkSpells
import Derived.LoopTactic
import Derived.IntWalk
import Derived.Outline
import Derived.Deep.QuietTactic
import Derived.BigQuiet
import Derived.Deep.RegionHeld3
import Derived.Deep.RegionLaw
import Derived.StillTailTactics
import Derived.OwnWalk
import Derived.RegionTactic
import Derived.Laws.BitsAllLaws
import Derived.Laws.BitsLemmas
import Derived.Laws.IdiomStrings
import Derived.Lib.BufferRead
import Derived.Lib.ConvBytes
namespace Go.Proofs.YtfhafelkkophgaaFmt.Aux
open Go.ChangeShapes Go.WideShapes Go.ChangeAt Go.RowKit
open Go.ChangeMaps (open_string shut_string)
set_option linter.unusedVariables false
set_option linter.unusedSimpArgs false
open Fl Str Pb Qd PlainAid Aux
theorem cl10_info : (Tryf.prog.info? 5).map (fun i => (i.zero, i.size, i.bytes)) = some (some (.int .u8 0), 1, 1) := by kernel_rfl
theorem cl10 (a : Option Addr) (len cap : Nat) (S : Nat → Int) (w : World) (h : Fsl w a len (fun i => .int .u8 (S i))) (hlen : len ≤ 137438953472) :
    Calls Tryf.prog 10 #[.slice a len cap] w (Cop w a len 5 (fun i => .int .u8 (S i))) := by
  have hnil : ∀ w : World, (binOp .eql 25 (.slice a len cap) (.slice none 0 0)).run Tryf.prog w = .ok (.bool a.isNone) w := fun w => Lib.run_eql_slice_nil w 25 5 _ _ _ _ _ Tryf.underlying25
  have hmk := run_make_one (P := Tryf.prog) Tryf.underlying25 cl10_info rfl (by omega) len hlen
  cases a with
  | none =>
    have H := Lib.hid (Cop.nil (t := 5) h)
    go_enter Tryf.func10, Tryf.ntmps10
    go_wp2
    go_ret
    exact H.out
  | some x =>
    go_enter Tryf.func10, Tryf.ntmps10
    go_wp2
    go_loopw [4] (fun i wr => ∃ k : Nat, k ≤ len ∧ i = .int .i64 k ∧ Fblk wr w.heap.size 5 len (parV (fun i => .int .u8 (S i)) (.int .u8 0) k) ∧ Below w.heap.size w wr) (fun i _ => len - (intOf i).toNat)
    case atStart => exact ⟨0, by omega, rfl, by rw [parV_zero]; exact Fblk.made _ _ _ _, (Below.refl _ _).alloc (Nat.le_refl _) _⟩
    case round =>
      obtain ⟨k, hk, rfl, hb, hl⟩ := hrel
      have HB := Lib.hid hb
      by_cases hlt : k < len
      · obtain ⟨b, off, e, hlb, hc⟩ := h.at k hlt
        injection e with e
        subst e
        have hc' : wr.cell? ⟨b, off + k, none⟩ = some (.int .u8 (S k)) := by rw [hl.cell (p := ⟨b, off + k, none⟩) hlb]; exact hc
        have hd := hb.cell k hlt
        have hz := hb.frozen k
        have hk2 : (k : Int) < (len : Int) := by omega
        clear hc hb
        go_wp2
        go_roundw
        case rel => exact ⟨k + 1, by omega, by go_num, by rw [← parV_set]; exact HB.out.set k _, hl.setCell (Nat.le_refl _) _⟩
        case measure => simp [intOf]; omega
      · obtain rfl : k = len := by omega
        clear hb
        go_wp2
        go_ret
        exact Cop.mk (HB.out.congr fun i hi => by simp [parV, hi]) hl (Nat.le_refl _)

def Bl2 (w : World) (e : Ending) (w' : World) : Prop := w' = w ∧ ∃ v, e = .returned (.bool v)
theorem gd9 (a0 : Option Addr) (l0 c0 : Nat) (a1 : Option Addr) (l1 c1 : Nat) (x2 : Int) (x3 : Int) (x4 : Bool) (x5 : Bool) (x6 : Int) (w : World) : Calls Tryf.prog 9 #[.slice a0 l0 c0, .slice a1 l1 c1, .int .i32 x2, .int .u8 x3, .bool x4, .bool x5, .int .i64 x6] w (Bl2 w) := by
  by_cases h0 : (1048576 : Int) < (l0 : Int)
  · go_enter Tryf.func9, Tryf.ntmps9
    go_wp2_with fail
    go_ret
    exact ⟨rfl, _, rfl⟩
  have e0 : IntKind.i64.wrap ((l0 : Int)) = (l0 : Int) := IntWalk.i64_in _ (by omega)
  by_cases h1 : (1048576 : Int) < (l1 : Int)
  · go_enter Tryf.func9, Tryf.ntmps9
    go_wp2_with fail
    go_ret
    exact ⟨rfl, _, rfl⟩
  have e1 : IntKind.i64.wrap ((l0 : Int) + (l1 : Int)) = (l0 : Int) + (l1 : Int) := IntWalk.i64_in _ (by omega)
  by_cases g1 : (1048576 : Int) < (l0 : Int) + (l1 : Int)
  · go_enter Tryf.func9, Tryf.ntmps9
    go_wp2_with fail
    go_ret
    exact ⟨rfl, _, rfl⟩
  go_enter Tryf.func9, Tryf.ntmps9
  go_wp2_with fail
  go_ret
  exact ⟨rfl, _, rfl⟩
/-- The bytes of a list of numbers. -/
def strOf (P : List Int) : ByteArray := ⟨(P.map fun x => x.toNat.toUInt8).toArray⟩
theorem strOf_size (P : List Int) : (strOf P).size = P.length := by simp [strOf, ByteArray.size]
theorem strOf_bt {P : List Int} (h : ∀ x ∈ P, 0 ≤ x ∧ x ≤ 255) (i : Nat) (hi : i < P.length) : bt (strOf P) i = P[i] := by
  have hs : i < (strOf P).size := by rw [strOf_size]; exact hi
  rw [bt_get _ i hs]
  have := h P[i] (List.getElem_mem hi)
  simp only [strOf, List.getElem_map]
  rw [u8_of_int _ this.1 this.2]
  omega
theorem conv_run {P : List Int} (h : ∀ x ∈ P, 0 ≤ x ∧ x ≤ 255) {a : Addr} {c : Nat} {w : World} (hc : ∀ j, (hj : j < P.length) → w.cell? (a.add j) = some (.int .u8 P[j])) :
    (convert 25 9 (.slice (some a) P.length c)).run Tryf.prog w = .ok (.string (strOf P)) w := by
  have := run_convert_bytes_back (P := Tryf.prog) w 25 9 5 a c (P.map fun x => x.toNat.toUInt8) Tryf.underlying25 Tryf.underlying5 Tryf.underlying9 (fun j hj => by
    have hj' : j < P.length := by simpa using hj
    rw [hc j hj']
    have hb := h P[j] (List.getElem_mem hj')
    simp only [List.getElem_map]
    rw [u8_of_int _ hb.1 hb.2]
    congr 2
    omega)
  rw [List.length_map] at this
  exact this
theorem conv_nil (c : Nat) (w : World) : (convert 25 9 (.slice none 0 c)).run Tryf.prog w = .ok (.string (strOf [])) w :=
  Lib.run_convert_nil_bytes w 25 9 5 c Tryf.underlying25 Tryf.underlying5 Tryf.underlying9
def Eqt (w : World) (e : Ending) (w' : World) : Prop := e = .returned (.bool true) ∧ ∃ q, w' = w.drewN q
theorem eq12 (a1 a2 : Option Addr) (n c1 c2 : Nat) (V : Nat → Int) (w : World) (hn : n ≤ 16777216) (h1 : Fsl w a1 n (fun i => .int .u8 (V i))) (h2 : Fsl w a2 n (fun i => .int .u8 (V i))) : Calls Tryf.prog 12 #[.slice a1 n c1, .slice a2 n c2] w (Eqt w) := by
  have H1 := Lib.hid h1
  have H2 := Lib.hid h2
  clear h1 h2
  go_enter Tryf.func12, Tryf.ntmps12
  go_wp2_with fail
  go_loopw [5] (fun i wr => ∃ k : Nat, k ≤ n ∧ i = .int .i64 k ∧ ∃ q, wr = w.drewN q) (fun i _ => n - (intOf i).toNat)
  case atStart => exact ⟨0, Nat.zero_le _, rfl, 0, rfl⟩
  case round =>
    obtain ⟨k, hk, rfl, qq, rfl⟩ := hrel
    by_cases hlt : k < n
    · obtain ⟨b, off, e, hlb, hc⟩ := H1.out.at k hlt
      subst e
      obtain ⟨b2, off2, e2, hlb2, hc2⟩ := H2.out.at k hlt
      subst e2
      have hk2 : (k : Int) < (n : Int) := by omega
      go_wp2_with fail
      go_quiet (fail)
      go_wp2_with fail
      go_roundw
      case rel => exact ⟨k + 1, by omega, by go_num, _, rfl⟩
      case measure => simp [intOf]; omega
    · obtain rfl : k = n := by omega
      go_wp2_with fail
      go_ret
      exact ⟨rfl, _, rfl⟩
def Msc (w : World) (s : ByteArray) (i : Nat) (e : Ending) (w' : World) : Prop := w' = w ∧ ∃ v, e = .returned (.bool v) ∧ Hid (v = true → ∀ j, j < 6 → low (bt s (i + j)) = scrB j)
set_option maxHeartbeats 4000000 in
theorem msc13 (s : ByteArray) (i : Nat) (hs : s.size ≤ 16777216) (hi : i + 6 ≤ s.size) (w : World) : Calls Tryf.prog 13 #[.string s, .int .i64 (i : Int)] w (Msc w s i) := by
  go_enter Tryf.func13, Tryf.ntmps13
  go_wp2_with fail
  go_loopw [6, 7] (fun j _ wr => ∃ k : Nat, k ≤ 6 ∧ j = .int .i64 k ∧ Hid (∀ j, j < k → low (bt s (i + j)) = scrB j) ∧ wr = w) (fun j _ _ => 6 - (intOf j).toNat)
  case atStart => exact ⟨0, Nat.zero_le _, rfl, Lib.hid fun j hj => absurd hj (Nat.not_lt_zero _), by trivial⟩
  case round =>
    obtain ⟨k, hk, rfl, HM, rfl⟩ := hrel
    by_cases hlt : k < 6
    · have hk2 : (k : Int) < 6 := by omega
      have kk : i + k < s.size := by omega
      have hb := get_bt s (i + k) kk
      have hl : (s[i + k]'kk).toNat < 256 := (s[i + k]'kk).toNat_lt
      obtain ⟨x, hx, hx0, hx1⟩ : ∃ x : Int, bt s (i + k) = x ∧ 0 ≤ x ∧ x ≤ 255 := ⟨_, rfl, by omega, by omega⟩
      have g0 : ∀ h' : i + k < s.size, ((s[i + k]'h').toNat : Int) = x := fun h' => (get_bt s (i + k) h').trans hx
      have HX := Lib.hid hx
      clear hb hl hx
      have ek : ((i : Int) + (k : Int)).toNat = i + k := by omega
      have hlt2 : (i : Int) + (k : Int) < (s.size : Int) := by omega
      obtain ⟨bs, hbs, hb0, hb1, hbe⟩ := scrG k hlt
      have HBE := Lib.hid hbe
      clear hbe
      have scrL : k < (⟨#[115, 99, 114, 105, 112, 116]⟩ : ByteArray).size := hlt
      by_cases g1 : 65 ≤ x
      · by_cases g2 : x ≤ 90
        · have wv : IntKind.u8.wrap (x + 32) = x + 32 := by rw [IntKind.wrap_u8']; omega
          have HL : Hid (low (bt s (i + k)) = x + 32) := Lib.hid (by rw [HX.out, low, if_pos ⟨g1, g2⟩])
          cases hm : (x + 32 != bs)
          · go_wp2_with fail
            go_roundw
            case rel => exact ⟨k + 1, by omega, by go_num, Lib.hid (mstep HM.out (by rw [HL.out, ← HBE.out]; simpa using hm)), by trivial⟩
            case measure => simp [intOf]; omega
          · go_wp2_with fail
            go_ret
            exact ⟨rfl, _, rfl, Lib.hid fun e => by cases e⟩
        · have HL : Hid (low (bt s (i + k)) = x) := Lib.hid (by rw [HX.out, low, if_neg (fun h => g2 h.2)])
          cases hm : (x != bs)
          · go_wp2_with fail
            go_roundw
            case rel => exact ⟨k + 1, by omega, by go_num, Lib.hid (mstep HM.out (by rw [HL.out, ← HBE.out]; simpa using hm)), by trivial⟩
            case measure => simp [intOf]; omega
          · go_wp2_with fail
            go_ret
            exact ⟨rfl, _, rfl, Lib.hid fun e => by cases e⟩
      · have HL : Hid (low (bt s (i + k)) = x) := Lib.hid (by rw [HX.out, low, if_neg (fun h => g1 h.1)])
        cases hm : (x != bs)
        · go_wp2_with fail
          go_roundw
          case rel => exact ⟨k + 1, by omega, by go_num, Lib.hid (mstep HM.out (by rw [HL.out, ← HBE.out]; simpa using hm)), by trivial⟩
          case measure => simp [intOf]; omega
        · go_wp2_with fail
          go_ret
          exact ⟨rfl, _, rfl, Lib.hid fun e => by cases e⟩
    · obtain rfl : k = 6 := by omega
      go_wp2_with fail
      go_ret
      exact ⟨rfl, _, rfl, Lib.hid fun _ => HM.out⟩
theorem enc_bytes {r : Int} (h : validR r) : ∀ x ∈ Lib.encodeRuneZ r, 128 ≤ x ∧ x ≤ 255 := by
  obtain ⟨h1, h2, -⟩ := h
  by_cases a : r ≤ 2047
  · rw [Lib.encodeRuneZ_two h1 a]
    intro x hx
    simp at hx
    rcases hx with rfl | rfl <;> omega
  by_cases c : r ≤ 65535
  · rw [Lib.encodeRuneZ_three (by omega)]
    intro x hx
    simp at hx
    rcases hx with rfl | rfl | rfl <;> omega
  · rw [Lib.encodeRuneZ_four (by omega) (by omega)]
    intro x hx
    simp at hx
    rcases hx with rfl | rfl | rfl | rfl <;> omega
theorem sc_bytes {n : Nat} {Z : Nat → Int} {q : Int} {ns ao wl : Bool} (hZ : ∀ i, i < n → 0 ≤ Z i ∧ Z i ≤ 65535) : ∀ (m : Nat) (X : List Int), X.length ≤ m → Sc n Z q ns ao wl X → ∀ x ∈ X, 0 ≤ x ∧ x ≤ 255 := by
  intro m
  induction m with
  | zero =>
    intro X hX _ x hx
    have : X = [] := List.length_eq_zero_iff.1 (by omega)
    rw [this] at hx
    cases hx
  | succ m ih =>
    intro X hX hS x hx
    cases X with
    | nil => cases hx
    | cons b T =>
      simp only [List.length_cons] at hX
      rcases sc_step hZ hS with ⟨rfl, c, T', rfl, c0, c1, hT⟩ | ⟨b0, b1, _, _, hT, _⟩ | ⟨r, Y, e, hr, _, hY⟩
      · simp only [List.length_cons] at hX
        rcases List.mem_cons.1 hx with rfl | hx
        · omega
        · rcases List.mem_cons.1 hx with rfl | hx
          · omega
          · exact ih T' (by omega) hT x hx
      · rcases List.mem_cons.1 hx with rfl | hx
        · omega
        · exact ih T (by omega) hT x hx
      · rw [e] at hx
        rcases List.mem_append.1 hx with hx | hx
        · have := enc_bytes hr x hx
          omega
        · have hl := congrArg List.length e
          have h1 := (Lib.encodeRuneZ_length r).1
          simp at hl
          exact ih Y (by omega) hY x hx
theorem drop_bt {P l X : List Int} (hP : ∀ x ∈ P, 0 ≤ x ∧ x ≤ 255) {i : Nat} (hd : P.drop i = l ++ X) (j : Nat) (hj : j < l.length) : i + j < P.length ∧ bt (strOf P) (i + j) = l[j] := by
  have hl := congrArg List.length hd
  simp at hl
  have hlt : i + j < P.length := by omega
  refine ⟨hlt, ?_⟩
  rw [strOf_bt hP _ hlt]
  have h1 : (P.drop i)[j]? = some P[i + j] := by rw [List.getElem?_drop, List.getElem?_eq_getElem hlt]
  rw [hd, List.getElem?_append_left hj, List.getElem?_eq_getElem hj] at h1
  injection h1 with h1
  exact h1.symm
theorem decG {P : List Int} (hP : ∀ x ∈ P, 0 ≤ x ∧ x ≤ 255) (hs : P.length ≤ 16777216) {i : Nat} {r : Int} {X : List Int} (hd : P.drop i = Lib.encodeRuneZ r ++ X) (hr : validR r) (w : World) :
    Calls Tryf.prog 14 #[.string (strOf P), .int .i64 (i : Int)] w (DecT w r (Lib.encodeRuneZ r).length) := by
  have D := drop_bt hP hd
  have hsz := strOf_size P
  obtain ⟨h1, h2, -⟩ := hr
  by_cases a : r ≤ 2047
  · rw [Lib.encodeRuneZ_two h1 a] at D ⊢
    obtain ⟨_, d0⟩ := D 0 (by simp)
    obtain ⟨l1, d1⟩ := D 1 (by simp)
    simp only [List.getElem_cons_zero, List.getElem_cons_succ, Nat.add_zero] at d0 d1
    have := dec2 (strOf P) i (by omega) (by omega) _ _ d0 d1 (by omega) (by omega) (by omega) (by omega) w
    rw [show (192 + r / 64 - 192) * 64 + (128 + r % 64 - 128) = r by omega] at this
    exact this
  by_cases c : r ≤ 65535
  · rw [Lib.encodeRuneZ_three (by omega)] at D ⊢
    obtain ⟨_, d0⟩ := D 0 (by simp)
    obtain ⟨_, d1⟩ := D 1 (by simp)
    obtain ⟨l2, d2⟩ := D 2 (by simp)
    simp only [List.getElem_cons_zero, List.getElem_cons_succ, Nat.add_zero] at d0 d1 d2
    by_cases c1 : r ≤ 4095
    · have := dec3a (strOf P) i (by omega) (by omega) _ _ _ d0 d1 d2 (by omega) (by omega) (by omega) (by omega) (by omega) w
      rw [show (128 + r / 64 % 64 - 128) * 64 + (128 + r % 64 - 128) = r by omega] at this
      exact this
    by_cases c2 : 53248 ≤ r ∧ r ≤ 57343
    · have := dec3b (strOf P) i (by omega) (by omega) _ _ _ d0 d1 d2 (by omega) (by omega) (by omega) (by omega) (by omega) w
      rw [show 53248 + (128 + r / 64 % 64 - 128) * 64 + (128 + r % 64 - 128) = r by omega] at this
      exact this
    · have := dec3c (strOf P) i (by omega) (by omega) _ _ _ d0 d1 d2 (by omega) (by omega) (by simp; omega) (by omega) (by omega) (by omega) (by omega) w
      rw [show (224 + r / 4096 - 224) * 4096 + (128 + r / 64 % 64 - 128) * 64 + (128 + r % 64 - 128) = r by omega] at this
      exact this
  · rw [Lib.encodeRuneZ_four (by omega) (by omega)] at D ⊢
    obtain ⟨_, d0⟩ := D 0 (by simp)
    obtain ⟨_, d1⟩ := D 1 (by simp)
    obtain ⟨_, d2⟩ := D 2 (by simp)
    obtain ⟨l3, d3⟩ := D 3 (by simp)
    simp only [List.getElem_cons_zero, List.getElem_cons_succ, Nat.add_zero] at d0 d1 d2 d3
    by_cases c1 : r ≤ 262143
    · have := dec4a (strOf P) i (by omega) (by omega) _ _ _ _ d0 d1 d2 d3 (by omega) (by omega) (by omega) (by omega) (by omega) (by omega) (by omega) w
      rw [show (128 + r / 4096 % 64 - 128) * 4096 + (128 + r / 64 % 64 - 128) * 64 + (128 + r % 64 - 128) = r by omega] at this
      exact this
    by_cases c2 : 1048576 ≤ r
    · have := dec4b (strOf P) i (by omega) (by omega) _ _ _ _ d0 d1 d2 d3 (by omega) (by omega) (by omega) (by omega) (by omega) (by omega) (by omega) w
      rw [show 1048576 + (128 + r / 4096 % 64 - 128) * 4096 + (128 + r / 64 % 64 - 128) * 64 + (128 + r % 64 - 128) = r by omega] at this
      exact this
    · have := dec4c (strOf P) i (by omega) (by omega) _ _ _ _ d0 d1 d2 d3 (by omega) (by omega) (by omega) (by omega) (by omega) (by omega) (by omega) (by omega) w
      rw [show (240 + r / 262144 - 240) * 262144 + (128 + r / 4096 % 64 - 128) * 4096 + (128 + r / 64 % 64 - 128) * 64 + (128 + r % 64 - 128) = r by omega] at this
      exact this
end Go.Proofs.YtfhafelkkophgaaFmt.Aux
