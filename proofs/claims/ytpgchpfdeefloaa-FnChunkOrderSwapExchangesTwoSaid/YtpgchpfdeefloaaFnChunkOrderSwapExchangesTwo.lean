/- After Swap(i, j) position i holds the old element j and position j the old element i; every other position is unchanged. No condition. -/
import Derived.Test.YtpgchpfdeefloaaRows
import Derived.WalkKit
import Derived.ProofKit
import Derived.OpenShut
import Derived.ShutString
import Derived.Test.YtpgchpfdeefloaaFacts
import Derived.Test.YtpgchpfdeefloaaAid
import Derived.Test.YtpgchpfdeefloaaSl
import Derived.Outline
import Derived.LoopTactic
import Derived.RegionTactic
import Derived.ChangeAlike
import Derived.Deep.QuietTactic
import Derived.BigQuiet
import Derived.Deep.DeepCutAuto
namespace Go.Proofs.Ytpgchpfdeefloaa.fnChunkOrderSwapExchangesTwo
open Go.ChangeShapes Go.WideShapes Go.ChangeAt Go.RowKit
open Go.ChangeMaps (open_string shut_string)
set_option linter.unusedVariables false

theorem own : ownKnob Try.prog.godebug = none := by kernel_rfl
theorem laidOut : laidOutB Try.prog = true := by kernel_rfl

open Sl
theorem copyU_info : (Try.prog.info? 43).map (fun i => (i.zero, i.size, i.bytes)) = some (some (.int .u32 0), 1, 4) := by kernel_rfl
theorem copyU (a : Option Addr) (len cap : Nat) (zs : List Int) (w : World) (h : Sl .u32 w a len zs) (hlen : len ≤ 17592186044416) :
    Calls Try.prog 24 #[.slice a len cap] w (Copied .u32 w a len zs) := by
  have hnil : ∀ w : World, (binOp .eql 35 (.slice a len cap) (.slice none 0 0)).run Try.prog w = .ok (.bool a.isNone) w := fun w => Lib.run_eql_slice_nil w 35 43 _ _ _ _ _ Try.underlying35
  have hmk := run_make_ints (P := Try.prog) Try.underlying35 copyU_info (by omega) len hlen
  cases a with
  | none =>
    have H := Lib.hid (Copied.nil h)
    go_enter Try.func24, Try.ntmps24
    go_wp2
    go_ret
    exact H.out
  | some x =>
    have HL := Lib.hid h.len
    go_enter Try.func24, Try.ntmps24
    go_wp2
    go_loopw [4] (fun i wr => ∃ k : Nat, k ≤ len ∧ i = .int .i64 k ∧ Blk .u32 wr w.heap.size 43 (partOf zs k) ∧ Below w.heap.size w wr) (fun i _ => len - (intOf i).toNat)
    case atStart => exact ⟨0, by omega, rfl, by rw [partOf_zero, HL.out]; exact Blk.made _ _ _ _, (Below.refl _ _).alloc (Nat.le_refl _) _⟩
    case round =>
      obtain ⟨k, hk, rfl, hb, hl⟩ := hrel
      by_cases hlt : k < len
      · obtain ⟨b, off, e, hlb, hc⟩ := h.at k hlt
        injection e with e
        subst e
        have hc' : wr.cell? ⟨b, off + k, none⟩ = some (.int .u32 (nth zs k)) := by rw [hl.cell (p := ⟨b, off + k, none⟩) hlb]; exact hc
        have hd := hb.cell k (by rw [partOf_len _ _ (by rw [HL.out]; omega), HL.out]; exact hlt)
        have hz := hb.frozen k
        have hk2 : (k : Int) < (len : Int) := by omega
        clear hc
        go_wp2
        go_roundw
        case rel => exact ⟨k + 1, by omega, by go_num, by rw [← partOf_set zs k (by rw [HL.out]; exact hlt)]; exact hb.set k _, hl.setCell (Nat.le_refl _) _⟩
        case measure => simp [intOf]; omega
      · obtain rfl : k = len := by omega
        rw [show partOf zs k = zs by rw [← HL.out]; exact partOf_all zs] at hb
        go_wp2
        go_ret
        exact Copied.mk HL.out (by unfold maxLen; omega) hb hl (Nat.le_refl _)

/-- The flat list f holds the triples of S, D, T up to k. -/
def Tri (f S D T : List Int) (k : Nat) : Prop := ∀ i, i < k → nth f (i * 3) = nth S i ∧ nth f (i * 3 + 1) = nth D i ∧ nth f (i * 3 + 2) = nth T i
theorem Tri.step {f S D T : List Int} {k n : Nat} (h : Tri f S D T k) (hl : f.length = n * 3) (hk : k < n) : Tri (((f.set (k * 3) (nth S k)).set (k * 3 + 1) (nth D k)).set (k * 3 + 2) (nth T k)) S D T (k + 1) := by
  intro i hi
  have l1 : ∀ a b c (x : Int) (y : Int) (z : Int), (((f.set a x).set b y).set c z).length = f.length := fun _ _ _ _ _ _ => by simp
  have l2 : ∀ a b (x : Int) (y : Int), ((f.set a x).set b y).length = f.length := fun _ _ _ _ => by simp
  have l3 : ∀ a (x : Int), (f.set a x).length = f.length := fun _ _ => by simp
  by_cases e : i = k
  · subst e
    refine ⟨?_, ?_, ?_⟩
    · rw [nth_set _ _ _ _ (by rw [l2]; omega), if_neg (by omega), nth_set _ _ _ _ (by rw [l3]; omega), if_neg (by omega), nth_set _ _ _ _ (by omega), if_pos rfl]
    · rw [nth_set _ _ _ _ (by rw [l2]; omega), if_neg (by omega), nth_set _ _ _ _ (by rw [l3]; omega), if_pos rfl]
    · rw [nth_set _ _ _ _ (by rw [l2]; omega), if_pos rfl]
  · obtain ⟨h1, h2, h3⟩ := h i (by omega)
    refine ⟨?_, ?_, ?_⟩
    · rw [nth_set _ _ _ _ (by rw [l2]; omega), if_neg (by omega), nth_set _ _ _ _ (by rw [l3]; omega), if_neg (by omega), nth_set _ _ _ _ (by omega), if_neg (by omega)]; exact h1
    · rw [nth_set _ _ _ _ (by rw [l2]; omega), if_neg (by omega), nth_set _ _ _ _ (by rw [l3]; omega), if_neg (by omega), nth_set _ _ _ _ (by omega), if_neg (by omega)]; exact h2
    · rw [nth_set _ _ _ _ (by rw [l2]; omega), if_neg (by omega), nth_set _ _ _ _ (by rw [l3]; omega), if_neg (by omega), nth_set _ _ _ _ (by omega), if_neg (by omega)]; exact h3
theorem info99 : (Try.prog.info? 99).map (fun i => (i.zero, i.size, i.bytes)) = some (some (.agg #[.int .u32 0, .int .u32 0, .int .u32 0]), 3, 12) := by kernel_rfl
theorem made3 (w : World) (n : Nat) : Blk .u32 (w.alloc (.cells (madeCells #[.int .u32 0, .int .u32 0, .int .u32 0] (n * 3)) 99)) w.heap.size 99 (List.replicate (n * 3) 0) := by
  unfold Blk
  rw [heap_alloc_new]
  congr 2
  apply Array.ext'
  unfold madeCells
  apply List.ext_getElem
  · simp
  · intro i h1 h2
    simp
    have : i % 3 = 0 ∨ i % 3 = 1 ∨ i % 3 = 2 := by omega
    rcases this with h | h | h <;> simp [h]
def MadeTri (w : World) (n : Nat) (S D T : List Int) (e : Ending) (w' : World) : Prop := ∃ b f, e = .returned (.slice (some ⟨b, 0, none⟩) n n) ∧ w.heap.size ≤ b ∧ Blk .u32 w' b 99 f ∧ f.length = n * 3 ∧ Tri f S D T n ∧ Below w.heap.size w w'
set_option maxHeartbeats 1000000 in
theorem mk (a b c : Option Addr) (n ca cb cc : Nat) (S D T : List Int) (w : World) (hS : Sl .u32 w a n S) (hD : Sl .u32 w b n D) (hT : Sl .u32 w c n T) (hn : n ≤ 65536) :
    Calls Try.prog 25 #[.slice a n ca, .slice b n cb, .slice c n cc] w (MadeTri w n S D T) := by
  obtain ⟨i0, hi, hz0, hz1, hz2⟩ := info_parts info99
  have hmk : ∀ w : World, (Instr.makeSlice 39 (.int .i64 n) (.int .i64 n)).run Try.prog w = .ok (.slice (some ⟨w.heap.size, 0, none⟩) n n) (w.alloc (.cells (madeCells #[.int .u32 0, .int .u32 0, .int .u32 0] (n * 3)) 99)) := fun w => by
    have h := run_make (P := Try.prog) w 39 99 i0 _ Try.underlying39 hi hz0 .i64 .i64 (n : Int) (n : Int) (by omega) (Int.le_refl _) (by rw [hz2]; omega) (by omega)
    rw [hz1] at h
    simpa [Value.cells] using h
  clear hi hz0 hz1 hz2
  go_enter Try.func25, Try.ntmps25
  go_wp2
  go_loopw [9] (fun i wr => ∃ k : Nat, k ≤ n ∧ i = .int .i64 k ∧ ∃ f, Blk .u32 wr w.heap.size 99 f ∧ Hid (f.length = n * 3) ∧ Tri f S D T k ∧ Below w.heap.size w wr) (fun i _ => n - (intOf i).toNat)
  case atStart => exact ⟨0, by omega, rfl, _, made3 w n, by simp [Hid], fun i hi => by omega, (Below.refl _ _).alloc (Nat.le_refl _) _⟩
  case round =>
    obtain ⟨k, hk, rfl, f, hb, hfl, ht, hbel⟩ := hrel
    by_cases hlt : k < n
    · obtain ⟨bS, oS, rfl, lS, cS0⟩ := hS.at k hlt
      obtain ⟨bD, oD, rfl, lD, cD0⟩ := hD.at k hlt
      obtain ⟨bT, oT, rfl, lT, cT0⟩ := hT.at k hlt
      have cS : wr.cell? ⟨bS, oS + k, none⟩ = some (.int .u32 (nth S k)) := by rw [hbel.cell (p := ⟨bS, oS + k, none⟩) lS]; exact cS0
      have cD : wr.cell? ⟨bD, oD + k, none⟩ = some (.int .u32 (nth D k)) := by rw [hbel.cell (p := ⟨bD, oD + k, none⟩) lD]; exact cD0
      have cT : wr.cell? ⟨bT, oT + k, none⟩ = some (.int .u32 (nth T k)) := by rw [hbel.cell (p := ⟨bT, oT + k, none⟩) lT]; exact cT0
      have d0 := hb.cell (k * 3) (by have := hfl.out; omega)
      have d1 := hb.cell (k * 3 + 1) (by have := hfl.out; omega)
      have d2 := hb.cell (k * 3 + 2) (by have := hfl.out; omega)
      have z0 := hb.frozen (k * 3)
      have z1 := hb.frozen (k * 3 + 1)
      have z2 := hb.frozen (k * 3 + 2)
      have hk2 : (k : Int) < (n : Int) := by omega
      clear cS0 cD0 cT0
      go_wp2
      go_region
      all_goals
        go_wp2
        go_roundw
        case rel => exact ⟨k + 1, by omega, by go_num, _, ((hb.set (k * 3) _).set (k * 3 + 1) _).set (k * 3 + 2) _, by simp only [List.length_set]; exact hfl, ht.step hfl.out hlt, (((hbel.setCell (Nat.le_refl _) _).setCell (Nat.le_refl _) _).setCell (Nat.le_refl _) _).drew⟩
        case measure => simp [intOf]; omega
    · obtain rfl : k = n := by omega
      go_wp2
      go_ret
      exact ⟨_, f, rfl, Nat.le_refl _, hb, hfl.out, ht, hbel⟩

def set3 (f : List Int) (k : Nat) (x y z : Int) : List Int := ((f.set (k * 3) x).set (k * 3 + 1) y).set (k * 3 + 2) z
theorem set3_len (f : List Int) (k : Nat) (x y z : Int) : (set3 f k x y z).length = f.length := by simp [set3]
theorem nth_set3 (f : List Int) (k m : Nat) (x y z : Int) (hm : m * 3 + 2 < f.length) :
    nth (set3 f k x y z) (m * 3) = (if k = m then x else nth f (m * 3)) ∧ nth (set3 f k x y z) (m * 3 + 1) = (if k = m then y else nth f (m * 3 + 1)) ∧ nth (set3 f k x y z) (m * 3 + 2) = (if k = m then z else nth f (m * 3 + 2)) := by
  have l2 : ∀ a b (x : Int) (y : Int), ((f.set a x).set b y).length = f.length := fun _ _ _ _ => by simp
  have l3 : ∀ a (x : Int), (f.set a x).length = f.length := fun _ _ => by simp
  unfold set3
  by_cases e : k = m
  · subst e
    refine ⟨?_, ?_, ?_⟩
    · rw [nth_set _ _ _ _ (by rw [l2]; omega), if_neg (by omega), nth_set _ _ _ _ (by rw [l3]; omega), if_neg (by omega), nth_set _ _ _ _ (by omega), if_pos rfl, if_pos rfl]
    · rw [nth_set _ _ _ _ (by rw [l2]; omega), if_neg (by omega), nth_set _ _ _ _ (by rw [l3]; omega), if_pos rfl, if_pos rfl]
    · rw [nth_set _ _ _ _ (by rw [l2]; omega), if_pos rfl, if_pos rfl]
  · refine ⟨?_, ?_, ?_⟩
    · rw [nth_set _ _ _ _ (by rw [l2]; omega), if_neg (by omega), nth_set _ _ _ _ (by rw [l3]; omega), if_neg (by omega), nth_set _ _ _ _ (by omega), if_neg (by omega), if_neg e]
    · rw [nth_set _ _ _ _ (by rw [l2]; omega), if_neg (by omega), nth_set _ _ _ _ (by rw [l3]; omega), if_neg (by omega), nth_set _ _ _ _ (by omega), if_neg (by omega), if_neg e]
    · rw [nth_set _ _ _ _ (by rw [l2]; omega), if_neg (by omega), nth_set _ _ _ _ (by rw [l3]; omega), if_neg (by omega), nth_set _ _ _ _ (by omega), if_neg (by omega), if_neg e]
def swp (f : List Int) (i j : Nat) : List Int := set3 (set3 f i (nth f (j * 3)) (nth f (j * 3 + 1)) (nth f (j * 3 + 2))) j (nth f (i * 3)) (nth f (i * 3 + 1)) (nth f (i * 3 + 2))
def at2 (i j k : Nat) : Nat := if k = i then j else if k = j then i else k
theorem nth_swp (f : List Int) (n i j k : Nat) (hl : f.length = n * 3) (hi : i < n) (hj : j < n) (hk : k < n) :
    nth (swp f i j) (k * 3) = nth f (at2 i j k * 3) ∧ nth (swp f i j) (k * 3 + 1) = nth f (at2 i j k * 3 + 1) ∧ nth (swp f i j) (k * 3 + 2) = nth f (at2 i j k * 3 + 2) := by
  unfold swp
  obtain ⟨h1, h2, h3⟩ := nth_set3 (set3 f i (nth f (j * 3)) (nth f (j * 3 + 1)) (nth f (j * 3 + 2))) j k (nth f (i * 3)) (nth f (i * 3 + 1)) (nth f (i * 3 + 2)) (by rw [set3_len]; omega)
  obtain ⟨g1, g2, g3⟩ := nth_set3 f i k (nth f (j * 3)) (nth f (j * 3 + 1)) (nth f (j * 3 + 2)) (by omega)
  rw [h1, h2, h3, g1, g2, g3]
  unfold at2
  by_cases e1 : k = i
  · subst e1
    by_cases e2 : j = k
    · subst e2; simp
    · simp [e2]
  · by_cases e2 : k = j
    · subst e2; simp [e1]
    · have e1' : ¬ i = k := fun h => e1 h.symm
      have e2' : ¬ j = k := fun h => e2 h.symm
      simp [e1, e2, e1', e2']
def Swapped (w : World) (b : Nat) (f : List Int) (e : Ending) (w' : World) : Prop := e = .returned (.tuple #[]) ∧ Blk .u32 w' b 99 f ∧ Below b w w'
theorem blk_drew {k : IntKind} {w : World} {b : Nat} {t : TypeId} {zs : List Int} (h : Blk k w b t zs) : Blk k w.drew b t zs := h
theorem swap_end (w : World) (b i j : Nat) (f : List Int) (hb : Blk .u32 w b 99 f) :
    Swapped w b (swp f i j) (.returned (.tuple #[])) (((((((w.setCell ⟨b, i * 3, none⟩ (.int .u32 (nth f (j * 3)))).setCell ⟨b, i * 3 + 1, none⟩ (.int .u32 (nth f (j * 3 + 1)))).setCell ⟨b, i * 3 + 2, none⟩ (.int .u32 (nth f (j * 3 + 2)))).setCell ⟨b, j * 3, none⟩ (.int .u32 (nth f (i * 3)))).setCell ⟨b, j * 3 + 1, none⟩ (.int .u32 (nth f (i * 3 + 1)))).setCell ⟨b, j * 3 + 2, none⟩ (.int .u32 (nth f (i * 3 + 2)))).drew) := by
  refine ⟨rfl, ?_, ?_⟩
  rotate_left
  · refine Below.drew ?_
    iterate 6 (refine Below.setCell ?_ (Nat.le_refl b) _)
    exact Below.refl _ _
  have h1 := hb.set (i * 3) (nth f (j * 3))
  have h2 := h1.set (i * 3 + 1) (nth f (j * 3 + 1))
  have h3 := h2.set (i * 3 + 2) (nth f (j * 3 + 2))
  have h4 := h3.set (j * 3) (nth f (i * 3))
  have h5 := h4.set (j * 3 + 1) (nth f (i * 3 + 1))
  have h6 := h5.set (j * 3 + 2) (nth f (i * 3 + 2))
  exact blk_drew h6
set_option maxHeartbeats 2000000 in
theorem swap (b n i j : Nat) (f : List Int) (w : World) (hb : Blk .u32 w b 99 f) (hl : f.length = n * 3) (hi : i < n) (hj : j < n) (hn : n ≤ 65536) :
    Calls Try.prog 39 #[.slice (some ⟨b, 0, none⟩) n n, .int .i64 i, .int .i64 j] w (Swapped w b (swp f i j)) := by
  have i0 := hb.cell (i * 3) (by omega)
  have i1 := hb.cell (i * 3 + 1) (by omega)
  have i2 := hb.cell (i * 3 + 2) (by omega)
  have j0 := hb.cell (j * 3) (by omega)
  have j1 := hb.cell (j * 3 + 1) (by omega)
  have j2 := hb.cell (j * 3 + 2) (by omega)
  have zi0 := hb.frozen (i * 3)
  have zi1 := hb.frozen (i * 3 + 1)
  have zi2 := hb.frozen (i * 3 + 2)
  have zj0 := hb.frozen (j * 3)
  have zj1 := hb.frozen (j * 3 + 1)
  have zj2 := hb.frozen (j * 3 + 2)
  have HLn := Lib.hid hl
  clear hl
  have q1 : (i : Int) < (n : Int) := by omega
  have q2 : (j : Int) < (n : Int) := by omega
  by_cases e : i = j
  · subst e
    go_enter Try.func39, Try.ntmps39
    go_wp2
    go_region
    all_goals
      go_end0
      exact swap_end w b _ _ f hb
  · have e' : ¬ j = i := fun h => e h.symm
    have n1 : ¬ i * 3 = j * 3 := by omega
    have n2 : ¬ i * 3 = j * 3 + 1 := by omega
    have n3 : ¬ i * 3 = j * 3 + 2 := by omega
    have n4 : ¬ i * 3 + 1 = j * 3 := by omega
    have n5 : ¬ i * 3 + 1 = j * 3 + 2 := by omega
    have n6 : ¬ i * 3 + 2 = j * 3 := by omega
    have n7 : ¬ i * 3 + 2 = j * 3 + 1 := by omega
    have n8 : ¬ i * 3 + 1 = j * 3 + 1 := by omega
    have n9 : ¬ i * 3 + 2 = j * 3 + 2 := by omega
    go_enter Try.func39, Try.ntmps39
    go_wp2
    go_region
    all_goals
      go_end0
      exact swap_end w b _ _ f hb
theorem swap26 (b n i j : Nat) (f : List Int) (w : World) (hb : Blk .u32 w b 99 f) (hl : f.length = n * 3) (hi : i < n) (hj : j < n) (hn : n ≤ 65536) :
    Calls Try.prog 26 #[.slice (some ⟨b, 0, none⟩) n n, .int .i64 i, .int .i64 j] w (Swapped w b (swp f i j)) := by
  have H := Lib.hid (swap b n i j f w hb hl hi hj hn)
  clear hl
  go_enter Try.func26, Try.ntmps26
  go_wp2_with (go_at_call 39; ((with_reducible refine H.out.mono ?_); rintro e w' ⟨rfl, h1, h2⟩))
  go_end0
  exact ⟨rfl, h1, h2⟩
theorem atc (b n k : Nat) (f : List Int) (w : World) (hb : Blk .u32 w b 99 f) (hl : f.length = n * 3) (hk : k < n) (hn : n ≤ 65536) :
    Calls Try.prog 40 #[.slice (some ⟨b, 0, none⟩) n n, .int .i64 k] w fun e w' => e = .returned (.tuple #[.int .u32 (nth f (k * 3)), .int .u32 (nth f (k * 3 + 1)), .int .u32 (nth f (k * 3 + 2))]) ∧ ∃ m, w' = w.drewN m := by
  have i0 := hb.cell (k * 3) (by omega)
  have i1 := hb.cell (k * 3 + 1) (by omega)
  have i2 := hb.cell (k * 3 + 2) (by omega)
  have q1 : (k : Int) < (n : Int) := by omega
  clear hl
  go_enter Try.func40, Try.ntmps40
  go_wp2_with fail
  go_quiet (fail)
  go_wp2_with fail
  go_ret3
  exact ⟨rfl, _, rfl⟩
theorem same (b n k : Nat) (f : List Int) (x y z : Int) (w : World) (hb : Blk .u32 w b 99 f) (hl : f.length = n * 3) (hk : k < n) (hn : n ≤ 65536)
    (hx : nth f (k * 3) = x) (hy : nth f (k * 3 + 1) = y) (hz : nth f (k * 3 + 2) = z) :
    Calls Try.prog 27 #[.slice (some ⟨b, 0, none⟩) n n, .int .i64 k, .int .u32 x, .int .u32 y, .int .u32 z] w fun e w' => e = .returned (.bool true) ∧ ∃ m, w' = w.drewN m := by
  have H := Lib.hid (atc b n k f w hb hl hk hn)
  clear hl
  subst hx hy hz
  go_enter Try.func27, Try.ntmps27
  go_wp2_with (go_at_call 40; ((with_reducible refine H.out.mono ?_); rintro e w' ⟨rfl, m, rfl⟩))
  go_ret
  exact ⟨rfl, _, rfl⟩
def fitsB (n : Nat) : Bool := decide (n ≤ 1048576)
theorem zz (a b c : Option Addr) (la ca lb cb lc cc : Nat) (i j : Int) (w : World) (h1 : la ≤ maxLen) (h2 : lb ≤ maxLen) (h3 : lc ≤ maxLen) :
    Calls Try.prog 23 #[.slice a la ca, .slice b lb cb, .slice c lc cc, .int .i64 i, .int .i64 j] w fun e w' => (∃ v, e = .returned (.bool v)) ∧ w = w' := by
  unfold maxLen at h1 h2 h3
  go_enter Try.func23, Try.ntmps23
  go_wp2
  all_goals
    go_ret
    exact ⟨⟨_, rfl⟩, rfl⟩
structure St (w : World) (aS aD aT : Option Addr) (b n : Nat) (S D T f : List Int) (wr : World) : Prop where
  s : Sl .u32 wr aS n S
  d : Sl .u32 wr aD n D
  t : Sl .u32 wr aT n T
  f : Blk .u32 wr b 99 f
  bel : Below w.heap.size w wr
theorem St.drewN {w : World} {aS aD aT : Option Addr} {b n : Nat} {S D T f : List Int} {wr : World} (s : St w aS aD aT b n S D T f wr) (m : Nat) : St w aS aD aT b n S D T f (wr.drewN m) := by
  obtain ⟨h1, h2, h3, h4, e⟩ := s
  exact ⟨h1, h2, h3, h4, ⟨e.os, e.tape, e.output, e.size, e.block⟩⟩

set_option maxHeartbeats 4000000 in
theorem walk (a0 : Option Addr) (len0 cap0 : Nat) (z0 : List Int) (a1 : Option Addr) (len1 cap1 : Nat) (z1 : List Int) (a2 : Option Addr) (len2 cap2 : Nat) (z2 : List Int) (a3 : Int) (a4 : Int) (w : World) (w0 : Aid.IsRow .u32 w a0 len0 cap0 z0) (w1 : Aid.IsRow .u32 w a1 len1 cap1 z1) (w2 : Aid.IsRow .u32 w a2 len2 cap2 z2) (w3 : (Lit.int .i64 a3).wf = true) (w4 : (Lit.int .i64 a4).wf = true) :
    Calls Try.prog 5 #[.slice a0 len0 cap0, .slice a1 len1 cap1, .slice a2 len2 cap2, .int .i64 a3, .int .i64 a4] w fun e w' => e = .returned (.bool true) ∧ Below w.heap.size w w' := by
  obtain ⟨s0, _, c0, m0, _⟩ := Sl.of_row w0
  obtain ⟨s1, _, c1, m1, _⟩ := Sl.of_row w1
  obtain ⟨s2, _, c2, m2, _⟩ := Sl.of_row w2
  obtain ⟨xs, hxs⟩ : ∃ xs, xs = z0.take len0 := ⟨_, rfl⟩
  obtain ⟨ys, hys⟩ : ∃ ys, ys = z1.take len1 := ⟨_, rfl⟩
  obtain ⟨zs, hzs⟩ : ∃ zs, zs = z2.take len2 := ⟨_, rfl⟩
  rw [← hxs] at s0
  rw [← hys] at s1
  rw [← hzs] at s2
  have m0' : len0 ≤ maxLen := by omega
  have m1' : len1 ≤ maxLen := by omega
  have m2' : len2 ≤ maxLen := by omega
  have b3 := Aid.i64_of w3
  have b4 := Aid.i64_of w4
  clear hxs hys hzs w0 w1 w2 w3 w4 c0 m0 c1 m1 c2 m2
  unfold maxLen at m0' m1' m2'
  by_cases c0 : 65536 < len0
  · have d0 : decide ((65536 : Int) < (len0 : Int)) = true := by simp; omega
    go_enter Try.func5, Try.ntmps5
    go_wp2_with (go_at_call 23; ((with_reducible refine (zz _ _ _ _ _ _ _ _ _ _ _ _ (by unfold maxLen; omega) (by unfold maxLen; omega) (by unfold maxLen; omega)).mono ?_); rintro e w' ⟨⟨v, rfl⟩, rfl⟩))
    all_goals
      go_ret
      exact ⟨rfl, Below.refl _ _⟩
  have d0 : decide ((65536 : Int) < (len0 : Int)) = false := by simp; omega
  by_cases c1 : 65536 < len1
  · have d1 : decide ((65536 : Int) < (len1 : Int)) = true := by simp; omega
    go_enter Try.func5, Try.ntmps5
    go_wp2_with (go_at_call 23; ((with_reducible refine (zz _ _ _ _ _ _ _ _ _ _ _ _ (by unfold maxLen; omega) (by unfold maxLen; omega) (by unfold maxLen; omega)).mono ?_); rintro e w' ⟨⟨v, rfl⟩, rfl⟩))
    all_goals
      go_ret
      exact ⟨rfl, Below.refl _ _⟩
  have d1 : decide ((65536 : Int) < (len1 : Int)) = false := by simp; omega
  by_cases c2 : 65536 < len2
  · have d2 : decide ((65536 : Int) < (len2 : Int)) = true := by simp; omega
    go_enter Try.func5, Try.ntmps5
    go_wp2_with (go_at_call 23; ((with_reducible refine (zz _ _ _ _ _ _ _ _ _ _ _ _ (by unfold maxLen; omega) (by unfold maxLen; omega) (by unfold maxLen; omega)).mono ?_); rintro e w' ⟨⟨v, rfl⟩, rfl⟩))
    all_goals
      go_ret
      exact ⟨rfl, Below.refl _ _⟩
  have d2 : decide ((65536 : Int) < (len2 : Int)) = false := by simp; omega
  by_cases c3 : 1048576 < 4 * (len0 + len1 + len2)
  · have d3 : decide ((1048576 : Int) < 4 * ((len0 : Int) + (len1 : Int) + (len2 : Int))) = true := by simp; omega
    go_enter Try.func5, Try.ntmps5
    go_wp2_with (go_at_call 23; ((with_reducible refine (zz _ _ _ _ _ _ _ _ _ _ _ _ (by unfold maxLen; omega) (by unfold maxLen; omega) (by unfold maxLen; omega)).mono ?_); rintro e w' ⟨⟨v, rfl⟩, rfl⟩))
    all_goals
      go_ret
      exact ⟨rfl, Below.refl _ _⟩
  have d3 : decide ((1048576 : Int) < 4 * ((len0 : Int) + (len1 : Int) + (len2 : Int))) = false := by simp; omega
  by_cases e0 : len1 = len0
  case neg =>
    have f0 : ((len1 : Int) != (len0 : Int)) = true := by simp; omega
    go_enter Try.func5, Try.ntmps5
    go_wp2_with (go_at_call 23; ((with_reducible refine (zz _ _ _ _ _ _ _ _ _ _ _ _ (by unfold maxLen; omega) (by unfold maxLen; omega) (by unfold maxLen; omega)).mono ?_); rintro e w' ⟨⟨v, rfl⟩, rfl⟩))
    all_goals
      go_ret
      exact ⟨rfl, Below.refl _ _⟩
  have f0 : ((len1 : Int) != (len0 : Int)) = false := by simp; omega
  by_cases e1 : len2 = len0
  case neg =>
    have f1 : ((len2 : Int) != (len0 : Int)) = true := by simp; omega
    go_enter Try.func5, Try.ntmps5
    go_wp2_with (go_at_call 23; ((with_reducible refine (zz _ _ _ _ _ _ _ _ _ _ _ _ (by unfold maxLen; omega) (by unfold maxLen; omega) (by unfold maxLen; omega)).mono ?_); rintro e w' ⟨⟨v, rfl⟩, rfl⟩))
    all_goals
      go_ret
      exact ⟨rfl, Below.refl _ _⟩
  have f1 : ((len2 : Int) != (len0 : Int)) = false := by simp; omega
  subst e0
  subst e1
  by_cases g0 : a3 < 0
  · have h0 : decide (a3 < 0) = true := by simpa using g0
    go_enter Try.func5, Try.ntmps5
    go_wp2_with (go_at_call 23; ((with_reducible refine (zz _ _ _ _ _ _ _ _ _ _ _ _ (by unfold maxLen; omega) (by unfold maxLen; omega) (by unfold maxLen; omega)).mono ?_); rintro e w' ⟨⟨v, rfl⟩, rfl⟩))
    all_goals
      go_ret
      exact ⟨rfl, Below.refl _ _⟩
  have h0 : decide (a3 < 0) = false := by simpa using g0
  by_cases g1 : (len2 : Int) ≤ a3
  · have h1 : decide ((len2 : Int) ≤ a3) = true := by simpa using g1
    go_enter Try.func5, Try.ntmps5
    go_wp2_with (go_at_call 23; ((with_reducible refine (zz _ _ _ _ _ _ _ _ _ _ _ _ (by unfold maxLen; omega) (by unfold maxLen; omega) (by unfold maxLen; omega)).mono ?_); rintro e w' ⟨⟨v, rfl⟩, rfl⟩))
    all_goals
      go_ret
      exact ⟨rfl, Below.refl _ _⟩
  have h1 : decide ((len2 : Int) ≤ a3) = false := by simpa using g1
  by_cases g2 : a4 < 0
  · have h2 : decide (a4 < 0) = true := by simpa using g2
    go_enter Try.func5, Try.ntmps5
    go_wp2_with (go_at_call 23; ((with_reducible refine (zz _ _ _ _ _ _ _ _ _ _ _ _ (by unfold maxLen; omega) (by unfold maxLen; omega) (by unfold maxLen; omega)).mono ?_); rintro e w' ⟨⟨v, rfl⟩, rfl⟩))
    all_goals
      go_ret
      exact ⟨rfl, Below.refl _ _⟩
  have h2 : decide (a4 < 0) = false := by simpa using g2
  by_cases g3 : (len2 : Int) ≤ a4
  · have h3 : decide ((len2 : Int) ≤ a4) = true := by simpa using g3
    go_enter Try.func5, Try.ntmps5
    go_wp2_with (go_at_call 23; ((with_reducible refine (zz _ _ _ _ _ _ _ _ _ _ _ _ (by unfold maxLen; omega) (by unfold maxLen; omega) (by unfold maxLen; omega)).mono ?_); rintro e w' ⟨⟨v, rfl⟩, rfl⟩))
    all_goals
      go_ret
      exact ⟨rfl, Below.refl _ _⟩
  have h3 : decide ((len2 : Int) ≤ a4) = false := by simpa using g3
  obtain ⟨i, rfl⟩ := Int.eq_ofNat_of_zero_le (show 0 ≤ a3 by omega)
  obtain ⟨j, rfl⟩ := Int.eq_ofNat_of_zero_le (show 0 ≤ a4 by omega)
  have hi : i < len2 := by omega
  have hj : j < len2 := by omega
  have hn : len2 ≤ 65536 := by omega
  clear c0 c1 c2 c3 g0 g1 g2 g3 b3 b4
  go_enter Try.func5, Try.ntmps5
  go_wp2_with (go_at_call 23; ((with_reducible refine (zz _ _ _ _ _ _ _ _ _ _ _ _ (by unfold maxLen; omega) (by unfold maxLen; omega) (by unfold maxLen; omega)).mono ?_); rintro e w' ⟨⟨v, rfl⟩, rfl⟩))
  · go_ret
    exact ⟨rfl, Below.refl _ _⟩
  clear d0 d1 d2 d3 f0 f1 h0 h1 h2 h3
  refine (copyU _ _ _ _ _ s0 (by omega)).mono ?_
  rintro e w1 ⟨aX, cX, rfl, _, _, sX, bX, _, _⟩
  have s1' := s1.below bX
  have s2' := s2.below bX
  go_wp2_with fail
  refine (copyU _ _ _ _ _ s1' (by omega)).mono ?_
  rintro e w2 ⟨aY, cY, rfl, _, _, sY, bY, _, _⟩
  have s2'' := s2'.below bY
  have sX' := sX.below bY
  go_wp2_with fail
  refine (copyU _ _ _ _ _ s2'' (by omega)).mono ?_
  rintro e w3 ⟨aZ, cZ, rfl, _, _, sZ, bZ, _, _⟩
  have sX'' := sX'.below bZ
  have sY' := sY.below bZ
  go_wp2_with fail
  refine (mk _ _ _ _ _ _ _ _ _ _ _ sX'' sY' sZ hn).mono ?_
  rintro e w4 ⟨B, f, rfl, hB, hbk, hfl, ht, bF⟩
  have sX4 := sX''.below bF
  have sY4 := sY'.below bF
  have sZ4 := sZ.below bF
  have HT := Lib.hid ht
  have HFL := Lib.hid hfl
  clear ht hfl
  go_wp2_with fail
  refine (swap26 _ _ _ _ _ _ hbk HFL.out hi hj hn).mono ?_
  rintro e w5 ⟨rfl, hb5, bel5⟩
  have kept : ∀ {a : Option Addr} {zs : List Int}, Sl .u32 w3 a len2 zs → Sl .u32 w5 a len2 zs := fun {a zs} h => by
    refine ⟨h.1, h.2.1, fun q hq => ?_⟩
    obtain ⟨b, off, e, hl, hc⟩ := h.2.2 q hq
    refine ⟨b, off, e, Nat.lt_of_lt_of_le hl (Nat.le_trans bF.size bel5.size), ?_⟩
    rw [bel5.cell (p := ⟨b, off + q, none⟩) (Nat.lt_of_lt_of_le hl hB), bF.cell (p := ⟨b, off + q, none⟩) hl]
    exact hc
  have hW : Below w.heap.size w w5 := by
    have h1 : Below w.heap.size w w3 := (bX.trans (bY.mono bX.size)).trans (bZ.mono (Nat.le_trans bX.size bY.size))
    have h2 : Below w.heap.size w w4 := h1.trans (bF.mono h1.size)
    exact h2.trans (bel5.mono (Nat.le_trans h1.size hB))
  have s : St w aX aY aZ B len2 xs ys zs (swp f i j) w5 := ⟨kept sX'', kept sY', kept sZ, hb5, hW⟩
  clear kept hW bel5 hb5 bF sX'' sY' sZ hbk sX4 sY4 sZ4 bX bY bZ sX sX' sY s1' s2' s2'' s0 s1 s2
  go_wp2_with fail
  go_loopw [13] (fun q wr => ∃ k : Nat, k ≤ len2 ∧ q = .int .i64 k ∧ St w aX aY aZ B len2 xs ys zs (swp f i j) wr) (fun q _ => len2 - (intOf q).toNat)
  case atStart => exact ⟨0, by omega, rfl, s⟩
  case round =>
    clear s
    obtain ⟨k, hk, rfl, s⟩ := hrel
    have ht := HT.out
    have hfl := HFL.out
    by_cases hlt : k < len2
    · obtain ⟨m, hm⟩ : ∃ m, m = at2 i j k := ⟨_, rfl⟩
      have hml : m < len2 := by rw [hm]; unfold at2; split; exact hj; split; exact hi; exact hlt
      have e0 := nth_swp f len2 i j k hfl hi hj hlt
      rw [← hm] at e0
      obtain ⟨g0, g1, g2⟩ := ht m hml
      have E0 := Lib.hid (e0.1.trans g0)
      have E1 := Lib.hid (e0.2.1.trans g1)
      have E2 := Lib.hid (e0.2.2.trans g2)
      have HSL := Lib.hid (show (swp f i j).length = len2 * 3 by unfold swp; rw [set3_len, set3_len]; exact hfl)
      have HM := Lib.hid hm
      clear e0 g0 g1 g2 hfl hm ht
      obtain ⟨bS, oS, rfl, _, cS⟩ := s.s.at m hml
      obtain ⟨bD, oD, rfl, _, cD⟩ := s.d.at m hml
      obtain ⟨bT, oT, rfl, _, cT⟩ := s.t.at m hml
      have q1 : (m : Int) < (len2 : Int) := by omega
      go_upto_if 97 with fail
      go_cut [14] (fun v wx => v = .int .i64 m ∧ wx = wr)
      case first =>
        clear cS cD cT
        by_cases h1 : k = i
        · have t1 : ((k : Int) == (i : Int)) = true := by simp; omega
          have R := Lib.hid (show j = m by rw [HM.out]; unfold at2; rw [if_pos h1])
          clear h1
          go_wp2_with fail
          go_meet
          exact ⟨by rw [R.out], rfl⟩
        · have t1 : ((k : Int) == (i : Int)) = false := by simp; omega
          by_cases h2 : k = j
          · have t2 : ((k : Int) == (j : Int)) = true := by simp; omega
            have R := Lib.hid (show i = m by rw [HM.out]; unfold at2; rw [if_neg h1, if_pos h2])
            clear h2
            go_wp2_with fail
            go_meet
            exact ⟨by rw [R.out], rfl⟩
          · have t2 : ((k : Int) == (j : Int)) = false := by simp; omega
            have R := Lib.hid (show k = m by rw [HM.out]; unfold at2; rw [if_neg h1, if_neg h2])
            go_wp2_with fail
            go_meet
            exact ⟨by rw [R.out], rfl⟩
      case rest =>
        obtain ⟨rfl, rfl⟩ := hcut
        go_wp2_with fail
        go_quiet ((go_at_call 27; exact Calls.quiet_of (same B len2 k (swp f i j) _ _ _ _ s.f HSL.out hlt hn E0.out E1.out E2.out)))
        go_wp2_with fail
        go_roundw
        case rel => exact ⟨k + 1, by omega, by go_num, s.drewN _⟩
        case measure => simp [intOf]; omega
    · clear ht hfl
      go_wp2_with fail
      go_ret
      exact ⟨rfl, s.bel⟩

set_option maxRecDepth 100000 in
theorem lifted (os : Os) (started : os.Started) (H : Type) (enc : TypeId × Value → H) :
    ReturnsInHanded {} Try.checked os 5 .any (Rows.fnChunkOrderSwapExchangesTwoSpec.pre6 enc Try.prog Try.f5 Rows.fnChunkOrderSwapExchangesTwoRow.domain false) (Rows.fnChunkOrderSwapExchangesTwoSpec.post enc Try.prog Try.f5 false true false false) := by
  refine returnsInHanded_of_change (C := Try.checked) own started (by kernel_rfl) Try.func5
    (ChangeSpec.witness6 (enc := enc) (C := Try.checked) false ⟨#[], #[.slice none 0 0, .slice none 0 0, .slice none 0 0, .int .i64 0, .int .i64 0], []⟩ 8 (by kernel_rfl) (by kernel_rfl) (by kernel_rfl) (by kernel_rfl)) ?_
  intro W base args ds gs before hval0 hW hcnd _
  have hval : ∀ (j : Nat) t v, Try.f5.params[j]? = some t → args[j]? = some v → Value.okWide Try.prog W .any base t v := hval0
  have hW' := hW
  obtain ⟨p, q, hA0, hV, rfl, hfz, hnd⟩ := hW
  have hA : DataW.TrodAll enc Try.prog W 0 (fun _ => true) true Try.f5.params.toList args.toList ds p := hA0
  rw [Try.params5] at hA hval
  obtain ⟨v0, vs0, d0, ds0, p0, q0, hargs, rfl, rfl, h0, r0⟩ := trodAll_cons hA
  obtain ⟨v1, vs1, d1, ds1, p1, q1, rfl, rfl, rfl, h1, r1⟩ := trodAll_cons r0
  obtain ⟨v2, vs2, d2, ds2, p2, q2, rfl, rfl, rfl, h2, r2⟩ := trodAll_cons r1
  obtain ⟨v3, vs3, d3, ds3, p3, q3, rfl, rfl, rfl, h3, r3⟩ := trodAll_cons r2
  obtain ⟨v4, vs4, d4, ds4, p4, q4, rfl, rfl, rfl, h4, r4⟩ := trodAll_cons r3
  obtain ⟨rfl, rfl, rfl⟩ := trodAll_nil r4
  obtain rfl : args = #[v0, v1, v2, v3, v4] := by cases args; simp_all
  obtain ⟨rfl, rfl⟩ := trodVars_none hV
  obtain ⟨a0, len0, cap0, rfl⟩ := okWide_slice Try.underlying35 (hval 0 35 v0 rfl rfl)
  have k0 := h0
  have lt0 : ∀ x ∈ p0, x.block < W.heap.size := by obtain ⟨m, hm⟩ := k0; exact DataW.trod_lt m _ _ _ hm
  obtain ⟨z0, w0⟩ := Aid.open_row Try.underlying35 Try.underlying43 (by kernel_rfl) h0
  obtain ⟨a1, len1, cap1, rfl⟩ := okWide_slice Try.underlying35 (hval 1 35 v1 rfl rfl)
  have k1 := h1
  have lt1 : ∀ x ∈ p1, x.block < W.heap.size := by obtain ⟨m, hm⟩ := k1; exact DataW.trod_lt m _ _ _ hm
  obtain ⟨z1, w1⟩ := Aid.open_row Try.underlying35 Try.underlying43 (by kernel_rfl) h1
  obtain ⟨a2, len2, cap2, rfl⟩ := okWide_slice Try.underlying35 (hval 2 35 v2 rfl rfl)
  have k2 := h2
  have lt2 : ∀ x ∈ p2, x.block < W.heap.size := by obtain ⟨m, hm⟩ := k2; exact DataW.trod_lt m _ _ _ hm
  obtain ⟨z2, w2⟩ := Aid.open_row Try.underlying35 Try.underlying43 (by kernel_rfl) h2
  obtain ⟨a3, rfl, rfl, rfl, w3⟩ := open_int Try.underlying3 (hval 3 3 v3 rfl rfl) h3
  obtain ⟨a4, rfl, rfl, rfl, w4⟩ := open_int Try.underlying3 (hval 4 3 v4 rfl rfl) h4
  clear hA0 hval0
  refine (walk a0 len0 cap0 z0 a1 len1 cap1 z1 a2 len2 cap2 z2 a3 a4 W w0 w1 w2 w3 w4).mono fun e W' ⟨he, bel⟩ => ?_
  subst he
  exact ⟨_, rfl, _, _, _, [], _, [], hW', trodAll_mk1 (shut_bool Try.underlying4 _), (trodAll_cons_mk (Below.trod laidOut (by kernel_rfl) (of_decide_eq_true (by kernel_rfl)) k0 bel lt0) (trodAll_cons_mk (Below.trod laidOut (by kernel_rfl) (of_decide_eq_true (by kernel_rfl)) k1 bel lt1) (trodAll_cons_mk (Below.trod laidOut (by kernel_rfl) (of_decide_eq_true (by kernel_rfl)) k2 bel lt2) (trodAll_cons_mk (shut_int Try.underlying3 w3) (trodAll_cons_mk (shut_int Try.underlying3 w4) trodAll_mk0))))), rfl, bel.frame _, fun h => by cases h⟩

theorem joined : joinedFacts Try.prog 5 Try.f5 Rows.fnChunkOrderSwapExchangesTwoSpec Rows.fnChunkOrderSwapExchangesTwoRow = true := by
  unfold joinedFacts
  rw [Facts.enter, Facts.lifts, Facts.make]
  kernel_rfl

theorem over : Rows.fnChunkOrderSwapExchangesTwoRow.holds Try.pinned (OpenSpec.ofChange Rows.fnChunkOrderSwapExchangesTwoSpec) :=
  OpenClaim.holds_of_wide 5 Try.f5 rfl rfl rfl rfl rfl rfl rfl ⟨rfl, rfl, rfl, rfl, rfl⟩ rfl rfl rfl rfl rfl (by kernel_rfl) Try.func5 joined
    (of_decide_eq_true (by kernel_rfl)) (by unfold Func.isWrapper; first | (rw [if_pos (by decide +kernel)]; kernel_rfl) | (rw [if_neg (by decide +kernel)]; exact ⟨rfl, rfl⟩))
    (fun os started H enc _ => lifted os started H enc)

theorem proved : Rows.FnChunkOrderSwapExchangesTwoSaid :=
  over
#print axioms proved
end Go.Proofs.Ytpgchpfdeefloaa.fnChunkOrderSwapExchangesTwo
