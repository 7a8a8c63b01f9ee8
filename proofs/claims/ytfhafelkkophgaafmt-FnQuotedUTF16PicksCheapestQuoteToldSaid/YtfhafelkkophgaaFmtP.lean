/- Contracts of functions that the law of this seat reaches, and plain facts; no condition. -/
import Derived.Test.YtfhafelkkophgaaFmtProg
import Derived.WalkKit
import Derived.ProofKit
import Derived.OpenShut
import Derived.ShutString
import Derived.Test.YtfhafelkkophgaaFmtAid
import Derived.Test.YtfhafelkkophgaaFmtA
import Derived.Test.YtfhafelkkophgaaFmtL1
import Derived.Test.YtfhafelkkophgaaFmtL2
import Derived.Test.YtfhafelkkophgaaFmtL3
import Derived.Test.YtfhafelkkophgaaFmtL4
import Derived.Test.YtfhafelkkophgaaFmtL5
import Derived.Test.YtfhafelkkophgaaFmtL6
import Derived.Test.YtfhafelkkophgaaFmtR
import Derived.ArgAppend
import Derived.WalkSpells
import Derived.LoopTactic
import Derived.IntWalk
import Derived.Outline
import Derived.Deep.QuietTactic
import Derived.BigQuiet
import Derived.Deep.RegionHeld3
import Derived.Deep.RegionLaw
import Derived.StillTailTactics
import Derived.OwnWalk
import Derived.RegionTactic
import Derived.Laws.BitsAllLaws
import Derived.Lib.ConvBytes
namespace Go.Proofs.YtfhafelkkophgaaFmt.Aux
open Go.ChangeShapes Go.WideShapes Go.ChangeAt Go.RowKit
open Go.ChangeMaps (open_string shut_string)
set_option linter.unusedVariables false
open Fl Str Pb Qd PlainAid Aux
set_option maxRecDepth 1000000 in
set_option maxHeartbeats 4000000 in
theorem prt (p B : Nat) (v : Value) (xs : List Value) (s : ByteArray) (w : World) (hc : w.cell? ⟨p, 9, none⟩ = some v) (hf : w.frozen? ⟨p, 9, none⟩ = false) (hne : v.ownBlock ≠ some p)
    (ho : OwnG w B v xs.length xs) (hB : B ≤ w.heap.size) (hs : xs.length + s.size ≤ 134217728) :
    Calls Tryf.prog 38 #[.pointer (some ⟨p, 0, none⟩), .string s] w fun e w' => e = .returned (.tuple #[]) ∧ ∃ ja jn jc, w'.cell? ⟨p, 9, none⟩ = some (.slice ja jn jc) ∧ w'.frozen? ⟨p, 9, none⟩ = false ∧ OwnG w' B (.slice ja jn jc) (xs ++ Lib.strCells s).length (xs ++ Lib.strCells s) ∧ Chg (fun k => k = p ∨ v.ownBlock = some k) w w' ∧ Same w v (.slice ja jn jc) ∧ ∀ j u, j ≠ 9 → w.cell? ⟨p, j, none⟩ = some u → w'.cell? ⟨p, j, none⟩ = some u := by
  have HR := Lib.hid (strG w ho s 25 hs hB)
  have HC := Lib.hid hc
  have HF := Lib.hid hf
  have HN := Lib.hid hne
  have hpb : p < w.heap.size := World.block_lt_of_cell? w _ hc
  clear ho hne
  go_enter Tryf.func38, Tryf.ntmps38
  go_wp2_with (at_builtin; refine wpList_app rfl _ _ #[25, 9] rfl rfl rfl HR.out ?_; rintro v' w1 ⟨ho', hg, hsm⟩; obtain ⟨q1, q2, rfl⟩ := ho'.slice; have c1 := hg.cell HC.out (fun e => HN.out e.symm); have f1 : w1.frozen? ⟨p, 9, none⟩ = false := (World.frozen?_of_block (hg.block p hpb fun e => HN.out e.symm)).trans HF.out; have HO := Lib.hid ho'; have HG := Lib.hid hg; have HS := Lib.hid hsm; clear ho' hg hsm)
  go_end0
  refine ⟨rfl, q1, _, q2, World.cell?_setCell_same _ _ _ c1, by simpa using f1, ?_, ?_, HS.out, fun j u hj hu => ?_⟩
  · have hc2 : Chg (fun k => k = p) w1 (w1.setCell ⟨p, 9, none⟩ (.slice q1 (xs.length + s.size) q2)) := Chg.setCell (S := fun k => k = p) (Chg.refl _ _) (.inl rfl) _
    rw [List.length_append, Lib.strCells_length]
    refine HO.out.chg hc2 fun k hk => ?_
    rcases HS.out with hs | hs
    · rw [hs] at hk
      exact fun e => HN.out (by rw [hk, e])
    · have := hs k hk
      omega
  · exact ((Chg.of_grown HG.out).mono fun i _ e => .inr e).setCell (.inl (.inl rfl)) _
  · rw [World.cell?_setCell_other _ _ _ _ (by intro e; injection e with e1 e2; exact hj e2.symm)]
    exact HG.out.cell hu (fun e => HN.out e.symm)
theorem has (x y : Int) (v : Bool) (w : World) (hv : (bits .and .u64 x y != 0) = v) : Calls Tryf.prog 37 #[.int .u64 x, .int .u64 y] w fun e w' => e = .returned (.bool v) ∧ w' = w := by
  have H := Lib.hid hv
  clear hv
  go_enter Tryf.func37, Tryf.ntmps37
  go_wp2_with fail
  go_ret
  exact ⟨by rw [← H.out]; rfl, rfl⟩
theorem js26 (p : Nat) (a : Option Addr) (n c : Nat) (w : World) (hc : w.cell? ⟨p, 9, none⟩ = some (.slice a n c)) : Calls Tryf.prog 26 #[.pointer (some ⟨p, 0, none⟩)] w fun e w' => e = .returned (.slice a n c) ∧ w' = w := by
  go_enter Tryf.func26, Tryf.ntmps26
  go_wp2_with fail
  go_ret
  exact ⟨rfl, rfl⟩
theorem info96 : (Tryf.prog.info? 96).map (fun i => (match i.zero with | some (.agg cs) => (cs.size, cs[26]?, cs[31]?) | _ => (0, none, none))) = some (139, some (.int .i64 0), some (.bool false)) := by kernel_rfl
theorem zero96 : ∃ Z : Array Value, (∀ w : World, (zeroValue 96).run Tryf.prog w = .ok (.agg Z) w) ∧ Z.size = 139 ∧ Z[26]? = some (.int .i64 0) ∧ Z[31]? = some (.bool false) := by
  have h := info96
  cases hi : Tryf.prog.info? 96 with
  | none => rw [hi] at h; cases h
  | some i =>
    rw [hi] at h
    simp only [Option.map_some, Option.some.injEq] at h
    split at h
    · rename_i cs hz
      simp only [Prod.mk.injEq] at h
      refine ⟨cs, fun w => ?_, h.1, h.2.1, h.2.2⟩
      simp [zeroValue, typeInfo, hi, hz]
    · simp at h
theorem cv9 (w : World) : ∃ cap W1, (convert 9 25 (.string ⟨#[]⟩)).run Tryf.prog w = .ok (.slice (some ⟨w.heap.size, 0, none⟩) 0 cap) W1 ∧ OwnG W1 w.heap.size (.slice (some ⟨w.heap.size, 0, none⟩) 0 cap) 0 [] ∧ Below w.heap.size w W1 ∧ W1.heap.size = w.heap.size + 1 := by
  have hc := Lib.run_convert_string_bytes (P := Tryf.prog) w 9 25 5 ⟨#[]⟩ Tryf.underlying9 Tryf.underlying25 Tryf.underlying5
  have hsz : (Lib.bytesCells w 5 ⟨#[]⟩).size = grownCap w 0 0 5 := by simp [Lib.bytesCells, ByteArray.size]
  refine ⟨_, _, hc, ⟨rfl, .inr ⟨w.heap.size, _, _, _, rfl, Nat.le_refl _, Lib.bytesWorld_at_new w 5 ⟨#[]⟩, .inr (Nat.le_refl _), Nat.zero_le _, ?_, hsz, by simp⟩⟩, ?_, Lib.bytesWorld_size w _ _⟩
  · exact grownCap_le_maxLen w 0 0 5 (Nat.zero_le _)
  · exact ⟨rfl, rfl, rfl, by rw [Lib.bytesWorld_size]; omega, fun k hk => Lib.bytesWorld_at_old w _ _ k hk⟩
def NpP (w : World) (uf : Int) (ms : Bool) (e : Ending) (w' : World) : Prop := ∃ p ja jn jc, e = .returned (.pointer (some ⟨p, 0, none⟩)) ∧ w'.cell? ⟨p, 9, none⟩ = some (.slice ja jn jc) ∧ w'.frozen? ⟨p, 9, none⟩ = false ∧ w'.cell? ⟨p, 24, none⟩ = some (.int .u64 uf) ∧ w'.cell? ⟨p, 26, none⟩ = some (.int .i64 0) ∧ w'.cell? ⟨p, 30, none⟩ = some (.bool ms) ∧ w'.cell? ⟨p, 31, none⟩ = some (.bool false) ∧ OwnG w' w.heap.size (.slice ja jn jc) 0 [] ∧ (Value.slice ja jn jc).ownBlock ≠ some p ∧ Below w.heap.size w w' ∧ w.heap.size ≤ p
theorem np_fin {w W1 : World} {Y : Array Value} {cap : Nat} {uf : Int} {ms : Bool} (hown : OwnG W1 w.heap.size (.slice (some ⟨w.heap.size, 0, none⟩) 0 cap) 0 []) (hbel : Below w.heap.size w W1) (hsz : W1.heap.size = w.heap.size + 1)
    (h9 : Y[9]? = some (.slice (some ⟨w.heap.size, 0, none⟩) 0 cap)) (h24 : Y[24]? = some (.int .u64 uf)) (h26 : Y[26]? = some (.int .i64 0)) (h30 : Y[30]? = some (.bool ms)) (h31 : Y[31]? = some (.bool false)) :
    NpP w uf ms (.returned (.pointer (some ⟨w.heap.size + 1, 0, none⟩))) (W1.alloc (.cells Y 96)) := by
  have hr : (W1.alloc (.cells Y 96)).heap[w.heap.size + 1]? = some (.cells Y 96 (0, 0)) := by rw [← hsz]; exact heap_alloc_new _ _
  have hc : ∀ i, (W1.alloc (.cells Y 96)).cell? ⟨w.heap.size + 1, i, none⟩ = Y[i]? := fun i => cell_of_row _ _ i _ _ _ hr
  refine ⟨w.heap.size + 1, _, _, _, rfl, by rw [hc]; exact h9, frozen_of_row _ _ _ _ _ hr, by rw [hc]; exact h24, by rw [hc]; exact h26, by rw [hc]; exact h30, by rw [hc]; exact h31, hown.chg ((Chg.refl (fun _ => False) W1).alloc _) (fun _ _ h => h), by simp [Value.ownBlock], hbel.alloc hbel.size _, by omega⟩
set_option maxRecDepth 100000 in
set_option maxHeartbeats 8000000 in
theorem np24 (nt ms : Bool) (w : World) : Calls Tryf.prog 24 #[.string ⟨#[]⟩, .bool nt, .bool false, .bool false, .bool false, .bool ms, .int .i64 0] w (NpP w (if nt then 72057594037927936 else 0) ms) := by
  obtain ⟨Z, hz, hsz, hz26, hz31⟩ := zero96
  obtain ⟨cap, W1, hcv, hown, hbel, hsz1⟩ := cv9 w
  have HO := Lib.hid hown
  have HB := Lib.hid hbel
  have H26 := Lib.hid hz26
  have H31 := Lib.hid hz31
  clear hown hbel hz26 hz31
  cases nt
  · go_enter Tryf.func24, Tryf.ntmps24
    go_wp2_with fail
    go_ret
    exact np_fin HO.out HB.out hsz1 (by simp [hsz]) (by simp [hsz]) (by simpa [Array.getElem?_setIfInBounds, hsz] using H26.out) (by simp [hsz]) (by simpa [Array.getElem?_setIfInBounds, hsz] using H31.out)
  · have hor : bits .or .u64 0 72057594037927936 = 72057594037927936 := by decide
    go_enter Tryf.func24, Tryf.ntmps24
    go_wp2_with fail
    go_ret
    exact np_fin HO.out HB.out hsz1 (by simp [hsz]) (by simp [hsz]) (by simpa [Array.getElem?_setIfInBounds, hsz] using H26.out) (by simp [hsz]) (by simpa [Array.getElem?_setIfInBounds, hsz] using H31.out)
/-- How often the unit v stands among the first k. -/
def cntu (Z : Nat → Int) (v : Int) : Nat → Nat
  | 0 => 0
  | k + 1 => if Z k = v then cntu Z v k + 1 else cntu Z v k
theorem cntu_le (Z : Nat → Int) (v : Int) : ∀ k, cntu Z v k ≤ k
  | 0 => Nat.le_refl _
  | k + 1 => by
    have := cntu_le Z v k
    simp only [cntu]
    split <;> omega
/-- What one unit adds to the backticks' cost. -/
def bst (Z : Nat → Int) (n : Nat) (ms : Bool) (k : Nat) : Int := if Z k = 10 then (if ms then -1 else 0) else if Z k = 96 then 1 else if Z k = 36 ∧ k + 1 < n ∧ Z (k + 1) = 123 then 1 else 0
def bkc (Z : Nat → Int) (n : Nat) (ms : Bool) : Nat → Int
  | 0 => 0
  | k + 1 => bkc Z n ms k + bst Z n ms k
theorem bst_le (Z : Nat → Int) (n : Nat) (ms : Bool) (k : Nat) : -1 ≤ bst Z n ms k ∧ bst Z n ms k ≤ 1 := by
  unfold bst
  split
  · split <;> omega
  · split
    · omega
    · split <;> omega
theorem bkc_le (Z : Nat → Int) (n : Nat) (ms : Bool) : ∀ k : Nat, -(k : Int) ≤ bkc Z n ms k ∧ bkc Z n ms k ≤ k
  | 0 => ⟨Int.le_refl _, Int.le_refl _⟩
  | k + 1 => by
    have := bkc_le Z n ms k
    have := bst_le Z n ms k
    simp only [bkc]
    omega
/-- The quote that is chosen. -/
def qch (sg db bk : Int) (al : Bool) : Int := if sg < db then (if bk < sg ∧ al = true then 96 else 39) else (if bk < db ∧ al = true then 96 else 34)
theorem qch_cases (sg db bk : Int) (al : Bool) : qch sg db bk al = 34 ∨ qch sg db bk al = 39 ∨ qch sg db bk al = 96 := by
  unfold qch
  split
  · split <;> simp
  · split <;> simp
/-- The printer's state. -/
structure PS (w : World) (p B : Nat) (uf : Int) (ms : Bool) (ja : Option Addr) (jn jc : Nat) (xs : List Value) : Prop where
  c9 : w.cell? ⟨p, 9, none⟩ = some (.slice ja jn jc)
  f9 : w.frozen? ⟨p, 9, none⟩ = false
  c24 : w.cell? ⟨p, 24, none⟩ = some (.int .u64 uf)
  c26 : w.cell? ⟨p, 26, none⟩ = some (.int .i64 0)
  c30 : w.cell? ⟨p, 30, none⟩ = some (.bool ms)
  c31 : w.cell? ⟨p, 31, none⟩ = some (.bool false)
  own : OwnG w B (.slice ja jn jc) xs.length xs
  ne : (Value.slice ja jn jc).ownBlock ≠ some p
/-- What is printed: the quote, something, the quote. -/
def QPo (w : World) (p B : Nat) (q : Int) (n : Nat) (e : Ending) (w' : World) : Prop := e = .returned (.tuple #[]) ∧ ∃ ja jc X, w'.cell? ⟨p, 9, none⟩ = some (.slice ja (X.length + 2) jc) ∧ OwnG w' B (.slice ja (X.length + 2) jc) (X.length + 2) (.int .u8 q :: (X ++ [.int .u8 q])) ∧ X.length ≤ 12 * n ∧ Below B w w'
end Go.Proofs.YtfhafelkkophgaaFmt.Aux
