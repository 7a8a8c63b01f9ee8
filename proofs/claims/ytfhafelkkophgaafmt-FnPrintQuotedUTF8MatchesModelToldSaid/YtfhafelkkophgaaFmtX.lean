/- Contracts of functions that the law of this seat reaches, and plain facts; no condition. -/
import Derived.Test.YtfhafelkkophgaaFmtProg
import Derived.WalkKit
import Derived.ProofKit
import Derived.OpenShut
import Derived.ShutString
import Derived.Test.YtfhafelkkophgaaFmtAid
import Derived.Test.YtfhafelkkophgaaFmtC
import Derived.ArgAppend
import Derived.WalkSmall
import Derived.Lib.OthersKept
import Derived.Laws.RangeAny
import Derived.Laws.OwnMore
import Derived.WalkSpells
import Derived.LoopTactic
import Derived.IntWalk
import Derived.Outline
import Derived.Deep.QuietTactic
import Derived.BigQuiet
import Derived.Deep.RegionHeld3
import Derived.Deep.RegionLaw
import Derived.StillTailTactics
import Derived.OwnWalk
import Derived.RegionTactic
import Derived.Laws.BitsAllLaws
import Derived.Laws.BitsLemmas
import Derived.Lib.ConvBytes
namespace Go.Proofs.YtfhafelkkophgaaFmt.Aux
open Go.ChangeShapes Go.WideShapes Go.ChangeAt Go.RowKit
open Go.ChangeMaps (open_string shut_string)
set_option linter.unusedVariables false
set_option linter.unusedSimpArgs false
open Fl Str Pb Qd PlainAid Aux
theorem ov_list (vs : List Value) : ∀ (k : Nat) (base : Array Value), ((vs.zipIdx k).foldl (fun cs x => cs.setIfInBounds (12 + x.2) x.1) base).size = base.size ∧ ∀ i, ((vs.zipIdx k).foldl (fun cs x => cs.setIfInBounds (12 + x.2) x.1) base)[i]? = if 12 + k ≤ i ∧ i < 12 + k + vs.length ∧ i < base.size then vs[i - (12 + k)]? else base[i]? := by
  induction vs with
  | nil => intro k base; refine ⟨rfl, fun i => ?_⟩; rw [if_neg (by simp; omega)]; rfl
  | cons v r ih =>
    intro k base
    rw [List.zipIdx_cons, List.foldl_cons]
    obtain ⟨h1, h2⟩ := ih (k + 1) (base.setIfInBounds (12 + k) v)
    refine ⟨by rw [h1]; simp, fun i => ?_⟩
    rw [h2, Array.size_setIfInBounds]
    by_cases e : i = 12 + k
    · subst e
      rw [if_neg (by omega)]
      by_cases hb : 12 + k < base.size
      · rw [if_pos ⟨by omega, by simp, hb⟩]
        simp [hb]
      · rw [if_neg (by omega)]
        simp [hb]
    · rw [Array.getElem?_setIfInBounds_ne (by omega)]
      by_cases hc : 12 + (k + 1) ≤ i ∧ i < 12 + (k + 1) + r.length ∧ i < base.size
      · rw [if_pos hc, if_pos ⟨by omega, by simp; omega, hc.2.2⟩, show i - (12 + k) = (i - (12 + (k + 1))) + 1 by omega, List.getElem?_cons_succ]
      · rw [if_neg hc, if_neg (by simp; omega)]
theorem ov_get (Y base : Array Value) (n : Nat) (hn : n = Y.size) (i : Nat) : (Array.foldl (fun cs x => cs.setIfInBounds (12 + x.snd) x.fst) base Y.zipIdx 0 n)[i]? = if 12 ≤ i ∧ i < 12 + Y.size ∧ i < base.size then Y[i - 12]? else base[i]? := by
  have e : n = Y.zipIdx.size := by simp [hn]
  rw [e, ← Array.foldl_toList, Array.toList_zipIdx]
  have := (ov_list Y.toList 0 base).2 i
  simpa using this
theorem infoO : (Tryf.prog.info? 65).map (fun i => match i.zero with | some (.agg cs) => (cs.size, cs[12]?, cs[14]?, cs[18]?, cs[19]?) | _ => (0, none, none, none, none)) = some (25, some (.int .u64 0), some (.int .i64 0), some (.bool false), some (.bool false)) := by kernel_rfl
theorem zeroO : ∃ Z : Array Value, (∀ w : World, (zeroValue 65).run Tryf.prog w = .ok (.agg Z) w) ∧ Z.size = 25 ∧ Z[12]? = some (.int .u64 0) ∧ Z[14]? = some (.int .i64 0) ∧ Z[18]? = some (.bool false) ∧ Z[19]? = some (.bool false) := by
  have h := infoO
  cases hi : Tryf.prog.info? 65 with
  | none => rw [hi] at h; cases h
  | some i =>
    rw [hi] at h
    simp only [Option.map_some, Option.some.injEq] at h
    split at h
    · rename_i cs hz
      simp only [Prod.mk.injEq] at h
      exact ⟨cs, fun w => by simp [zeroValue, typeInfo, hi, hz], h.1, h.2.1, h.2.2.1, h.2.2.2.1, h.2.2.2.2⟩
    · simp at h
theorem infoQ : (Tryf.prog.info? 96).map (fun i => (match i.zero with | some (.agg cs) => cs.size | _ => 0)) = some 139 := by kernel_rfl
theorem zeroQ : ∃ Z : Array Value, (∀ w : World, (zeroValue 96).run Tryf.prog w = .ok (.agg Z) w) ∧ Z.size = 139 := by
  have h := infoQ
  cases hi : Tryf.prog.info? 96 with
  | none => rw [hi] at h; cases h
  | some i =>
    rw [hi] at h
    simp only [Option.map_some, Option.some.injEq] at h
    split at h
    · rename_i cs hz
      exact ⟨cs, fun w => by simp [zeroValue, typeInfo, hi, hz], h⟩
    · cases h
/-- A new printer. -/
def NpB (w : World) (js : Value) (ms : Bool) (e : Ending) (w' : World) : Prop := ∃ Y : Array Value, e = .returned (.pointer (some ⟨w.heap.size, 0, none⟩)) ∧ w' = w.alloc (.cells Y 96) ∧ Hid (Y[9]? = some js ∧ Y[24]? = some (.int .u64 0) ∧ Y[26]? = some (.int .i64 0) ∧ Y[30]? = some (.bool ms) ∧ Y[31]? = some (.bool false))
set_option maxRecDepth 100000 in
set_option maxHeartbeats 8000000 in
theorem np20 (ja : Option Addr) (jn jc : Nat) (ms : Bool) (w : World) : Calls Tryf.prog 20 #[.slice ja jn jc, .bool ms, .bool false] w (NpB w (.slice ja jn jc) ms) := by
  obtain ⟨Z, hz, hsz⟩ := zeroQ
  obtain ⟨Y, hy, hyz, hy12, hy14, hy18, hy19⟩ := zeroO
  have hne : ¬ Z = #[] := by intro e; rw [e] at hsz; cases hsz
  have hne2 : ¬ Y = #[] := by intro e; rw [e] at hyz; cases hyz
  have H12 := Lib.hid hy12
  have H14 := Lib.hid hy14
  have H18 := Lib.hid hy18
  have H19 := Lib.hid hy19
  clear hy12 hy14 hy18 hy19
  go_enter Tryf.func20, Tryf.ntmps20
  go_wp2_with fail
  go_ret
  have hs : ((Y.setIfInBounds 18 (Value.bool ms)).setIfInBounds 22 (Value.bool false)).size = 25 := by simp [hyz]
  refine ⟨_, rfl, rfl, Lib.hid ⟨?_, ?_, ?_, ?_, ?_⟩⟩ <;> rw [ov_get _ _ 25 hs.symm, hs]
  · simp [hsz]
  · simpa [hsz, hyz] using H12.out
  · simpa [hsz, hyz] using H14.out
  · simp [hsz, hyz, Array.getElem?_setIfInBounds]
  · simpa [hsz, hyz] using H19.out
theorem js23 (p : Nat) (a : Option Addr) (n c : Nat) (w : World) (hc : w.cell? ⟨p, 9, none⟩ = some (.slice a n c)) : Calls Tryf.prog 23 #[.pointer (some ⟨p, 0, none⟩)] w fun e w' => e = .returned (.slice a n c) ∧ w' = w := by
  go_enter Tryf.func23, Tryf.ntmps23
  go_wp2_with fail
  go_ret
  exact ⟨rfl, rfl⟩
theorem cl17_info : (Tryf.prog.info? 5).map (fun i => (i.zero, i.size, i.bytes)) = some (some (.int .u8 0), 1, 1) := by kernel_rfl
theorem cl17 (a : Option Addr) (len cap : Nat) (S : Nat → Int) (w : World) (h : Fsl w a len (fun i => .int .u8 (S i))) (hlen : len ≤ 137438953472) :
    Calls Tryf.prog 17 #[.slice a len cap] w (Cop w a len 5 (fun i => .int .u8 (S i))) := by
  have hnil : ∀ w : World, (binOp .eql 25 (.slice a len cap) (.slice none 0 0)).run Tryf.prog w = .ok (.bool a.isNone) w := fun w => Lib.run_eql_slice_nil w 25 5 _ _ _ _ _ Tryf.underlying25
  have hmk := run_make_one (P := Tryf.prog) Tryf.underlying25 cl17_info rfl (by omega) len hlen
  cases a with
  | none =>
    have H := Lib.hid (Cop.nil (t := 5) h)
    go_enter Tryf.func17, Tryf.ntmps17
    go_wp2
    go_ret
    exact H.out
  | some x =>
    go_enter Tryf.func17, Tryf.ntmps17
    go_wp2
    go_loopw [4] (fun i wr => ∃ k : Nat, k ≤ len ∧ i = .int .i64 k ∧ Fblk wr w.heap.size 5 len (parV (fun i => .int .u8 (S i)) (.int .u8 0) k) ∧ Below w.heap.size w wr) (fun i _ => len - (intOf i).toNat)
    case atStart => exact ⟨0, by omega, rfl, by rw [parV_zero]; exact Fblk.made _ _ _ _, (Below.refl _ _).alloc (Nat.le_refl _) _⟩
    case round =>
      obtain ⟨k, hk, rfl, hb, hl⟩ := hrel
      have HB := Lib.hid hb
      by_cases hlt : k < len
      · obtain ⟨b, off, e, hlb, hc⟩ := h.at k hlt
        injection e with e
        subst e
        have hc' : wr.cell? ⟨b, off + k, none⟩ = some (.int .u8 (S k)) := by rw [hl.cell (p := ⟨b, off + k, none⟩) hlb]; exact hc
        have hd := hb.cell k hlt
        have hz := hb.frozen k
        have hk2 : (k : Int) < (len : Int) := by omega
        clear hc hb
        go_wp2
        go_roundw
        case rel => exact ⟨k + 1, by omega, by go_num, by rw [← parV_set]; exact HB.out.set k _, hl.setCell (Nat.le_refl _) _⟩
        case measure => simp [intOf]; omega
      · obtain rfl : k = len := by omega
        clear hb
        go_wp2
        go_ret
        exact Cop.mk (HB.out.congr fun i hi => by simp [parV, hi]) hl (Nat.le_refl _)

def Eqt (w : World) (e : Ending) (w' : World) : Prop := e = .returned (.bool true) ∧ ∃ q, w' = w.drewN q
theorem eq22 (a1 a2 : Option Addr) (n c1 c2 : Nat) (V : Nat → Int) (w : World) (hn : n ≤ 16777216) (h1 : Fsl w a1 n (fun i => .int .u8 (V i))) (h2 : Fsl w a2 n (fun i => .int .u8 (V i))) : Calls Tryf.prog 22 #[.slice a1 n c1, .slice a2 n c2] w (Eqt w) := by
  have H1 := Lib.hid h1
  have H2 := Lib.hid h2
  clear h1 h2
  go_enter Tryf.func22, Tryf.ntmps22
  go_wp2_with fail
  go_loopw [5] (fun i wr => ∃ k : Nat, k ≤ n ∧ i = .int .i64 k ∧ ∃ q, wr = w.drewN q) (fun i _ => n - (intOf i).toNat)
  case atStart => exact ⟨0, Nat.zero_le _, rfl, 0, rfl⟩
  case round =>
    obtain ⟨k, hk, rfl, qq, rfl⟩ := hrel
    by_cases hlt : k < n
    · obtain ⟨b, off, e, hlb, hc⟩ := H1.out.at k hlt
      subst e
      obtain ⟨b2, off2, e2, hlb2, hc2⟩ := H2.out.at k hlt
      subst e2
      have hk2 : (k : Int) < (n : Int) := by omega
      go_wp2_with fail
      go_quiet (fail)
      go_wp2_with fail
      go_roundw
      case rel => exact ⟨k + 1, by omega, by go_num, _, rfl⟩
      case measure => simp [intOf]; omega
    · obtain rfl : k = n := by omega
      go_wp2_with fail
      go_ret
      exact ⟨rfl, _, rfl⟩
def Bl2 (w : World) (e : Ending) (w' : World) : Prop := w' = w ∧ ∃ v, e = .returned (.bool v)
theorem gd15 (a0 : Option Addr) (l0 c0 : Nat) (s : ByteArray) (x2 : Int) (x3 : Bool) (w : World) : Calls Tryf.prog 15 #[.slice a0 l0 c0, .string s, .int .u8 x2, .bool x3] w (Bl2 w) := by
  by_cases h0 : (1048576 : Int) < (l0 : Int)
  · go_enter Tryf.func15, Tryf.ntmps15
    go_wp2_with fail
    go_ret
    exact ⟨rfl, _, rfl⟩
  have e0 : IntKind.i64.wrap ((l0 : Int)) = (l0 : Int) := IntWalk.i64_in _ (by omega)
  by_cases h1 : (1048576 : Int) < (s.size : Int)
  · go_enter Tryf.func15, Tryf.ntmps15
    go_wp2_with fail
    go_ret
    exact ⟨rfl, _, rfl⟩
  have e1 : IntKind.i64.wrap ((l0 : Int) + (s.size : Int)) = (l0 : Int) + (s.size : Int) := IntWalk.i64_in _ (by omega)
  by_cases g1 : (1048576 : Int) < (l0 : Int) + (s.size : Int)
  · go_enter Tryf.func15, Tryf.ntmps15
    go_wp2_with fail
    go_ret
    exact ⟨rfl, _, rfl⟩
  go_enter Tryf.func15, Tryf.ntmps15
  go_wp2_with fail
  go_ret
  exact ⟨rfl, _, rfl⟩
/-- Where the appending of bytes stands. -/
structure AT (w0 : World) (B : Nat) (v0 : Value) (wr : World) (v : Value) (xs : List Value) : Prop where
  own : OwnG wr B v xs.length xs
  chg : Chg (fun k => v0.ownBlock = some k) w0 wr
  same : Same w0 v0 v
section
variable {w0 wr : World} {B : Nat} {v0 v : Value} {xs : List Value}
theorem AT.one {ja : Option Addr} {jn jc : Nat} (h : AT w0 B v0 wr (.slice ja jn jc) xs) (hB : B ≤ w0.heap.size) (u : Value) (h1 : u.oneCell' = true) (hm : xs.length + 1 ≤ 134217728) (ty : TypeId) (o : Nat) (ho : wr.heap.size = o) :
    ∃ v' w', (Builtin.append_ #[25, 25] ty #[.slice ja jn jc, .slice (some ⟨o, 0, none⟩) 1 1]).run Tryf.prog (wr.alloc (.cells #[u] 5)) = .ok v' w' ∧ (∃ ja jn jc, v' = .slice ja jn jc ∧ Hid (AT w0 B v0 w' v' (xs ++ [u]))) := by
  subst ho
  have hz := h.chg.size
  have h2 : OwnG (wr.alloc (.cells #[u] 5)) B (.slice ja jn jc) xs.length xs := h.own.chg ((Chg.refl (fun _ => False) wr).alloc _) (fun _ _ h => h)
  obtain ⟨v', w', hr, ho, hg, hs⟩ := slG (wr.alloc (.cells #[u] 5)) h2 ⟨wr.heap.size, 0, none⟩ 1 1 [u] rfl (by
    intro j z hj
    have e : (⟨wr.heap.size, 0, none⟩ : Addr).add j = ⟨wr.heap.size, j, none⟩ := by unfold Addr.add; simp; try omega
    rw [e, cell_of_row _ _ j _ _ _ (heap_alloc_new _ _)]
    simpa using hj) (by simp [h1]) ty (by omega) (by simp; omega)
  obtain ⟨a', c', e⟩ := ho.slice
  refine ⟨v', w', hr, a', _, c', e, Lib.hid ⟨by simpa using ho, ?_, ?_⟩⟩
  · refine (h.chg.alloc (.cells #[u] 5)).transN (Chg.of_grown hg) fun i hi hh => ?_
    rcases h.same with e2 | e2
    · exact e2 ▸ hh
    · have := e2 i hh
      omega
  · rcases hs with e2 | e2
    · rcases h.same with e3 | e3
      · exact .inl (e2.trans e3)
      · exact .inr fun k hk => e3 k (e2 ▸ hk)
    · refine .inr fun k hk => ?_
      have := e2 k hk
      simp at this
      omega
end
def Ap18 (w : World) (B : Nat) (v0 : Value) (xs : List Value) (n : Nat) (S : Nat → Int) (e : Ending) (w' : World) : Prop :=
  ∃ ja jn jc, e = .returned (.slice ja jn jc) ∧ Hid (AT w B v0 w' (.slice ja jn jc) (xs ++ (List.range n).map (fun i => .int .u8 (S i))))
theorem rng_app (xs : List Value) (S : Nat → Int) (k : Nat) : xs ++ (List.range k).map (fun i => Value.int .u8 (S i)) ++ [Value.int .u8 (S k)] = xs ++ (List.range (k + 1)).map (fun i => Value.int .u8 (S i)) := by
  rw [List.range_succ, List.map_append, List.append_assoc]
  rfl
set_option maxRecDepth 100000 in
set_option maxHeartbeats 8000000 in
theorem app18 (B : Nat) (ja : Option Addr) (jn jc : Nat) (xs : List Value) (a : Option Addr) (n c : Nat) (S : Nat → Int) (w : World) (ho : OwnG w B (.slice ja jn jc) xs.length xs) (hB : B ≤ w.heap.size) (hf : Fsl w a n (fun i => .int .u8 (S i))) (hab : ∀ x, a = some x → (Value.slice ja jn jc).ownBlock ≠ some x.block) (hn : xs.length + n ≤ 134217727) :
    Calls Tryf.prog 18 #[.slice ja jn jc, .slice a n c] w (Ap18 w B (.slice ja jn jc) xs n S) := by
  have HO := Lib.hid ho
  have HF := Lib.hid hf
  have HAB := Lib.hid hab
  clear ho hf hab
  go_enter Tryf.func18, Tryf.ntmps18
  go_wp2_with fail
  go_loopw [0, 5] (fun d i wr => ∃ k : Nat, k ≤ n ∧ i = .int .i64 k ∧ ∃ ja2 jn2 jc2, d = .slice ja2 jn2 jc2 ∧ Hid (AT w B (.slice ja jn jc) wr (.slice ja2 jn2 jc2) (xs ++ (List.range k).map (fun i => .int .u8 (S i))))) (fun _ i _ => n - (intOf i).toNat)
  case atStart => exact ⟨0, Nat.zero_le _, rfl, ja, jn, jc, rfl, Lib.hid ⟨by simpa using HO.out, Chg.refl _ _, .inl rfl⟩⟩
  case round =>
    obtain ⟨k, hk, rfl, ja2, jn2, jc2, rfl, HA⟩ := hrel
    by_cases hlt : k < n
    · obtain ⟨b, off, e, hlb, hc⟩ := HF.out.at k hlt
      have hcw := HA.out.chg.cell hc (HAB.out ⟨b, off, none⟩ e)
      subst e
      have hk2 : (k : Int) < (n : Int) := by omega
      clear hc
      have R1 := Lib.hid (fun ty o ho => HA.out.one hB (.int .u8 (S k)) rfl (by simp; omega) ty o ho)
      go_wp2_with (at_builtin; refine wpList_app rfl _ _ #[25, 25] rfl rfl rfl (R1.out _ _ (by simp)) ?_; rintro v' w' ⟨ja3, jn3, jc3, rfl, HA2⟩)
      go_roundw
      case rel => exact ⟨k + 1, by omega, by go_num, _, _, _, rfl, Lib.hid (rng_app xs S k ▸ HA2.out)⟩
      case measure => simp [intOf]; omega
    · obtain rfl : k = n := by omega
      have hk2 : ¬ (k : Int) < (k : Int) := by omega
      go_wp2_with fail
      go_ret
      exact ⟨_, _, _, rfl, HA⟩
end Go.Proofs.YtfhafelkkophgaaFmt.Aux
