/- Contracts of functions that the law of this seat reaches, and plain facts; no condition. -/
import Derived.Test.YtfhafelkkophgaaFmtProg
import Derived.WalkKit
import Derived.ProofKit
import Derived.OpenShut
import Derived.ShutString
import Derived.Test.YtfhafelkkophgaaFmtAid
import Derived.Test.YtfhafelkkophgaaFmtC
import Derived.Test.YtfhafelkkophgaaFmtCU
import Derived.Test.YtfhafelkkophgaaFmtD1
import Derived.ArgAppend
import Derived.WalkSpells
import Derived.LoopTactic
import Derived.IntWalk
import Derived.Outline
import Derived.Deep.QuietTactic
import Derived.BigQuiet
import Derived.Deep.RegionHeld3
import Derived.Deep.RegionLaw
import Derived.StillTailTactics
import Derived.OwnWalk
import Derived.RegionTactic
import Derived.Laws.BitsAllLaws
import Derived.Laws.BitsLemmas
import Derived.Lib.ConvBytes
namespace Go.Proofs.YtfhafelkkophgaaFmt.Aux
open Go.ChangeShapes Go.WideShapes Go.ChangeAt Go.RowKit
open Go.ChangeMaps (open_string shut_string)
set_option linter.unusedVariables false
set_option linter.unusedSimpArgs false
open Fl Str Pb Qd PlainAid Aux
theorem ov_list (vs : List Value) : ∀ (k : Nat) (base : Array Value), ((vs.zipIdx k).foldl (fun cs x => cs.setIfInBounds (12 + x.2) x.1) base).size = base.size ∧ ∀ i, ((vs.zipIdx k).foldl (fun cs x => cs.setIfInBounds (12 + x.2) x.1) base)[i]? = if 12 + k ≤ i ∧ i < 12 + k + vs.length ∧ i < base.size then vs[i - (12 + k)]? else base[i]? := by
  induction vs with
  | nil => intro k base; refine ⟨rfl, fun i => ?_⟩; rw [if_neg (by simp; omega)]; rfl
  | cons v r ih =>
    intro k base
    rw [List.zipIdx_cons, List.foldl_cons]
    obtain ⟨h1, h2⟩ := ih (k + 1) (base.setIfInBounds (12 + k) v)
    refine ⟨by rw [h1]; simp, fun i => ?_⟩
    rw [h2, Array.size_setIfInBounds]
    by_cases e : i = 12 + k
    · subst e
      rw [if_neg (by omega)]
      by_cases hb : 12 + k < base.size
      · rw [if_pos ⟨by omega, by simp, hb⟩]
        simp [hb]
      · rw [if_neg (by omega)]
        simp [hb]
    · rw [Array.getElem?_setIfInBounds_ne (by omega)]
      by_cases hc : 12 + (k + 1) ≤ i ∧ i < 12 + (k + 1) + r.length ∧ i < base.size
      · rw [if_pos hc, if_pos ⟨by omega, by simp; omega, hc.2.2⟩, show i - (12 + k) = (i - (12 + (k + 1))) + 1 by omega, List.getElem?_cons_succ]
      · rw [if_neg hc, if_neg (by simp; omega)]
theorem ov_get (Y base : Array Value) (n : Nat) (hn : n = Y.size) (i : Nat) : (Array.foldl (fun cs x => cs.setIfInBounds (12 + x.snd) x.fst) base Y.zipIdx 0 n)[i]? = if 12 ≤ i ∧ i < 12 + Y.size ∧ i < base.size then Y[i - 12]? else base[i]? := by
  have e : n = Y.zipIdx.size := by simp [hn]
  rw [e, ← Array.foldl_toList, Array.toList_zipIdx]
  have := (ov_list Y.toList 0 base).2 i
  simpa using this
theorem infoO : (Tryf.prog.info? 65).map (fun i => match i.zero with | some (.agg cs) => (cs.size, cs[12]?, cs[14]?, cs[18]?, cs[19]?) | _ => (0, none, none, none, none)) = some (25, some (.int .u64 0), some (.int .i64 0), some (.bool false), some (.bool false)) := by kernel_rfl
theorem zeroO : ∃ Z : Array Value, (∀ w : World, (zeroValue 65).run Tryf.prog w = .ok (.agg Z) w) ∧ Z.size = 25 ∧ Z[12]? = some (.int .u64 0) ∧ Z[14]? = some (.int .i64 0) ∧ Z[18]? = some (.bool false) ∧ Z[19]? = some (.bool false) := by
  have h := infoO
  cases hi : Tryf.prog.info? 65 with
  | none => rw [hi] at h; cases h
  | some i =>
    rw [hi] at h
    simp only [Option.map_some, Option.some.injEq] at h
    split at h
    · rename_i cs hz
      simp only [Prod.mk.injEq] at h
      exact ⟨cs, fun w => by simp [zeroValue, typeInfo, hi, hz], h.1, h.2.1, h.2.2.1, h.2.2.2.1, h.2.2.2.2⟩
    · simp at h
theorem infoQ : (Tryf.prog.info? 96).map (fun i => (match i.zero with | some (.agg cs) => (cs.size, cs[69]?, cs[70]?) | _ => (0, none, none))) = some (139, some (.int .i64 0), some (.int .i64 0)) := by kernel_rfl
theorem zeroQ : ∃ Z : Array Value, (∀ w : World, (zeroValue 96).run Tryf.prog w = .ok (.agg Z) w) ∧ Z.size = 139 ∧ Z[69]? = some (.int .i64 0) ∧ Z[70]? = some (.int .i64 0) := by
  have h := infoQ
  cases hi : Tryf.prog.info? 96 with
  | none => rw [hi] at h; cases h
  | some i =>
    rw [hi] at h
    simp only [Option.map_some, Option.some.injEq] at h
    split at h
    · rename_i cs hz
      simp only [Prod.mk.injEq] at h
      refine ⟨cs, fun w => ?_, h.1, h.2.1, h.2.2⟩
      simp [zeroValue, typeInfo, hi, hz]
    · simp at h
theorem hasC (x y : Int) (v : Bool) (w : World) (hv : (bits .and .u64 x y != 0) = v) : Calls Tryf.prog 37 #[.int .u64 x, .int .u64 y] w fun e w' => e = .returned (.bool v) ∧ w' = w := by
  have H := Lib.hid hv
  clear hv
  go_enter Tryf.func37, Tryf.ntmps37
  go_wp2_with fail
  go_ret
  exact ⟨by rw [← H.out]; rfl, rfl⟩
/-- A new printer. -/
def NpA (w : World) (js : Value) (uf LL : Int) (ms ao : Bool) (e : Ending) (w' : World) : Prop := ∃ Y : Array Value, e = .returned (.pointer (some ⟨w.heap.size, 0, none⟩)) ∧ w' = w.alloc (.cells Y 96) ∧ Y[9]? = some js ∧ Y[24]? = some (.int .u64 uf) ∧ Y[26]? = some (.int .i64 LL) ∧ Y[30]? = some (.bool ms) ∧ Y[31]? = some (.bool ao) ∧ Y[69]? = some (.int .i64 0) ∧ Y[70]? = some (.int .i64 0)
set_option maxRecDepth 100000 in
set_option maxHeartbeats 8000000 in
theorem np27 (ja : Option Addr) (jn jc : Nat) (ao : Bool) (uf LL : Int) (w : World) : Calls Tryf.prog 27 #[.slice ja jn jc, .bool ao, .int .u64 uf, .int .i64 LL] w (NpA w (.slice ja jn jc) uf LL false ao) := by
  obtain ⟨Z, hz, hsz, hz69, hz70⟩ := zeroQ
  obtain ⟨Y, hy, hyz, hy12, hy14, hy18, hy19⟩ := zeroO
  have hne : ¬ Z = #[] := by intro e; rw [e] at hsz; cases hsz
  have hne2 : ¬ Y = #[] := by intro e; rw [e] at hyz; cases hyz
  have H69 := Lib.hid hz69
  have H70 := Lib.hid hz70
  have H12 := Lib.hid hy12
  have H14 := Lib.hid hy14
  have H18 := Lib.hid hy18
  have H19 := Lib.hid hy19
  clear hz69 hz70 hy12 hy14 hy18 hy19
  go_enter Tryf.func27, Tryf.ntmps27
  go_wp2_with fail
  go_ret
  have hs : (((Y.setIfInBounds 19 (Value.bool ao)).setIfInBounds 12 (Value.int IntKind.u64 uf)).setIfInBounds 14 (Value.int IntKind.i64 LL)).size = 25 := by simp [hyz]
  refine ⟨_, rfl, rfl, ?_, ?_, ?_, ?_, ?_, ?_, ?_⟩ <;> rw [ov_get _ _ 25 hs.symm, hs]
  · simp [hsz]
  · simp [hsz, hyz, Array.getElem?_setIfInBounds]
  · simp [hsz, hyz]
  · simp [hsz, Array.getElem?_setIfInBounds]; exact H18.out
  · simp [hsz, hyz, Array.getElem?_setIfInBounds]
  · simp [Array.getElem?_setIfInBounds]; exact H69.out
  · simp [Array.getElem?_setIfInBounds]; exact H70.out
theorem js29 (p : Nat) (a : Option Addr) (n c : Nat) (w : World) (hc : w.cell? ⟨p, 9, none⟩ = some (.slice a n c)) : Calls Tryf.prog 29 #[.pointer (some ⟨p, 0, none⟩)] w fun e w' => e = .returned (.slice a n c) ∧ w' = w := by
  go_enter Tryf.func29, Tryf.ntmps29
  go_wp2_with fail
  go_ret
  exact ⟨rfl, rfl⟩
/-- The text of a run: the bytes behind what stood there. -/
def RunP (w : World) (B : Nat) (xs0 : List Value) (n : Nat) (Z : Nat → Int) (q : Int) (ns ao : Bool) (e : Ending) (w' : World) : Prop := ∃ ja jn jc P wl, e = .returned (.slice ja jn jc) ∧ OwnG w' B (.slice ja jn jc) (xs0 ++ P.map (fun x => Value.int .u8 x)).length (xs0 ++ P.map (fun x => Value.int .u8 x)) ∧ Aux.Rest n Z q ns ao wl 0 P ∧ P.length ≤ 12 * n ∧ Below B w w'
theorem uq28 (B p : Nat) (a : Option Addr) (n c : Nat) (Z : Nat → Int) (q fl : Int) (ns ao : Bool) (ja : Option Addr) (jn jc : Nat) (xs0 : List Value) (w : World) (h9 : w.cell? ⟨p, 9, none⟩ = some (.slice ja jn jc)) (hfz : ∀ j, w.frozen? ⟨p, j, none⟩ = false)
  (LL : Int) (h26 : w.cell? ⟨p, 26, none⟩ = some (.int .i64 LL)) (uf : Int) (h24 : w.cell? ⟨p, 24, none⟩ = some (.int .u64 uf)) (h31 : w.cell? ⟨p, 31, none⟩ = some (.bool ao)) (h69 : w.cell? ⟨p, 69, none⟩ = some (.int .i64 0)) (h70 : w.cell? ⟨p, 70, none⟩ = some (.int .i64 0)) (hn : n ≤ 524288) (ho : OwnG w B (.slice ja jn jc) xs0.length xs0) (hB : B ≤ w.heap.size) (hsl : Fsl w a n (fun i => .int .u16 (Z i))) (hZ : ∀ i, i < n → 0 ≤ Z i ∧ Z i ≤ 65535) (hsn : 0 < n → ∀ x, a = some x → (Value.slice ja jn jc).ownBlock ≠ some x.block) (hap : 0 < n → ∀ x, a = some x → x.block ≠ p) (hpn : (Value.slice ja jn jc).ownBlock ≠ some p) (hx : xs0.length ≤ 1048576)
  (hH : ∀ w, Calls Tryf.prog 37 #[.int .u64 uf, .int .u64 68719476736] w fun e w' => e = .returned (.bool ns) ∧ w' = w) (hE : ao = true → ∀ w, Calls Tryf.prog 37 #[.int .u64 uf, .int .u64 576460752303423488] w fun e w' => e = .returned (.bool true) ∧ w' = w) (Y : Nat → Int) (hjn : jn ≤ 1048576) (hY : Fsl w ja jn (fun i => .int .u8 (Y i))) :
    Calls Tryf.prog 28 #[.pointer (some ⟨p, 0, none⟩), .slice a n c, .int .i32 q, .int .u8 fl] w (fun e w' => ∃ wl, Hid (UPC w p B (.slice ja jn jc) xs0 n Z q ns ao wl e w')) := by
  have H : Hid (∃ wl, Calls Tryf.prog 35 #[.pointer (some ⟨p, 0, none⟩), .slice a n c, .int .i32 q, .int .u8 fl] w (UPC w p B (.slice ja jn jc) xs0 n Z q ns ao wl)) := by
    refine Lib.hid ?_
    by_cases hL : 0 < LL
    · cases hf : (bits .and .u8 fl 2 == 0)
      · exact ⟨_, uq2 B p a n c Z q fl ns ao ja jn jc xs0 w h9 (hfz 9) LL h26 uf h24 h31 hn ho hB hsl hZ hsn hap hpn hx hH hE hL hf⟩
      · exact ⟨_, uq1 B p a n c Z q fl ns ao ja jn jc xs0 w h9 (hfz 9) LL h26 uf h24 h31 hn ho hB hsl hZ hsn hap hpn hx hH hE hL hf 0 h69 h70 hfz hjn Y hY⟩
    · exact ⟨_, uq0 B p a n c Z q fl ns ao ja jn jc xs0 w h9 (hfz 9) LL h26 uf h24 h31 hn ho hB hsl hZ hsn hap hpn hx hH hE (by omega)⟩
  obtain ⟨wl, H⟩ := H.out
  have H := Lib.hid H
  clear h9 hfz h26 h24 h31 h69 h70 ho hsl hZ hsn hap hpn hH hE hY
  go_enter Tryf.func28, Tryf.ntmps28
  go_wp2_with (go_at_call 35; refine H.out.mono ?_; rintro e w' hh; obtain rfl := hh.1; have HH := Lib.hid hh; clear hh)
  go_end0
  exact ⟨wl, HH⟩
theorem own_fsl {w : World} {B : Nat} {ja : Option Addr} {jn jc m : Nat} {xs : List Value} {V : Nat → Value} (h : OwnG w B (.slice ja jn jc) xs.length xs) (hm : m ≤ xs.length) (hV : ∀ i, i < m → xs[i]? = some (V i)) : Fsl w ja m V := by
  rcases h.2 with ⟨e, e2⟩ | ⟨g, cap, cur, fz, e, _⟩
  · injection e with e1 _ _
    subst e1
    have : m = 0 := by omega
    subst this
    exact Fsl.nil _ _
  · injection e with e1 e2 e3
    subst e1
    refine ⟨(fun e => by cases e), fun i hi => ?_⟩
    have hc := h.cells (g := g) rfl i _ (hV i hi)
    have e : (⟨g, 0, none⟩ : Addr).add i = ⟨g, 0 + i, none⟩ := by unfold Addr.add; simp; try omega
    rw [e] at hc
    exact ⟨g, 0, rfl, Fl.lt_of_cell hc, hc⟩
theorem run_fin {w w2 : World} {B n : Nat} {Z : Nat → Int} {q : Int} {ns ao wl : Bool} {pa : Option Addr} {pn pc p : Nat} {xs0 : List Value} {Y : Array Value} {T : TypeId} (hown : OwnG w B (.slice pa pn pc) xs0.length xs0) (hB : B ≤ w.heap.size) (hp : w.heap.size = p) {e : Ending}
    (hu : UPC (w.alloc (.cells Y T)) p B (.slice pa pn pc) xs0 n Z q ns ao wl e w2) : ∃ ja jn jc, w2.cell? ⟨p, 9, none⟩ = some (.slice ja jn jc) ∧ RunP w B xs0 n Z q ns ao (.returned (.slice ja jn jc)) w2 := by
  obtain ⟨_, ja, jn, jc, P, c9, _, own, hr, hl, hc, _⟩ := hu
  refine ⟨ja, jn, jc, c9, ja, jn, jc, P, wl, rfl, own, hr, hl, ?_⟩
  refine Below.trans (B := B) (((Below.refl B w).alloc hB _)) (hc.below (by simp; omega) fun i hi => ?_)
  rcases hi with rfl | hi
  · omega
  · exact (hown.lt i hi).1
set_option maxRecDepth 100000 in
set_option maxHeartbeats 8000000 in
theorem run11 (B : Nat) (a : Option Addr) (n c : Nat) (Z : Nat → Int) (q fl : Int) (ns ao : Bool) (pa : Option Addr) (pn pc : Nat) (LL : Int) (Y : Nat → Int) (w : World) (hn : n ≤ 524288) (hpn : pn ≤ 1048576) (hB : B ≤ w.heap.size) (hown : OwnG w B (.slice pa pn pc) pn ((List.range pn).map fun i => .int .u8 (Y i))) (hsl : Fsl w a n (fun i => .int .u16 (Z i))) (hZ : ∀ i, i < n → 0 ≤ Z i ∧ Z i ≤ 65535) (hab : 0 < n → ∀ x, a = some x → x.block < B) :
    Calls Tryf.prog 11 #[.slice pa pn pc, .slice a n c, .int .i32 q, .int .u8 fl, .bool ao, .bool ns, .int .i64 LL] w (RunP w B ((List.range pn).map fun i => .int .u8 (Y i)) n Z q ns ao) := by
  have hlen : ((List.range pn).map fun i => Value.int .u8 (Y i)).length = pn := by simp
  have HO : Hid (OwnG w B (.slice pa pn pc) ((List.range pn).map fun i => Value.int .u8 (Y i)).length ((List.range pn).map fun i => .int .u8 (Y i))) := Lib.hid (by rw [hlen]; exact hown)
  have H27 := Lib.hid (fun uf => np27 pa pn pc ao uf LL w)
  have HQ := Lib.hid (fun (uf : Int) (Y9 : Array Value) (h9 : Y9[9]? = some (.slice pa pn pc)) (h24 : Y9[24]? = some (.int .u64 uf)) (h26 : Y9[26]? = some (.int .i64 LL)) (h31 : Y9[31]? = some (.bool ao)) (h69 : Y9[69]? = some (.int .i64 0)) (h70 : Y9[70]? = some (.int .i64 0))
      (hH : ∀ w, Calls Tryf.prog 37 #[.int .u64 uf, .int .u64 68719476736] w fun e w' => e = .returned (.bool ns) ∧ w' = w) (hE : ao = true → ∀ w, Calls Tryf.prog 37 #[.int .u64 uf, .int .u64 576460752303423488] w fun e w' => e = .returned (.bool true) ∧ w' = w) => by
    have hr : (w.alloc (.cells Y9 96)).heap[w.heap.size]? = some (.cells Y9 96 (0, 0)) := heap_alloc_new _ _
    have hc : ∀ i, (w.alloc (.cells Y9 96)).cell? ⟨w.heap.size, i, none⟩ = Y9[i]? := fun i => cell_of_row _ _ i _ _ _ hr
    have ho := HO.out.chg ((Chg.refl (fun _ => False) w).alloc (.cells Y9 96)) (fun _ _ h => h)
    exact uq28 B w.heap.size a n c Z q fl ns ao pa pn pc _ (w.alloc (.cells Y9 96)) (by rw [hc]; exact h9) (fun j => frozen_of_row _ _ _ _ _ hr) LL (by rw [hc]; exact h26) uf (by rw [hc]; exact h24) (by rw [hc]; exact h31) (by rw [hc]; exact h69) (by rw [hc]; exact h70) hn ho (by simp; omega) (hsl.alloc _) hZ
      (fun h0 x hx hb => by have := (hown.lt _ hb).1; have := hab h0 x hx; omega) (fun h0 x hx => by have := hab h0 x hx; omega) (fun hb => by have := (hown.lt _ hb).2; omega) (by rw [hlen]; exact hpn) hH hE Y hpn (own_fsl ho (by simp) (fun i hi => by simp [hi])))
  clear hsl hZ hab hlen
  cases ao <;> cases ns
  · have o1 : bits .or .u64 0 576460752303423488 = 576460752303423488 := by decide
    have o2 : bits .or .u64 0 68719476736 = 68719476736 := by decide
    have o3 : bits .or .u64 576460752303423488 68719476736 = 576460821022900224 := by decide
    have HQ2 := Lib.hid (fun Y9 h9 h24 h26 h31 h69 h70 => HQ.out 0 Y9 h9 h24 h26 h31 h69 h70 (fun w => hasC _ _ false w (by decide)) (fun h => by cases h))
    clear HQ
    go_enter Tryf.func11, Tryf.ntmps11
    go_wp2_with (first
      | (go_at_call 27; refine (H27.out _).mono ?_; rintro e w1 ⟨Y9, rfl, rfl, h9, h24, h26, _, h31, h69, h70⟩; have H28 := Lib.hid (HQ2.out Y9 h9 h24 h26 h31 h69 h70); clear h9 h24 h26 h31 h69 h70)
      | (go_at_call 28; refine H28.out.mono ?_; rintro e w2 ⟨wl, hu⟩; obtain rfl := hu.out.1; have HF := Lib.hid (run_fin HO.out hB rfl hu.out); clear hu; obtain ⟨ja, jn, jc, c9, hrp⟩ := HF.out; clear HF; have HJ := Lib.hid (js29 w.heap.size ja jn jc w2 c9); have HR := Lib.hid hrp; clear c9 hrp)
      | (go_at_call 29; refine HJ.out.mono ?_; rintro e w3 ⟨rfl, rfl⟩))
    go_ret
    exact HR.out
  · have o1 : bits .or .u64 0 576460752303423488 = 576460752303423488 := by decide
    have o2 : bits .or .u64 0 68719476736 = 68719476736 := by decide
    have o3 : bits .or .u64 576460752303423488 68719476736 = 576460821022900224 := by decide
    have HQ2 := Lib.hid (fun Y9 h9 h24 h26 h31 h69 h70 => HQ.out 68719476736 Y9 h9 h24 h26 h31 h69 h70 (fun w => hasC _ _ true w (by decide)) (fun h => by cases h))
    clear HQ
    go_enter Tryf.func11, Tryf.ntmps11
    go_wp2_with (first
      | (go_at_call 27; refine (H27.out _).mono ?_; rintro e w1 ⟨Y9, rfl, rfl, h9, h24, h26, _, h31, h69, h70⟩; have H28 := Lib.hid (HQ2.out Y9 h9 h24 h26 h31 h69 h70); clear h9 h24 h26 h31 h69 h70)
      | (go_at_call 28; refine H28.out.mono ?_; rintro e w2 ⟨wl, hu⟩; obtain rfl := hu.out.1; have HF := Lib.hid (run_fin HO.out hB rfl hu.out); clear hu; obtain ⟨ja, jn, jc, c9, hrp⟩ := HF.out; clear HF; have HJ := Lib.hid (js29 w.heap.size ja jn jc w2 c9); have HR := Lib.hid hrp; clear c9 hrp)
      | (go_at_call 29; refine HJ.out.mono ?_; rintro e w3 ⟨rfl, rfl⟩))
    go_ret
    exact HR.out
  · have o1 : bits .or .u64 0 576460752303423488 = 576460752303423488 := by decide
    have o2 : bits .or .u64 0 68719476736 = 68719476736 := by decide
    have o3 : bits .or .u64 576460752303423488 68719476736 = 576460821022900224 := by decide
    have HQ2 := Lib.hid (fun Y9 h9 h24 h26 h31 h69 h70 => HQ.out 576460752303423488 Y9 h9 h24 h26 h31 h69 h70 (fun w => hasC _ _ false w (by decide)) (fun _ => fun w => hasC _ _ true w (by decide)))
    clear HQ
    go_enter Tryf.func11, Tryf.ntmps11
    go_wp2_with (first
      | (go_at_call 27; refine (H27.out _).mono ?_; rintro e w1 ⟨Y9, rfl, rfl, h9, h24, h26, _, h31, h69, h70⟩; have H28 := Lib.hid (HQ2.out Y9 h9 h24 h26 h31 h69 h70); clear h9 h24 h26 h31 h69 h70)
      | (go_at_call 28; refine H28.out.mono ?_; rintro e w2 ⟨wl, hu⟩; obtain rfl := hu.out.1; have HF := Lib.hid (run_fin HO.out hB rfl hu.out); clear hu; obtain ⟨ja, jn, jc, c9, hrp⟩ := HF.out; clear HF; have HJ := Lib.hid (js29 w.heap.size ja jn jc w2 c9); have HR := Lib.hid hrp; clear c9 hrp)
      | (go_at_call 29; refine HJ.out.mono ?_; rintro e w3 ⟨rfl, rfl⟩))
    go_ret
    exact HR.out
  · have o1 : bits .or .u64 0 576460752303423488 = 576460752303423488 := by decide
    have o2 : bits .or .u64 0 68719476736 = 68719476736 := by decide
    have o3 : bits .or .u64 576460752303423488 68719476736 = 576460821022900224 := by decide
    have HQ2 := Lib.hid (fun Y9 h9 h24 h26 h31 h69 h70 => HQ.out 576460821022900224 Y9 h9 h24 h26 h31 h69 h70 (fun w => hasC _ _ true w (by decide)) (fun _ => fun w => hasC _ _ true w (by decide)))
    clear HQ
    go_enter Tryf.func11, Tryf.ntmps11
    go_wp2_with (first
      | (go_at_call 27; refine (H27.out _).mono ?_; rintro e w1 ⟨Y9, rfl, rfl, h9, h24, h26, _, h31, h69, h70⟩; have H28 := Lib.hid (HQ2.out Y9 h9 h24 h26 h31 h69 h70); clear h9 h24 h26 h31 h69 h70)
      | (go_at_call 28; refine H28.out.mono ?_; rintro e w2 ⟨wl, hu⟩; obtain rfl := hu.out.1; have HF := Lib.hid (run_fin HO.out hB rfl hu.out); clear hu; obtain ⟨ja, jn, jc, c9, hrp⟩ := HF.out; clear HF; have HJ := Lib.hid (js29 w.heap.size ja jn jc w2 c9); have HR := Lib.hid hrp; clear c9 hrp)
      | (go_at_call 29; refine HJ.out.mono ?_; rintro e w3 ⟨rfl, rfl⟩))
    go_ret
    exact HR.out
end Go.Proofs.YtfhafelkkophgaaFmt.Aux
