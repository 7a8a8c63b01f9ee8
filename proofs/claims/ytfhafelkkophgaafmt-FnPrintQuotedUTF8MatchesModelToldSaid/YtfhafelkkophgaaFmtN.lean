/- Contracts of functions that the law of this seat reaches, and plain facts; no condition. -/
import Derived.Test.YtfhafelkkophgaaFmtProg
import Derived.WalkKit
import Derived.ProofKit
import Derived.OpenShut
import Derived.ShutString
import Derived.Test.YtfhafelkkophgaaFmtAid
import Derived.Test.YtfhafelkkophgaaFmtV4
import Derived.ArgAppend
import Derived.WalkSmall
import Derived.Lib.OthersKept
import Derived.Laws.RangeAny
import Derived.Laws.OwnMore
import Derived.WalkSpells
import Derived.LoopTactic
import Derived.IntWalk
import Derived.Outline
import Derived.Deep.QuietTactic
import Derived.BigQuiet
import Derived.Deep.RegionHeld3
import Derived.Deep.RegionLaw
import Derived.StillTailTactics
import Derived.OwnWalk
import Derived.RegionTactic
import Derived.Laws.BitsAllLaws
import Derived.Laws.BitsLemmas
import Derived.Lib.ConvBytes
namespace Go.Proofs.YtfhafelkkophgaaFmt.Aux
open Go.ChangeShapes Go.WideShapes Go.ChangeAt Go.RowKit
open Go.ChangeMaps (open_string shut_string)
set_option linter.unusedVariables false
set_option linter.unusedSimpArgs false
open Fl Str Pb Qd PlainAid Aux
/-- The bytes written so far, in a row of the call's own. -/
structure OT (w0 : World) (B : Nat) (xs0 : List Value) (m : Nat) (wr : World) (v : Value) (xs : List Value) : Prop where
  own : OwnG wr B v xs.length xs
  pre : ∃ X, xs = xs0 ++ X ∧ X.length ≤ m
  bel : Below B w0 wr
section
variable {w0 wr W w' : World} {B m : Nat} {v : Value} {xs0 xs : List Value}
theorem OT.below (h : OT w0 B xs0 m wr v xs) (hb : Below wr.heap.size wr W) (hB : B ≤ wr.heap.size) : OT w0 B xs0 m W v xs :=
  ⟨h.own.chg (Chg.of_below hb (fun i a b => by omega) : Chg (fun _ => False) wr W) (fun _ _ h => h), h.pre, h.bel.trans (hb.mono hB)⟩
theorem OT.drewN (h : OT w0 B xs0 m wr v xs) (q : Nat) (hB : B ≤ w0.heap.size) : OT w0 B xs0 m (wr.drewN q) v xs := h.below (below_drewN (Below.refl _ _) q) (by have := h.bel.size; omega)
theorem OT.mono {m' : Nat} (h : OT w0 B xs0 m wr v xs) (hm : m ≤ m') : OT w0 B xs0 m' wr v xs := by
  obtain ⟨X, e, hX⟩ := h.pre
  exact ⟨h.own, ⟨X, e, by omega⟩, h.bel⟩
theorem OT.one {ja : Option Addr} {jn jc : Nat} (h : OT w0 B xs0 m wr (.slice ja jn jc) xs) (hB : B ≤ w0.heap.size) (cs : Array Value) (k : Nat) (hk : cs.size = k) (h1 : ∀ u ∈ cs.toList, u.oneCell' = true) (hm : xs0.length + m + k ≤ 134217728) (ty : TypeId) (o : Nat) (ho : wr.heap.size = o) :
    ∃ v' w', (Builtin.append_ #[25, 25] ty #[.slice ja jn jc, .slice (some ⟨o, 0, none⟩) k k]).run Tryf.prog (wr.alloc (.cells cs 5)) = .ok v' w' ∧ (∃ ja jn jc, v' = .slice ja jn jc ∧ Hid (OT w0 B xs0 (m + k) w' v' (xs ++ cs.toList))) := by
  subst ho; subst hk
  have hz := h.bel.size
  have hx : xs.length ≤ xs0.length + m := by
    obtain ⟨X, e, hX⟩ := h.pre
    rw [e, List.length_append]; omega
  have h2 := h.below ((Below.refl _ wr).alloc (Nat.le_refl _) (.cells cs 5)) (by omega)
  obtain ⟨v', w', hr, ho, hg, hs⟩ := slG (wr.alloc (.cells cs 5)) h2.own ⟨wr.heap.size, 0, none⟩ cs.size cs.size cs.toList (by simp) (by
    intro j u hj
    have e : (⟨wr.heap.size, 0, none⟩ : Addr).add j = ⟨wr.heap.size, j, none⟩ := by unfold Addr.add; simp; try omega
    rw [e, cell_of_row _ _ j _ _ _ (heap_alloc_new _ _)]
    simpa using hj) h1 ty (by omega) (by simp; omega)
  obtain ⟨a', c', e⟩ := ho.slice
  obtain ⟨X, e2, hX⟩ := h.pre
  have hcl : cs.toList.length = cs.size := by simp
  refine ⟨v', w', hr, a', _, c', e, Lib.hid ⟨by rw [List.length_append, Array.length_toList]; exact ho, ⟨X ++ cs.toList, by rw [e2, List.append_assoc], by rw [List.length_append]; omega⟩, h2.bel.trans ⟨hg.os, hg.tape, hg.output, hg.size, fun i hi => hg.block i (by simp; omega) fun e3 => ?_⟩⟩⟩
  have := (h2.own.lt i e3.symm).1
  omega
end
theorem Pre.pc {n : Nat} {Z : Nat → Int} {q : Int} {ns ao wl : Bool} {xs0 xs xs' : List Value} {k d : Nat} {PC : List Int} (h : Pre n Z q ns ao wl xs0 k xs) (hk : k < n) (hp : piece n Z q ns ao k = PC ∧ adv n Z k = d) (e : xs' = xs ++ PC.map (fun x => Value.int .u8 x)) : Pre n Z q ns ao wl xs0 (k + d) xs' := (h.pm hk).fin hp e
def loopsOf : Code → List Code
  | .loop c => [c]
  | .seq a b => loopsOf a ++ loopsOf b
  | .block _ c => loopsOf c
  | .scope c => loopsOf c
  | .cond _ a b => loopsOf a ++ loopsOf b
  | _ => []
noncomputable def mbody : Code := ((Tryf.f19.body.map loopsOf).getD []).getD 1 .skip
/-- Where the model's loop stands. -/
def MRel (w0 : World) (B : Nat) (s : ByteArray) (n : Nat) (Z : Nat → Int) (q : Int) (o i : Value) (wr : World) : Prop :=
  ∃ ii kk : Nat, ii ≤ s.size ∧ i = .int .i64 ii ∧ ∃ ja jn jc xs, o = .slice ja jn jc ∧ Hid (OT w0 B [.int .u8 q] (6 * ii) wr (.slice ja jn jc) xs) ∧ Hid (Cor s n Z ii kk) ∧ Hid (Prv s Z ii kk) ∧ Hid (Pre n Z q false false false [.int .u8 q] kk xs)
def Mmu (s : ByteArray) (a : Act) : Nat := s.size - (intOf (a.tmps.getD 16 undef)).toNat
set_option maxRecDepth 1000000 in
def MJ (w0 : World) (B : Nat) (s : ByteArray) (n : Nat) (Z : Nat → Int) (q : Int) (c1 c2 c3 c4 c5 c6 c8 c9 c10 c11 c12 c14 c22 c23 c24 c25 c26 c27 c28 c29 c30 c31 c32 c33 c34 c35 c36 c37 c38 c39 c40 c41 c42 c43 c44 c45 c46 c47 c48 c49 c50 c51 c52 c53 c54 c55 c56 c57 c58 c59 c60 c61 c62 c63 c64 c65 c66 c67 c68 c69 c70 c71 c72 c73 c74 c75 c76 c77 c78 c79 c80 c81 c254 c255 c256 c257 c258 : Value) (a' : Act) (w' : World) : Prop := ∃ u15 u16 u17 u18 u19 u20 u21 u82 u83 u84 u85 u86 u87 u88 u89 u90 u91 u92 u93 u94 u95 u96 u97 u98 u99 u100 u101 u102 u103 u104 u105 u106 u107 u108 u109 u110 u111 u112 u113 u114 u115 u116 u117 u118 u119 u120 u121 u122 u123 u124 u125 u126 u127 u128 u129 u130 u131 u132 u133 u134 u135 u136 u137 u138 u139 u140 u141 u142 u143 u144 u145 u146 u147 u148 u149 u150 u151 u152 u153 u154 u155 u156 u157 u158 u159 u160 u161 u162 u163 u164 u165 u166 u167 u168 u169 u170 u171 u172 u173 u174 u175 u176 u177 u178 u179 u180 u181 u182 u183 u184 u185 u186 u187 u188 u189 u190 u191 u192 u193 u194 u195 u196 u197 u198 u199 u200 u201 u202 u203 u204 u205 u206 u207 u208 u209 u210 u211 u212 u213 u214 u215 u216 u217 u218 u219 u220 u221 u222 u223 u224 u225 u226 u227 u228 u229 u230 u231 u232 u233 u234 u235 u236 u237 u238 u239 u240 u241 u242 u243 u244 u245 u246 u247 u248 u249 u250 u251 u252 u253 : Value, MRel w0 B s n Z q u15 u16 w' ∧ a' = ⟨#[.string s, c1, c2, c3, c4, c5, c6, .int .i64 (s.size : Int), c8, c9, c10, c11, c12, .int .u8 q, c14, u15, u16, u17, u18, u19, u20, u21, c22, c23, c24, c25, c26, c27, c28, c29, c30, c31, c32, c33, c34, c35, c36, c37, c38, c39, c40, c41, c42, c43, c44, c45, c46, c47, c48, c49, c50, c51, c52, c53, c54, c55, c56, c57, c58, c59, c60, c61, c62, c63, c64, c65, c66, c67, c68, c69, c70, c71, c72, c73, c74, c75, c76, c77, c78, c79, c80, c81, u82, u83, u84, u85, u86, u87, u88, u89, u90, u91, u92, u93, u94, u95, u96, u97, u98, u99, u100, u101, u102, u103, u104, u105, u106, u107, u108, u109, u110, u111, u112, u113, u114, u115, u116, u117, u118, u119, u120, u121, u122, u123, u124, u125, u126, u127, u128, u129, u130, u131, u132, u133, u134, u135, u136, u137, u138, u139, u140, u141, u142, u143, u144, u145, u146, u147, u148, u149, u150, u151, u152, u153, u154, u155, u156, u157, u158, u159, u160, u161, u162, u163, u164, u165, u166, u167, u168, u169, u170, u171, u172, u173, u174, u175, u176, u177, u178, u179, u180, u181, u182, u183, u184, u185, u186, u187, u188, u189, u190, u191, u192, u193, u194, u195, u196, u197, u198, u199, u200, u201, u202, u203, u204, u205, u206, u207, u208, u209, u210, u211, u212, u213, u214, u215, u216, u217, u218, u219, u220, u221, u222, u223, u224, u225, u226, u227, u228, u229, u230, u231, u232, u233, u234, u235, u236, u237, u238, u239, u240, u241, u242, u243, u244, u245, u246, u247, u248, u249, u250, u251, u252, u253, c254, c255, c256, c257, c258], []⟩
end Go.Proofs.YtfhafelkkophgaaFmt.Aux
