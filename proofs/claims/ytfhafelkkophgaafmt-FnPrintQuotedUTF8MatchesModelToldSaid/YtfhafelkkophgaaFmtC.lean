/- Contracts of functions that the law of this seat reaches, and plain facts; no condition. -/
import Derived.Test.YtfhafelkkophgaaFmtProg
import Derived.WalkKit
import Derived.ProofKit
import Derived.OpenShut
import Derived.ShutString
import Derived.Test.YtfhafelkkophgaaFmtAid
import Derived.Test.YtfhafelkkophgaaFmtA
import Derived.ArgAppend
import Derived.WalkSpells
import Derived.LoopTactic
import Derived.IntWalk
import Derived.Outline
import Derived.Deep.QuietTactic
import Derived.BigQuiet
import Derived.Deep.RegionHeld3
import Derived.Deep.RegionLaw
import Derived.StillTailTactics
import Derived.OwnWalk
import Derived.RegionTactic
import Derived.Laws.BitsAllLaws
import Derived.Lib.ConvBytes
namespace Go.Proofs.YtfhafelkkophgaaFmt.Aux
open Go.ChangeShapes Go.WideShapes Go.ChangeAt Go.RowKit
open Go.ChangeMaps (open_string shut_string)
set_option linter.unusedVariables false
set_option linter.unusedSimpArgs false
open Fl Str Pb Qd PlainAid Aux
/-- A hex digit, upper case. -/
def hx (d : Int) : Int := if d < 10 then 48 + d else 55 + d
def u4 (z : Int) : List Int := [92, 117, hx (z / 4096), hx (z / 256 % 16), hx (z / 16 % 16), hx (z % 16)]
def x2 (z : Int) : List Int := [92, 120, hx (z / 16), hx (z % 16)]
def low (z : Int) : Int := if 65 ≤ z ∧ z ≤ 90 then z + 32 else z
def scrS : ByteArray := ⟨#[115, 99, 114, 105, 112, 116]⟩
def scrB (j : Nat) : Int := bt scrS j
section
variable (n : Nat) (Z : Nat → Int) (q : Int) (ns ao wl : Bool)
/-- A slash at k ends a '</' in front of 'script'. -/
def scr (k : Nat) : Prop := ns = false ∧ 1 ≤ k ∧ Z (k - 1) = 60 ∧ k + 7 ≤ n ∧ ∀ j, j < 6 → low (Z (k + 1 + j)) = scrB j
/-- A low surrogate stands behind k. -/
def lowAt (k : Nat) : Prop := k + 1 < n ∧ 56320 ≤ Z (k + 1) ∧ Z (k + 1) ≤ 57343
open Classical in
noncomputable def dflt (k : Nat) (z : Int) : List Int :=
  if z ≤ 126 then [z]
  else if 55296 ≤ z ∧ z ≤ 56319 then (if lowAt n Z k then (if ao = true then u4 z ++ u4 (Z (k + 1)) else Lib.encodeRuneZ (z * 1024 + Z (k + 1) + -56613888)) else u4 z)
  else if (56320 ≤ z ∧ z ≤ 57343) ∨ (ao = true ∧ 255 < z) then u4 z
  else if ao = true then x2 z
  else Lib.encodeRuneZ z
open Classical in
/-- What the unit at k becomes. -/
noncomputable def piece (k : Nat) : List Int :=
  if Z k = 0 then (if k + 1 < n ∧ 48 ≤ Z (k + 1) ∧ Z (k + 1) ≤ 57 then [92, 120, 48, 48] else [92, 48])
  else if Z k = 7 then [92, 120, 48, 55]
  else if Z k = 8 then [92, 98]
  else if Z k = 12 then [92, 102]
  else if Z k = 10 then (if q = 96 then [10] else [92, 110])
  else if Z k = 13 then [92, 114]
  else if Z k = 11 then [92, 118]
  else if Z k = 27 then [92, 120, 49, 66]
  else if Z k = 92 then [92, 92]
  else if Z k = 47 then (if scr n Z ns k then [92, 47] else [47])
  else if Z k = 39 then (if q = 39 then [92, 39] else [39])
  else if Z k = 34 then (if q = 34 then [92, 34] else [34])
  else if Z k = 96 then (if q = 96 then [92, 96] else [96])
  else if Z k = 36 then (if q = 96 ∧ k + 1 < n ∧ Z (k + 1) = 123 then [92, 36] else [36])
  else if Z k = 8232 then [92, 117, 50, 48, 50, 56]
  else if Z k = 8233 then [92, 117, 50, 48, 50, 57]
  else if Z k = 65279 then [92, 117, 70, 69, 70, 70]
  else dflt n Z ao k (Z k)
open Classical in
noncomputable def adv (k : Nat) : Nat := if 55296 ≤ Z k ∧ Z k ≤ 56319 ∧ lowAt n Z k then 2 else 1
/-- What may come from the unit k on: the pieces, with broken lines between them where wl allows it. -/
inductive Rest : Nat → List Int → Prop
  | nil : Rest n []
  | step {k : Nat} {X : List Int} (hk : k < n) (h : Rest (k + adv n Z k) X) : Rest k (piece n Z q ns ao k ++ X)
  | wrap {k : Nat} {X : List Int} (hk : k < n) (hw : wl = true) (h : Rest (k + adv n Z k) X) : Rest k (92 :: 10 :: (piece n Z q ns ao k ++ X))
def Pre (xs0 : List Value) (k : Nat) (xs : List Value) : Prop := ∃ P : List Int, xs = xs0 ++ P.map (fun x => Value.int .u8 x) ∧ ∀ X, Rest n Z q ns ao wl k X → Rest n Z q ns ao wl 0 (P ++ X)
def Pm (xs0 : List Value) (k : Nat) (xs : List Value) : Prop := ∃ P : List Int, xs = xs0 ++ P.map (fun x => Value.int .u8 x) ∧ ∀ X, Rest n Z q ns ao wl (k + adv n Z k) X → Rest n Z q ns ao wl 0 (P ++ (piece n Z q ns ao k ++ X))
end
section
variable {n : Nat} {Z : Nat → Int} {q : Int} {ns ao wl : Bool} {xs0 xs xs' : List Value} {k : Nat}
theorem Pre.start (xs0 : List Value) : Pre n Z q ns ao wl xs0 0 xs0 := ⟨[], by simp, fun X h => h⟩
theorem Pre.pm (h : Pre n Z q ns ao wl xs0 k xs) (hk : k < n) : Pm n Z q ns ao wl xs0 k xs := by
  obtain ⟨P, e, h⟩ := h
  exact ⟨P, e, fun X hX => h _ (.step hk hX)⟩
theorem Pre.pw (h : Pre n Z q ns ao wl xs0 k xs) (hk : k < n) (hw : wl = true) (e : xs' = xs ++ [.int .u8 92, .int .u8 10]) : Pm n Z q ns ao wl xs0 k xs' := by
  obtain ⟨P, rfl, h⟩ := h
  subst e
  refine ⟨P ++ [92, 10], by simp, fun X hX => ?_⟩
  have := h _ (.wrap hk hw hX)
  simpa using this
theorem Pm.fin {PC : List Int} {d : Nat} (h : Pm n Z q ns ao wl xs0 k xs) (hp : piece n Z q ns ao k = PC ∧ adv n Z k = d) (e : xs' = xs ++ PC.map (fun x => Value.int .u8 x)) : Pre n Z q ns ao wl xs0 (k + d) xs' := by
  obtain ⟨P, rfl, h⟩ := h
  obtain ⟨rfl, rfl⟩ := hp
  subst e
  refine ⟨P ++ piece n Z q ns ao k, by simp, fun X hX => ?_⟩
  rw [List.append_assoc]
  exact h _ hX
theorem Pre.done (h : Pre n Z q ns ao wl xs0 n xs) : ∃ P : List Int, xs = xs0 ++ P.map (fun x => Value.int .u8 x) ∧ Rest n Z q ns ao wl 0 P := by
  obtain ⟨P, e, h⟩ := h
  exact ⟨P, e, by simpa using h [] .nil⟩
end
def hexB : ByteArray := ⟨#[48, 49, 50, 51, 52, 53, 54, 55, 56, 57, 65, 66, 67, 68, 69, 70]⟩
theorem hexT : ∀ d : Fin 16, bt hexB d.val = hx (d.val : Int) := by decide
theorem hexG (d : Nat) (h : d < 16) : ∃ x : Int, (∀ (h' : d < (⟨#[48, 49, 50, 51, 52, 53, 54, 55, 56, 57, 65, 66, 67, 68, 69, 70]⟩ : ByteArray).size), (((⟨#[48, 49, 50, 51, 52, 53, 54, 55, 56, 57, 65, 66, 67, 68, 69, 70]⟩ : ByteArray)[d]'h').toNat : Int) = x) ∧ x = hx d := ⟨bt hexB d, fun h' => get_bt hexB d h', hexT ⟨d, h⟩⟩
theorem scrG (d : Nat) (h : d < 6) : ∃ x : Int, (∀ (h' : d < (⟨#[115, 99, 114, 105, 112, 116]⟩ : ByteArray).size), (((⟨#[115, 99, 114, 105, 112, 116]⟩ : ByteArray)[d]'h').toNat : Int) = x) ∧ 0 ≤ x ∧ x ≤ 255 ∧ x = scrB d :=
  ⟨bt ⟨#[115, 99, 114, 105, 112, 116]⟩ d, fun h' => get_bt _ d h', by have := get_bt (⟨#[115, 99, 114, 105, 112, 116]⟩ : ByteArray) d h; omega, by have := get_bt (⟨#[115, 99, 114, 105, 112, 116]⟩ : ByteArray) d h; have := ((⟨#[115, 99, 114, 105, 112, 116]⟩ : ByteArray)[d]'h).toNat_lt; omega, rfl⟩
theorem and15 (x : Int) (h0 : 0 ≤ x) (h1 : x < 65536) : ∃ d : Nat, bits .and .u16 x 15 = (d : Int) ∧ d < 16 ∧ (d : Int) = x % 16 := by
  refine ⟨x.toNat % 16, ?_, by omega, by omega⟩
  rw [u16_and x 15 h0 h1 (by omega) (by omega)]
  have e : (15 : Int).toNat = 2 ^ 4 - 1 := rfl
  rw [e, Nat.and_two_pow_sub_one_eq_mod]
noncomputable def rbody : Code := match ubody with
  | .seq _ (.block _ (.seq _ r)) => r
  | _ => .skip
noncomputable def hbody (r : Code) : Code := match ubody with
  | .seq x (.block l (.seq y _)) => .seq x (.block l (.seq y r))
  | c => c
set_option maxRecDepth 1000000 in
theorem ubody_eq : ubody = hbody rbody := by kernel_rfl
theorem mstep {f g : Nat → Int} {jj : Nat} (h : ∀ i, i < jj → f i = g i) (e : f jj = g jj) : ∀ i, i < jj + 1 → f i = g i := fun i hi => by
  by_cases hh : i = jj
  · rw [hh]; exact e
  · exact h i (by omega)
/-- Where the loop stands. -/
def VRel (w0 : World) (B tb : Nat) (v0 : Value) (xs0 : List Value) (n : Nat) (q : Int) (Z : Nat → Int) (ns ao wl : Bool) (j i s : Value) (wr : World) : Prop :=
  ∃ k : Nat, k ≤ n ∧ i = .int .i64 k ∧ (∃ sl : Int, s = .int .i64 sl) ∧ ∃ ja jn jc xs, j = .slice ja jn jc ∧ Hid (US w0 B tb v0 xs0 (12 * k) wr (.slice ja jn jc) xs) ∧ Hid (Pre n Z q ns ao wl xs0 k xs)
set_option maxRecDepth 1000000 in
def UJ (w0 : World) (B p tb : Nat) (v0 : Value) (xs0 : List Value) (a : Option Addr) (n c : Nat) (q fl : Int) (Z : Nat → Int) (ns ao wl : Bool) (c4 c5 c6 c7 c24 c25 c26 c27 c28 c29 c30 c31 c32 c33 c34 c35 c36 c37 c38 c39 c40 c41 c42 c43 c44 c45 c46 c47 c48 c49 c50 c51 c52 c53 c54 c55 c443 c444 c445 c446 : Value) (a' : Act) (w' : World) : Prop := ∃ u9 u10 u12 u14 u15 u16 u17 u18 u19 u20 u21 u22 u23 u56 u57 u58 u59 u60 u61 u62 u63 u64 u65 u66 u67 u68 u69 u70 u71 u72 u73 u74 u75 u76 u77 u78 u79 u80 u81 u82 u83 u84 u85 u86 u87 u88 u89 u90 u91 u92 u93 u94 u95 u96 u97 u98 u99 u100 u101 u102 u103 u104 u105 u106 u107 u108 u109 u110 u111 u112 u113 u114 u115 u116 u117 u118 u119 u120 u121 u122 u123 u124 u125 u126 u127 u128 u129 u130 u131 u132 u133 u134 u135 u136 u137 u138 u139 u140 u141 u142 u143 u144 u145 u146 u147 u148 u149 u150 u151 u152 u153 u154 u155 u156 u157 u158 u159 u160 u161 u162 u163 u164 u165 u166 u167 u168 u169 u170 u171 u172 u173 u174 u175 u176 u177 u178 u179 u180 u181 u182 u183 u184 u185 u186 u187 u188 u189 u190 u191 u192 u193 u194 u195 u196 u197 u198 u199 u200 u201 u202 u203 u204 u205 u206 u207 u208 u209 u210 u211 u212 u213 u214 u215 u216 u217 u218 u219 u220 u221 u222 u223 u224 u225 u226 u227 u228 u229 u230 u231 u232 u233 u234 u235 u236 u237 u238 u239 u240 u241 u242 u243 u244 u245 u246 u247 u248 u249 u250 u251 u252 u253 u254 u255 u256 u257 u258 u259 u260 u261 u262 u263 u264 u265 u266 u267 u268 u269 u270 u271 u272 u273 u274 u275 u276 u277 u278 u279 u280 u281 u282 u283 u284 u285 u286 u287 u288 u289 u290 u291 u292 u293 u294 u295 u296 u297 u298 u299 u300 u301 u302 u303 u304 u305 u306 u307 u308 u309 u310 u311 u312 u313 u314 u315 u316 u317 u318 u319 u320 u321 u322 u323 u324 u325 u326 u327 u328 u329 u330 u331 u332 u333 u334 u335 u336 u337 u338 u339 u340 u341 u342 u343 u344 u345 u346 u347 u348 u349 u350 u351 u352 u353 u354 u355 u356 u357 u358 u359 u360 u361 u362 u363 u364 u365 u366 u367 u368 u369 u370 u371 u372 u373 u374 u375 u376 u377 u378 u379 u380 u381 u382 u383 u384 u385 u386 u387 u388 u389 u390 u391 u392 u393 u394 u395 u396 u397 u398 u399 u400 u401 u402 u403 u404 u405 u406 u407 u408 u409 u410 u411 u412 u413 u414 u415 u416 u417 u418 u419 u420 u421 u422 u423 u424 u425 u426 u427 u428 u429 u430 u431 u432 u433 u434 u435 u436 u437 u438 u439 u440 u441 u442 : Value, VRel w0 B tb v0 xs0 n q Z ns ao wl u9 u10 u12 w' ∧ a' = ⟨#[.pointer (some ⟨p, 0, none⟩), .slice a n c, .int .i32 q, .int .u8 fl, c4, c5, c6, c7, .slice (some ⟨tb, 0, none⟩) 4 4, u9, u10, .int .i64 (n : Int), u12, .bool wl, u14, u15, u16, u17, u18, u19, u20, u21, u22, u23, c24, c25, c26, c27, c28, c29, c30, c31, c32, c33, c34, c35, c36, c37, c38, c39, c40, c41, c42, c43, c44, c45, c46, c47, c48, c49, c50, c51, c52, c53, c54, c55, u56, u57, u58, u59, u60, u61, u62, u63, u64, u65, u66, u67, u68, u69, u70, u71, u72, u73, u74, u75, u76, u77, u78, u79, u80, u81, u82, u83, u84, u85, u86, u87, u88, u89, u90, u91, u92, u93, u94, u95, u96, u97, u98, u99, u100, u101, u102, u103, u104, u105, u106, u107, u108, u109, u110, u111, u112, u113, u114, u115, u116, u117, u118, u119, u120, u121, u122, u123, u124, u125, u126, u127, u128, u129, u130, u131, u132, u133, u134, u135, u136, u137, u138, u139, u140, u141, u142, u143, u144, u145, u146, u147, u148, u149, u150, u151, u152, u153, u154, u155, u156, u157, u158, u159, u160, u161, u162, u163, u164, u165, u166, u167, u168, u169, u170, u171, u172, u173, u174, u175, u176, u177, u178, u179, u180, u181, u182, u183, u184, u185, u186, u187, u188, u189, u190, u191, u192, u193, u194, u195, u196, u197, u198, u199, u200, u201, u202, u203, u204, u205, u206, u207, u208, u209, u210, u211, u212, u213, u214, u215, u216, u217, u218, u219, u220, u221, u222, u223, u224, u225, u226, u227, u228, u229, u230, u231, u232, u233, u234, u235, u236, u237, u238, u239, u240, u241, u242, u243, u244, u245, u246, u247, u248, u249, u250, u251, u252, u253, u254, u255, u256, u257, u258, u259, u260, u261, u262, u263, u264, u265, u266, u267, u268, u269, u270, u271, u272, u273, u274, u275, u276, u277, u278, u279, u280, u281, u282, u283, u284, u285, u286, u287, u288, u289, u290, u291, u292, u293, u294, u295, u296, u297, u298, u299, u300, u301, u302, u303, u304, u305, u306, u307, u308, u309, u310, u311, u312, u313, u314, u315, u316, u317, u318, u319, u320, u321, u322, u323, u324, u325, u326, u327, u328, u329, u330, u331, u332, u333, u334, u335, u336, u337, u338, u339, u340, u341, u342, u343, u344, u345, u346, u347, u348, u349, u350, u351, u352, u353, u354, u355, u356, u357, u358, u359, u360, u361, u362, u363, u364, u365, u366, u367, u368, u369, u370, u371, u372, u373, u374, u375, u376, u377, u378, u379, u380, u381, u382, u383, u384, u385, u386, u387, u388, u389, u390, u391, u392, u393, u394, u395, u396, u397, u398, u399, u400, u401, u402, u403, u404, u405, u406, u407, u408, u409, u410, u411, u412, u413, u414, u415, u416, u417, u418, u419, u420, u421, u422, u423, u424, u425, u426, u427, u428, u429, u430, u431, u432, u433, u434, u435, u436, u437, u438, u439, u440, u441, u442, c443, c444, c445, c446], []⟩
end Go.Proofs.YtfhafelkkophgaaFmt.Aux
