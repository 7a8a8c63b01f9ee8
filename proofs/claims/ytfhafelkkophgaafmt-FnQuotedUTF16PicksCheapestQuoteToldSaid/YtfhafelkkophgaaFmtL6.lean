/- Contracts of functions that the law of this seat reaches, and plain facts; no condition. -/
import Derived.Test.YtfhafelkkophgaaFmtProg
import Derived.WalkKit
import Derived.ProofKit
import Derived.OpenShut
import Derived.ShutString
import Derived.Test.YtfhafelkkophgaaFmtAid
import Derived.Test.YtfhafelkkophgaaFmtA
import Derived.ArgAppend
import Derived.WalkSpells
import Derived.LoopTactic
import Derived.IntWalk
import Derived.Outline
import Derived.Deep.QuietTactic
import Derived.BigQuiet
import Derived.Deep.RegionHeld3
import Derived.Deep.RegionLaw
import Derived.StillTailTactics
import Derived.OwnWalk
import Derived.RegionTactic
import Derived.Laws.BitsAllLaws
namespace Go.Proofs.YtfhafelkkophgaaFmt.Aux
open Go.ChangeShapes Go.WideShapes Go.ChangeAt Go.RowKit
open Go.ChangeMaps (open_string shut_string)
set_option linter.unusedVariables false
open Fl Str Pb Qd PlainAid Aux
theorem scrG (d : Nat) (h : d < 6) : ∃ x : Int, (∀ (h' : d < (⟨#[115, 99, 114, 105, 112, 116]⟩ : ByteArray).size), (((⟨#[115, 99, 114, 105, 112, 116]⟩ : ByteArray)[d]'h').toNat : Int) = x) ∧ 0 ≤ x ∧ x ≤ 255 :=
  ⟨bt ⟨#[115, 99, 114, 105, 112, 116]⟩ d, fun h' => get_bt _ d h', by have := get_bt (⟨#[115, 99, 114, 105, 112, 116]⟩ : ByteArray) d h; omega, by have := get_bt (⟨#[115, 99, 114, 105, 112, 116]⟩ : ByteArray) d h; have := ((⟨#[115, 99, 114, 105, 112, 116]⟩ : ByteArray)[d]'h).toNat_lt; omega⟩
set_option maxRecDepth 1000000 in
set_option maxHeartbeats 40000000 in
theorem lf47d (w0 : World) (B p tb : Nat) (v0 : Value) (xs0 : List Value) (a : Option Addr) (n c : Nat) (q fl : Int) (c4 c5 c6 c7 c24 c25 c26 c27 c28 c29 c30 c31 c32 c33 c34 c35 c36 c37 c38 c39 c40 c41 c42 c43 c44 c45 c46 c47 c48 c49 c50 c51 c52 c53 c54 c55 c443 c444 c445 c446 u12 u14 u15 u16 u17 u18 u19 u20 u21 u22 u23 u56 u57 u58 u59 u60 u61 u62 u63 u64 u65 u66 u67 u68 u69 u70 u71 u72 u73 u74 u75 u76 u77 u78 u79 u80 u81 u82 u83 u84 u85 u86 u87 u88 u89 u90 u91 u92 u93 u94 u95 u96 u97 u98 u99 u100 u101 u102 u103 u104 u105 u106 u107 u108 u109 u110 u111 u112 u113 u114 u115 u116 u117 u118 u119 u120 u121 u122 u123 u124 u125 u126 u127 u128 u129 u130 u131 u132 u133 u134 u135 u136 u137 u138 u139 u140 u141 u142 u143 u144 u145 u146 u147 u148 u149 u150 u151 u152 u153 u154 u155 u156 u157 u158 u159 u160 u161 u162 u163 u164 u165 u166 u167 u168 u169 u170 u171 u172 u173 u174 u175 u176 u177 u178 u179 u180 u181 u182 u183 u184 u185 u186 u187 u188 u189 u190 u191 u192 u193 u194 u195 u196 u197 u198 u199 u200 u201 u202 u203 u204 u205 u206 u207 u208 u209 u210 u211 u212 u213 u214 u215 u216 u217 u218 u219 u220 u221 u222 u223 u224 u225 u226 u227 u228 u229 u230 u231 u232 u233 u234 u235 u236 u237 u238 u239 u240 u241 u242 u243 u244 u245 u246 u247 u248 u249 u250 u251 u252 u253 u254 u255 u256 u257 u258 u259 u260 u261 u262 u263 u264 u265 u266 u267 u268 u269 u270 u271 u272 u273 u274 u275 u276 u277 u278 u279 u280 u281 u282 u283 u284 u285 u286 u287 u288 u289 u290 u291 u292 u293 u294 u295 u296 u297 u298 u299 u300 u301 u302 u303 u304 u305 u306 u307 u308 u309 u310 u311 u312 u313 u314 u315 u316 u317 u318 u319 u320 u321 u322 u323 u324 u325 u326 u327 u328 u329 u330 u331 u332 u333 u334 u335 u336 u337 u338 u339 u340 u341 u342 u343 u344 u345 u346 u347 u348 u349 u350 u351 u352 u353 u354 u355 u356 u357 u358 u359 u360 u361 u362 u363 u364 u365 u366 u367 u368 u369 u370 u371 u372 u373 u374 u375 u376 u377 u378 u379 u380 u381 u382 u383 u384 u385 u386 u387 u388 u389 u390 u391 u392 u393 u394 u395 u396 u397 u398 u399 u400 u401 u402 u403 u404 u405 u406 u407 u408 u409 u410 u411 u412 u413 u414 u415 u416 u417 u418 u419 u420 u421 u422 u423 u424 u425 u426 u427 u428 u429 u430 u431 u432 u433 u434 u435 u436 u437 u438 u439 u440 u441 u442 : Value) (ja : Option Addr) (jn jc k : Nat) (xs : List Value) (wr : World) (Q0 : Exit → Act → World → Prop) (HU : Hid (US w0 B tb v0 xs0 (12 * k) wr (.slice ja jn jc) xs)) (hn : n ≤ 524288) (hx : xs0.length ≤ 1048576) (hB0 : B ≤ w0.heap.size) (hlt : k < n) (uf : Int) (b off : Nat) (ha : a = some ⟨b, off, none⟩) (hbl : b < wr.heap.size) (hc : wr.cell? ⟨b, off + k, none⟩ = some (.int .u16 47)) (hk1 : 1 ≤ k) (x : Int) (hcx : wr.cell? ⟨b, off + (k - 1), none⟩ = some (.int .u16 x)) (hx60 : (x == 60) = true) (h6 : k + 7 ≤ n) (HT : Hid (∀ i, i < n → ∃ z : Int, 0 ≤ z ∧ z ≤ 65535 ∧ wr.cell? ⟨b, off + i, none⟩ = some (.int .u16 z))) (h24 : wr.cell? ⟨p, 24, none⟩ = some (.int .u64 uf)) (hpl : p < wr.heap.size) (HH : Hid (∀ w, Calls Tryf.prog 37 #[.int .u64 uf, .int .u64 68719476736] w fun e w' => e = .returned (.bool false) ∧ w' = w)) :
    Code.wp Tryf.prog ubody (Exit.then (fun a' w'' => UI w0 B p tb v0 xs0 a n c q fl c4 c5 c6 c7 c24 c25 c26 c27 c28 c29 c30 c31 c32 c33 c34 c35 c36 c37 c38 c39 c40 c41 c42 c43 c44 c45 c46 c47 c48 c49 c50 c51 c52 c53 c54 c55 c443 c444 c445 c446 a' w'' ∧ Umu n a' < Umu n ⟨#[.pointer (some ⟨p, 0, none⟩), .slice a n c, .int .i32 q, .int .u8 fl, c4, c5, c6, c7, .slice (some ⟨tb, 0, none⟩) 4 4, .slice ja jn jc, .int .i64 (k : Int), .int .i64 (n : Int), u12, .bool false, u14, u15, u16, u17, u18, u19, u20, u21, u22, u23, c24, c25, c26, c27, c28, c29, c30, c31, c32, c33, c34, c35, c36, c37, c38, c39, c40, c41, c42, c43, c44, c45, c46, c47, c48, c49, c50, c51, c52, c53, c54, c55, u56, u57, u58, u59, u60, u61, u62, u63, u64, u65, u66, u67, u68, u69, u70, u71, u72, u73, u74, u75, u76, u77, u78, u79, u80, u81, u82, u83, u84, u85, u86, u87, u88, u89, u90, u91, u92, u93, u94, u95, u96, u97, u98, u99, u100, u101, u102, u103, u104, u105, u106, u107, u108, u109, u110, u111, u112, u113, u114, u115, u116, u117, u118, u119, u120, u121, u122, u123, u124, u125, u126, u127, u128, u129, u130, u131, u132, u133, u134, u135, u136, u137, u138, u139, u140, u141, u142, u143, u144, u145, u146, u147, u148, u149, u150, u151, u152, u153, u154, u155, u156, u157, u158, u159, u160, u161, u162, u163, u164, u165, u166, u167, u168, u169, u170, u171, u172, u173, u174, u175, u176, u177, u178, u179, u180, u181, u182, u183, u184, u185, u186, u187, u188, u189, u190, u191, u192, u193, u194, u195, u196, u197, u198, u199, u200, u201, u202, u203, u204, u205, u206, u207, u208, u209, u210, u211, u212, u213, u214, u215, u216, u217, u218, u219, u220, u221, u222, u223, u224, u225, u226, u227, u228, u229, u230, u231, u232, u233, u234, u235, u236, u237, u238, u239, u240, u241, u242, u243, u244, u245, u246, u247, u248, u249, u250, u251, u252, u253, u254, u255, u256, u257, u258, u259, u260, u261, u262, u263, u264, u265, u266, u267, u268, u269, u270, u271, u272, u273, u274, u275, u276, u277, u278, u279, u280, u281, u282, u283, u284, u285, u286, u287, u288, u289, u290, u291, u292, u293, u294, u295, u296, u297, u298, u299, u300, u301, u302, u303, u304, u305, u306, u307, u308, u309, u310, u311, u312, u313, u314, u315, u316, u317, u318, u319, u320, u321, u322, u323, u324, u325, u326, u327, u328, u329, u330, u331, u332, u333, u334, u335, u336, u337, u338, u339, u340, u341, u342, u343, u344, u345, u346, u347, u348, u349, u350, u351, u352, u353, u354, u355, u356, u357, u358, u359, u360, u361, u362, u363, u364, u365, u366, u367, u368, u369, u370, u371, u372, u373, u374, u375, u376, u377, u378, u379, u380, u381, u382, u383, u384, u385, u386, u387, u388, u389, u390, u391, u392, u393, u394, u395, u396, u397, u398, u399, u400, u401, u402, u403, u404, u405, u406, u407, u408, u409, u410, u411, u412, u413, u414, u415, u416, u417, u418, u419, u420, u421, u422, u423, u424, u425, u426, u427, u428, u429, u430, u431, u432, u433, u434, u435, u436, u437, u438, u439, u440, u441, u442, c443, c444, c445, c446], []⟩) Q0) ⟨#[.pointer (some ⟨p, 0, none⟩), .slice a n c, .int .i32 q, .int .u8 fl, c4, c5, c6, c7, .slice (some ⟨tb, 0, none⟩) 4 4, .slice ja jn jc, .int .i64 (k : Int), .int .i64 (n : Int), u12, .bool false, u14, u15, u16, u17, u18, u19, u20, u21, u22, u23, c24, c25, c26, c27, c28, c29, c30, c31, c32, c33, c34, c35, c36, c37, c38, c39, c40, c41, c42, c43, c44, c45, c46, c47, c48, c49, c50, c51, c52, c53, c54, c55, u56, u57, u58, u59, u60, u61, u62, u63, u64, u65, u66, u67, u68, u69, u70, u71, u72, u73, u74, u75, u76, u77, u78, u79, u80, u81, u82, u83, u84, u85, u86, u87, u88, u89, u90, u91, u92, u93, u94, u95, u96, u97, u98, u99, u100, u101, u102, u103, u104, u105, u106, u107, u108, u109, u110, u111, u112, u113, u114, u115, u116, u117, u118, u119, u120, u121, u122, u123, u124, u125, u126, u127, u128, u129, u130, u131, u132, u133, u134, u135, u136, u137, u138, u139, u140, u141, u142, u143, u144, u145, u146, u147, u148, u149, u150, u151, u152, u153, u154, u155, u156, u157, u158, u159, u160, u161, u162, u163, u164, u165, u166, u167, u168, u169, u170, u171, u172, u173, u174, u175, u176, u177, u178, u179, u180, u181, u182, u183, u184, u185, u186, u187, u188, u189, u190, u191, u192, u193, u194, u195, u196, u197, u198, u199, u200, u201, u202, u203, u204, u205, u206, u207, u208, u209, u210, u211, u212, u213, u214, u215, u216, u217, u218, u219, u220, u221, u222, u223, u224, u225, u226, u227, u228, u229, u230, u231, u232, u233, u234, u235, u236, u237, u238, u239, u240, u241, u242, u243, u244, u245, u246, u247, u248, u249, u250, u251, u252, u253, u254, u255, u256, u257, u258, u259, u260, u261, u262, u263, u264, u265, u266, u267, u268, u269, u270, u271, u272, u273, u274, u275, u276, u277, u278, u279, u280, u281, u282, u283, u284, u285, u286, u287, u288, u289, u290, u291, u292, u293, u294, u295, u296, u297, u298, u299, u300, u301, u302, u303, u304, u305, u306, u307, u308, u309, u310, u311, u312, u313, u314, u315, u316, u317, u318, u319, u320, u321, u322, u323, u324, u325, u326, u327, u328, u329, u330, u331, u332, u333, u334, u335, u336, u337, u338, u339, u340, u341, u342, u343, u344, u345, u346, u347, u348, u349, u350, u351, u352, u353, u354, u355, u356, u357, u358, u359, u360, u361, u362, u363, u364, u365, u366, u367, u368, u369, u370, u371, u372, u373, u374, u375, u376, u377, u378, u379, u380, u381, u382, u383, u384, u385, u386, u387, u388, u389, u390, u391, u392, u393, u394, u395, u396, u397, u398, u399, u400, u401, u402, u403, u404, u405, u406, u407, u408, u409, u410, u411, u412, u413, u414, u415, u416, u417, u418, u419, u420, u421, u422, u423, u424, u425, u426, u427, u428, u429, u430, u431, u432, u433, u434, u435, u436, u437, u438, u439, u440, u441, u442, c443, c444, c445, c446], []⟩ wr := by
  conv => arg 2; whnf
  subst ha
  have hk2 : (k : Int) < (n : Int) := by omega
  have HX1 : Hid (∀ s : ByteArray, s.size ≤ 12 → xs0.length + 12 * k + s.size ≤ 134217728) := Lib.hid fun s hs => by omega
  have ea : ((k : Int) + 1 - 2).toNat = k - 1 := by omega
  have hi2 : (2 : Int) ≤ (k : Int) + 1 := by omega
  have hi6 : (k : Int) + 1 + 6 ≤ (n : Int) := by omega
  have R1 := Lib.hid (fun ty => US.one HU.out hB0 #[.int .u8 47] 1 rfl (by intro u hu; simp at hu; first | (subst hu; rfl) | (rcases hu with rfl | rfl | rfl | rfl | rfl | rfl <;> rfl)) (by omega) ty _ rfl)
  go_wp2_with (go_at_call 37; refine (HH.out _).mono ?_; rintro e w1 ⟨rfl, rfl⟩)
  go_loopw [16, 17, 18, 19] (fun m j _ _ w2 => m = .bool true ∧ ∃ jj : Nat, jj ≤ 6 ∧ j = .int .i64 jj ∧ Hid (US w0 B tb v0 xs0 (12 * k) w2 (.slice ja jn jc) xs) ∧ Hid (∀ i, i < n → ∃ z : Int, 0 ≤ z ∧ z ≤ 65535 ∧ w2.cell? ⟨b, off + i, none⟩ = some (.int .u16 z))) (fun _ j _ _ _ => 6 - (intOf j).toNat)
  case atStart => exact ⟨rfl, 0, by omega, rfl, HU, HT⟩
  case round =>
    clear R1 hc hcx hbl h24 hpl
    obtain ⟨rfl, jj, hjj, rfl, HU, HT⟩ := hrel
    have hbl : b < wr.heap.size := by
      obtain ⟨_, _, _, hq⟩ := HT.out k hlt
      exact World.block_lt_of_cell? wr _ hq
    have R1 := Lib.hid (fun ty => US.one HU.out hB0 #[.int .u8 47] 1 rfl (by intro u hu; simp at hu; first | (subst hu; rfl) | (rcases hu with rfl | rfl | rfl | rfl | rfl | rfl <;> rfl)) (by omega) ty _ rfl)
    have R2' := Lib.hid (fun ty => US.one HU.out hB0 #[.int .u8 92] 1 rfl (by intro u hu; simp at hu; first | (subst hu; rfl) | (rcases hu with rfl | rfl | rfl | rfl | rfl | rfl <;> rfl)) (by omega) ty _ rfl)
    by_cases hj6 : jj < 6
    · have hj6' : (jj : Int) < 6 := by omega
      obtain ⟨av, ha0, ha1, hca⟩ := HT.out (k + 1 + jj) (by omega)
      obtain ⟨bs, hbs, hb0, hb1⟩ := scrG jj hj6
      have hlj : (k : Int) + 1 + (jj : Int) < (n : Int) := by omega
      have eb : ((k : Int) + 1 + (jj : Int)).toNat = k + 1 + jj := by omega
      have scrL : jj < (⟨#[115, 99, 114, 105, 112, 116]⟩ : ByteArray).size := hj6
      by_cases g1 : 65 ≤ av
      · by_cases g2 : av ≤ 90
        · have wv : IntKind.u16.wrap (av + 32) = av + 32 := IntWalk.u16_in _ (by omega)
          cases hm : (av + 32 != bs)
          · go_wp2_with fail
            go_roundw
            case rel => exact ⟨rfl, jj + 1, by omega, by go_num, HU, HT⟩
            case measure => simp [intOf]; omega
          · go_wp2_with (at_builtin; refine wpList_app rfl _ _ #[25, 25] rfl rfl rfl (R1.out _) ?_; rintro v' w' ⟨ja2, jn2, jc2, rfl, HU2⟩)
            unfold UI Umu
            refine ⟨?_, ?_⟩
            · (repeat apply Exists.intro)
              refine ⟨?_, rfl⟩
              exact ⟨k + 1, by omega, by go_num, _, _, _, _, rfl, Lib.hid (HU2.out.mono (by first | omega | (simp [ByteArray.size]; omega) | simp [ByteArray.size]))⟩
            · simp [intOf]; omega
        · cases hm : (av != bs)
          · go_wp2_with fail
            go_roundw
            case rel => exact ⟨rfl, jj + 1, by omega, by go_num, HU, HT⟩
            case measure => simp [intOf]; omega
          · go_wp2_with (at_builtin; refine wpList_app rfl _ _ #[25, 25] rfl rfl rfl (R1.out _) ?_; rintro v' w' ⟨ja2, jn2, jc2, rfl, HU2⟩)
            unfold UI Umu
            refine ⟨?_, ?_⟩
            · (repeat apply Exists.intro)
              refine ⟨?_, rfl⟩
              exact ⟨k + 1, by omega, by go_num, _, _, _, _, rfl, Lib.hid (HU2.out.mono (by first | omega | (simp [ByteArray.size]; omega) | simp [ByteArray.size]))⟩
            · simp [intOf]; omega
      · cases hm : (av != bs)
        · go_wp2_with fail
          go_roundw
          case rel => exact ⟨rfl, jj + 1, by omega, by go_num, HU, HT⟩
          case measure => simp [intOf]; omega
        · go_wp2_with (at_builtin; refine wpList_app rfl _ _ #[25, 25] rfl rfl rfl (R1.out _) ?_; rintro v' w' ⟨ja2, jn2, jc2, rfl, HU2⟩)
          unfold UI Umu
          refine ⟨?_, ?_⟩
          · (repeat apply Exists.intro)
            refine ⟨?_, rfl⟩
            exact ⟨k + 1, by omega, by go_num, _, _, _, _, rfl, Lib.hid (HU2.out.mono (by first | omega | (simp [ByteArray.size]; omega) | simp [ByteArray.size]))⟩
          · simp [intOf]; omega
    · have hj6' : ¬ (jj : Int) < 6 := by omega
      go_wp2_with (first | (at_builtin; refine wpList_app rfl _ _ #[25, 25] rfl rfl rfl (R3.out _) ?_; rintro v' w' ⟨ja2, jn2, jc2, rfl, HU3⟩) | (at_builtin; refine wpList_app rfl _ _ #[25, 25] rfl rfl rfl (R2'.out _) ?_; rintro v' w' ⟨ja2, jn2, jc2, rfl, HU2⟩; have R3 := Lib.hid (fun ty => US.one HU2.out hB0 #[.int .u8 47] 1 rfl (by intro u hu; simp at hu; first | (subst hu; rfl) | (rcases hu with rfl | rfl | rfl | rfl | rfl | rfl <;> rfl)) (by omega) ty _ rfl)))
      unfold UI Umu
      refine ⟨?_, ?_⟩
      · (repeat apply Exists.intro)
        refine ⟨?_, rfl⟩
        exact ⟨k + 1, by omega, by go_num, _, _, _, _, rfl, Lib.hid (HU3.out.mono (by first | omega | (simp [ByteArray.size]; omega) | simp [ByteArray.size]))⟩
      · simp [intOf]; omega
end Go.Proofs.YtfhafelkkophgaaFmt.Aux
