/- Contracts of functions that the law of this seat reaches, and plain facts; no condition. -/
import Derived.Test.YtfhafelkkophgaaFmtProg
import Derived.WalkKit
import Derived.ProofKit
import Derived.OpenShut
import Derived.ShutString
import Derived.Test.YtfhafelkkophgaaFmtAid
import Derived.Test.YtfhafelkkophgaaFmtC
import Derived.ArgAppend
import Derived.WalkSpells
import Derived.LoopTactic
import Derived.IntWalk
import Derived.Outline
import Derived.Deep.QuietTactic
import Derived.BigQuiet
import Derived.Deep.RegionHeld3
import Derived.Deep.RegionLaw
import Derived.StillTailTactics
import Derived.OwnWalk
import Derived.RegionTactic
import Derived.Laws.BitsAllLaws
import Derived.Lib.ConvBytes
namespace Go.Proofs.YtfhafelkkophgaaFmt.Aux
open Go.ChangeShapes Go.WideShapes Go.ChangeAt Go.RowKit
open Go.ChangeMaps (open_string shut_string)
set_option linter.unusedVariables false
set_option linter.unusedSimpArgs false
open Fl Str Pb Qd PlainAid Aux
set_option maxRecDepth 1000000 in
set_option maxHeartbeats 40000000 in
theorem lfS1 (w0 : World) (B p tb : Nat) (v0 : Value) (xs0 : List Value) (a : Option Addr) (n c : Nat) (q fl : Int) (Z : Nat → Int) (ns ao wl : Bool) (c4 c5 c6 c7 c24 c25 c26 c27 c28 c29 c30 c31 c32 c33 c34 c35 c36 c37 c38 c39 c40 c41 c42 c43 c44 c45 c46 c47 c48 c49 c50 c51 c52 c53 c54 c55 c443 c444 c445 c446 u14 u15 u16 u17 u18 u19 u20 u21 u22 u23 u56 u57 u58 u59 u60 u61 u62 u63 u64 u65 u66 u67 u68 u69 u70 u71 u72 u73 u74 u75 u76 u77 u78 u79 u80 u81 u82 u83 u84 u85 u86 u87 u88 u89 u90 u91 u92 u93 u94 u95 u96 u97 u98 u99 u100 u101 u102 u103 u104 u105 u106 u107 u108 u109 u110 u111 u112 u113 u114 u115 u116 u117 u118 u119 u120 u121 u122 u123 u124 u125 u126 u127 u128 u129 u130 u131 u132 u133 u134 u135 u136 u137 u138 u139 u140 u141 u142 u143 u144 u145 u146 u147 u148 u149 u150 u151 u152 u153 u154 u155 u156 u157 u158 u159 u160 u161 u162 u163 u164 u165 u166 u167 u168 u169 u170 u171 u172 u173 u174 u175 u176 u177 u178 u179 u180 u181 u182 u183 u184 u185 u186 u187 u188 u189 u190 u191 u192 u193 u194 u195 u196 u197 u198 u199 u200 u201 u202 u203 u204 u205 u206 u207 u208 u209 u210 u211 u212 u213 u214 u215 u216 u217 u218 u219 u220 u221 u222 u223 u224 u225 u226 u227 u228 u229 u230 u231 u232 u233 u234 u235 u236 u237 u238 u239 u240 u241 u242 u243 u244 u245 u246 u247 u248 u249 u250 u251 u252 u253 u254 u255 u256 u257 u258 u259 u260 u261 u262 u263 u264 u265 u266 u267 u268 u269 u270 u271 u272 u273 u274 u275 u276 u277 u278 u279 u280 u281 u282 u283 u284 u285 u286 u287 u288 u289 u290 u291 u292 u293 u294 u295 u296 u297 u298 u299 u300 u301 u302 u303 u304 u305 u306 u307 u308 u309 u310 u311 u312 u313 u314 u315 u316 u317 u318 u319 u320 u321 u322 u323 u324 u325 u326 u327 u328 u329 u330 u331 u332 u333 u334 u335 u336 u337 u338 u339 u340 u341 u342 u343 u344 u345 u346 u347 u348 u349 u350 u351 u352 u353 u354 u355 u356 u357 u358 u359 u360 u361 u362 u363 u364 u365 u366 u367 u368 u369 u370 u371 u372 u373 u374 u375 u376 u377 u378 u379 u380 u381 u382 u383 u384 u385 u386 u387 u388 u389 u390 u391 u392 u393 u394 u395 u396 u397 u398 u399 u400 u401 u402 u403 u404 u405 u406 u407 u408 u409 u410 u411 u412 u413 u414 u415 u416 u417 u418 u419 u420 u421 u422 u423 u424 u425 u426 u427 u428 u429 u430 u431 u432 u433 u434 u435 u436 u437 u438 u439 u440 u441 u442 : Value) (ja : Option Addr) (jn jc k : Nat) (sl : Int) (xs : List Value) (wr : World) (K0 : Act → World → Prop) (R : Ending → World → Prop) (HU : Hid (US w0 B tb v0 xs0 (12 * k + 2) wr (.slice ja jn jc) xs)) (HP : Hid (Pm n Z q ns ao wl xs0 k xs)) (hn : n ≤ 1048576) (hx : xs0.length ≤ 1048577) (hB0 : B ≤ w0.heap.size) (hlt : k < n) (z : Int) (hz0 : 0 ≤ z) (hz1 : z ≤ 65535) (b off : Nat) (ha : a = some ⟨b, off, none⟩) (hbl : b < wr.heap.size) (hc : wr.cell? ⟨b, off + k, none⟩ = some (.int .u16 z)) (e0 : (z == 0) = false) (e7 : (z == 7) = false) (e8 : (z == 8) = false) (e12 : (z == 12) = false) (e10 : (z == 10) = false) (e13 : (z == 13) = false) (e11 : (z == 11) = false) (e27 : (z == 27) = false) (e92 : (z == 92) = false) (e47 : (z == 47) = false) (e39 : (z == 39) = false) (e34 : (z == 34) = false) (e96 : (z == 96) = false) (e36 : (z == 36) = false) (e8232 : (z == 8232) = false) (e8233 : (z == 8233) = false) (e65279 : (z == 65279) = false) (g0 : ¬ z ≤ 126) (g1 : 55296 ≤ z) (g2 : z ≤ 56319) (hlt2 : ¬ k + 1 < n) (HPC : Hid (piece n Z q ns ao k = u4 z ∧ adv n Z k = 1)) :
    Code.wp Tryf.prog rbody (Exit.inBlock 1 (Exit.then (fun a' w'' => UJ w0 B p tb v0 xs0 a n c q fl Z ns ao wl c4 c5 c6 c7 c24 c25 c26 c27 c28 c29 c30 c31 c32 c33 c34 c35 c36 c37 c38 c39 c40 c41 c42 c43 c44 c45 c46 c47 c48 c49 c50 c51 c52 c53 c54 c55 c443 c444 c445 c446 a' w'' ∧ Umu n a' < n - k) (Exit.inBlock 0 (Exit.then K0 (bodyPost Tryf.prog Tryf.f35 R))))) ⟨#[.pointer (some ⟨p, 0, none⟩), .slice a n c, .int .i32 q, .int .u8 fl, c4, c5, c6, c7, .slice (some ⟨tb, 0, none⟩) 4 4, .slice ja jn jc, .int .i64 (k : Int), .int .i64 (n : Int), .int .i64 sl, .bool wl, u14, u15, u16, u17, u18, u19, u20, u21, u22, u23, c24, c25, c26, c27, c28, c29, c30, c31, c32, c33, c34, c35, c36, c37, c38, c39, c40, c41, c42, c43, c44, c45, c46, c47, c48, c49, c50, c51, c52, c53, c54, c55, u56, u57, u58, u59, u60, u61, u62, u63, u64, u65, u66, u67, u68, u69, u70, u71, u72, u73, u74, u75, u76, u77, u78, u79, u80, u81, u82, u83, u84, u85, u86, u87, u88, u89, u90, u91, u92, u93, u94, u95, u96, u97, u98, u99, u100, u101, u102, u103, u104, u105, u106, u107, u108, u109, u110, u111, u112, u113, u114, u115, u116, u117, u118, u119, u120, u121, u122, u123, u124, u125, u126, u127, u128, u129, u130, u131, u132, u133, u134, u135, u136, u137, u138, u139, u140, u141, u142, u143, u144, u145, u146, u147, u148, u149, u150, u151, u152, u153, u154, u155, u156, u157, u158, u159, u160, u161, u162, u163, u164, u165, u166, u167, u168, u169, u170, u171, u172, u173, u174, u175, u176, u177, u178, u179, u180, u181, u182, u183, u184, u185, u186, u187, u188, u189, u190, u191, u192, u193, u194, u195, u196, u197, u198, u199, u200, u201, u202, u203, u204, u205, u206, u207, u208, u209, u210, u211, u212, u213, u214, u215, u216, u217, u218, u219, u220, u221, u222, u223, u224, u225, u226, u227, u228, u229, u230, u231, u232, u233, u234, u235, u236, u237, u238, u239, u240, u241, u242, u243, u244, u245, u246, u247, u248, u249, u250, u251, u252, u253, u254, u255, u256, u257, u258, u259, u260, u261, u262, u263, u264, u265, u266, u267, u268, u269, u270, u271, u272, u273, u274, u275, u276, u277, u278, u279, u280, u281, u282, u283, u284, u285, u286, u287, u288, u289, u290, u291, u292, u293, u294, u295, u296, u297, u298, u299, u300, u301, u302, u303, u304, u305, u306, u307, u308, u309, u310, u311, u312, u313, u314, u315, u316, u317, u318, u319, u320, u321, u322, u323, u324, u325, u326, u327, u328, u329, u330, u331, u332, u333, u334, u335, u336, u337, u338, u339, u340, u341, u342, u343, u344, u345, u346, u347, u348, u349, u350, u351, u352, u353, u354, u355, u356, u357, u358, u359, u360, u361, u362, u363, u364, u365, u366, u367, u368, u369, u370, u371, u372, u373, u374, u375, u376, u377, u378, u379, u380, u381, u382, u383, u384, u385, u386, u387, u388, u389, u390, u391, u392, u393, u394, u395, u396, u397, u398, u399, u400, u401, u402, u403, u404, u405, u406, u407, u408, u409, u410, u411, u412, u413, u414, u415, u416, u417, u418, u419, u420, u421, u422, u423, u424, u425, u426, u427, u428, u429, u430, u431, u432, u433, u434, u435, u436, u437, u438, u439, u440, u441, u442, c443, c444, c445, c446], []⟩ wr := by
  conv => arg 2; whnf
  subst ha
  have hk2 : (k : Int) < (n : Int) := by omega
  have hk3 : ¬ (k : Int) + 1 < (n : Int) := by omega
  obtain ⟨da1, hda1⟩ : ∃ d : Nat, z / 4096 = (d : Int) := ⟨(z / 4096).toNat, by omega⟩
  obtain ⟨da2, hda2, hla2, hma2⟩ := and15 (z / 256) (by omega) (by omega)
  obtain ⟨da3, hda3, hla3, hma3⟩ := and15 (z / 16) (by omega) (by omega)
  obtain ⟨da4, hda4, hla4, hma4⟩ := and15 z (by omega) (by omega)
  obtain ⟨xa1, hxa1, exa1⟩ := hexG da1 (by omega)
  obtain ⟨xa2, hxa2, exa2⟩ := hexG da2 (by omega)
  obtain ⟨xa3, hxa3, exa3⟩ := hexG da3 (by omega)
  obtain ⟨xa4, hxa4, exa4⟩ := hexG da4 (by omega)
  have EXa : Hid ([92, 117, xa1, xa2, xa3, xa4] = u4 z) := Lib.hid (by rw [u4, hda1, ← hma2, ← hma3, ← hma4, exa1, exa2, exa3, exa4])
  have hna1 : (da1 : Int) < 16 := by omega
  have hna2 : (da2 : Int) < 16 := by omega
  have hna3 : (da3 : Int) < 16 := by omega
  have hna4 : (da4 : Int) < 16 := by omega
  clear hma2 hma3 hma4 exa1 exa2 exa3 exa4
  have R1 := Lib.hid (fun ty => US.one HU.out.drew hB0 #[.int .u8 92, .int .u8 117, .int .u8 xa1, .int .u8 xa2, .int .u8 xa3, .int .u8 xa4] 6 rfl (by intro u hu; simp at hu; rcases hu with rfl | rfl | rfl | rfl | rfl | rfl <;> rfl) (by omega) ty _ rfl)
  go_wp2_with fail
  refine wp_region_any (by kernel_rfl) ?_
  try (change wpAny _ _ _ _ _ _ _ (World.drew _))
  refine wpAny_take (i := 0) (v := .slice ja jn jc) rfl (by kernel_rfl) (by kernel_rfl) (by kernel_rfl) (fun _ _ _ h => h) (Or.inl ⟨by rfl, fun w => by go_simp⟩) ?_
  refine wpAny_take (i := 1) (v := .int .u16 z) rfl (by kernel_rfl) (by kernel_rfl) (by kernel_rfl) (fun _ _ _ h => h) (Or.inl ⟨by rfl, fun w => by go_simp⟩) ?_
  refine wpAny_take (i := 2) (v := .int .u16 (da1 : Int)) rfl (by kernel_rfl) (by kernel_rfl) (by kernel_rfl) (fun _ _ _ h => h) (Or.inl ⟨by rfl, fun w => by go_simp⟩) ?_
  refine wpAny_take (i := 3) (v := .int .u8 xa1) rfl (by kernel_rfl) (by kernel_rfl) (by kernel_rfl) (fun _ _ _ h => h) (Or.inl ⟨by rfl, fun w => by go_simp⟩) ?_
  refine wpAny_take (i := 4) (v := .int .u16 z) rfl (by kernel_rfl) (by kernel_rfl) (by kernel_rfl) (fun _ _ _ h => h) (Or.inl ⟨by rfl, fun w => by go_simp⟩) ?_
  refine wpAny_take (i := 5) (v := .int .u16 (z / 256)) rfl (by kernel_rfl) (by kernel_rfl) (by kernel_rfl) (fun _ _ _ h => h) (Or.inl ⟨by rfl, fun w => by go_simp⟩) ?_
  refine wpAny_take (i := 6) (v := .int .u16 (da2 : Int)) rfl (by kernel_rfl) (by kernel_rfl) (by kernel_rfl) (fun _ _ _ h => h) (Or.inl ⟨by rfl, fun w => by go_simp⟩) ?_
  refine wpAny_take (i := 7) (v := .int .u8 xa2) rfl (by kernel_rfl) (by kernel_rfl) (by kernel_rfl) (fun _ _ _ h => h) (Or.inl ⟨by rfl, fun w => by go_simp⟩) ?_
  refine wpAny_take (i := 8) (v := .int .u16 z) rfl (by kernel_rfl) (by kernel_rfl) (by kernel_rfl) (fun _ _ _ h => h) (Or.inl ⟨by rfl, fun w => by go_simp⟩) ?_
  refine wpAny_take (i := 9) (v := .int .u16 (z / 16)) rfl (by kernel_rfl) (by kernel_rfl) (by kernel_rfl) (fun _ _ _ h => h) (Or.inl ⟨by rfl, fun w => by go_simp⟩) ?_
  refine wpAny_take (i := 10) (v := .int .u16 (da3 : Int)) rfl (by kernel_rfl) (by kernel_rfl) (by kernel_rfl) (fun _ _ _ h => h) (Or.inl ⟨by rfl, fun w => by go_simp⟩) ?_
  refine wpAny_take (i := 11) (v := .int .u8 xa3) rfl (by kernel_rfl) (by kernel_rfl) (by kernel_rfl) (fun _ _ _ h => h) (Or.inl ⟨by rfl, fun w => by go_simp⟩) ?_
  refine wpAny_take (i := 12) (v := .int .u16 z) rfl (by kernel_rfl) (by kernel_rfl) (by kernel_rfl) (fun _ _ _ h => h) (Or.inl ⟨by rfl, fun w => by go_simp⟩) ?_
  refine wpAny_take (i := 13) (v := .int .u16 (da4 : Int)) rfl (by kernel_rfl) (by kernel_rfl) (by kernel_rfl) (fun _ _ _ h => h) (Or.inl ⟨by rfl, fun w => by go_simp⟩) ?_
  refine wpAny_take (i := 14) (v := .int .u8 xa4) rfl (by kernel_rfl) (by kernel_rfl) (by kernel_rfl) (fun _ _ _ h => h) (Or.inl ⟨by rfl, fun w => by go_simp⟩) ?_
  refine wpAny_ready (rs := [15]) (by kernel_rfl) (by simp) ?_
  refine AllReady.cons rfl (fun K hK => ?_) AllReady.nil
  go_simp
  refine hK _ _ ?_
  clear hK K
  refine wpAny_ready (rs := [16]) (by kernel_rfl) (by simp) ?_
  refine AllReady.cons rfl (fun K hK => ?_) AllReady.nil
  refine step_app rfl _ _ #[25, 25] rfl rfl rfl (R1.out _) ?_
  rintro v' w' ⟨ja2, jn2, jc2, rfl, HU2⟩
  refine hK _ _ ?_
  clear hK K
  refine wpAny_ready (rs := [17]) (by kernel_rfl) (by simp) ?_
  refine AllReady.cons rfl (fun K hK => ?_) AllReady.nil
  go_simp
  refine hK _ _ ?_
  clear hK K
  refine wpAny_done (by kernel_rfl) ?_ _
  go_wp2_with fail
  unfold UJ Umu
  refine ⟨?_, ?_⟩
  · (repeat apply Exists.intro)
    refine ⟨?_, rfl⟩
    exact ⟨k + 1, by omega, by go_num, ⟨_, rfl⟩, _, _, _, _, rfl, Lib.hid (HU2.out.mono (by first | omega | (simp [ByteArray.size]; omega) | simp [ByteArray.size])), Lib.hid (Pm.fin HP.out (HPC.out) (by rw [← EXa.out]; simp))⟩
  · simp [intOf]; omega
set_option maxRecDepth 1000000 in
set_option maxHeartbeats 40000000 in
theorem lfS2 (w0 : World) (B p tb : Nat) (v0 : Value) (xs0 : List Value) (a : Option Addr) (n c : Nat) (q fl : Int) (Z : Nat → Int) (ns ao wl : Bool) (c4 c5 c6 c7 c24 c25 c26 c27 c28 c29 c30 c31 c32 c33 c34 c35 c36 c37 c38 c39 c40 c41 c42 c43 c44 c45 c46 c47 c48 c49 c50 c51 c52 c53 c54 c55 c443 c444 c445 c446 u14 u15 u16 u17 u18 u19 u20 u21 u22 u23 u56 u57 u58 u59 u60 u61 u62 u63 u64 u65 u66 u67 u68 u69 u70 u71 u72 u73 u74 u75 u76 u77 u78 u79 u80 u81 u82 u83 u84 u85 u86 u87 u88 u89 u90 u91 u92 u93 u94 u95 u96 u97 u98 u99 u100 u101 u102 u103 u104 u105 u106 u107 u108 u109 u110 u111 u112 u113 u114 u115 u116 u117 u118 u119 u120 u121 u122 u123 u124 u125 u126 u127 u128 u129 u130 u131 u132 u133 u134 u135 u136 u137 u138 u139 u140 u141 u142 u143 u144 u145 u146 u147 u148 u149 u150 u151 u152 u153 u154 u155 u156 u157 u158 u159 u160 u161 u162 u163 u164 u165 u166 u167 u168 u169 u170 u171 u172 u173 u174 u175 u176 u177 u178 u179 u180 u181 u182 u183 u184 u185 u186 u187 u188 u189 u190 u191 u192 u193 u194 u195 u196 u197 u198 u199 u200 u201 u202 u203 u204 u205 u206 u207 u208 u209 u210 u211 u212 u213 u214 u215 u216 u217 u218 u219 u220 u221 u222 u223 u224 u225 u226 u227 u228 u229 u230 u231 u232 u233 u234 u235 u236 u237 u238 u239 u240 u241 u242 u243 u244 u245 u246 u247 u248 u249 u250 u251 u252 u253 u254 u255 u256 u257 u258 u259 u260 u261 u262 u263 u264 u265 u266 u267 u268 u269 u270 u271 u272 u273 u274 u275 u276 u277 u278 u279 u280 u281 u282 u283 u284 u285 u286 u287 u288 u289 u290 u291 u292 u293 u294 u295 u296 u297 u298 u299 u300 u301 u302 u303 u304 u305 u306 u307 u308 u309 u310 u311 u312 u313 u314 u315 u316 u317 u318 u319 u320 u321 u322 u323 u324 u325 u326 u327 u328 u329 u330 u331 u332 u333 u334 u335 u336 u337 u338 u339 u340 u341 u342 u343 u344 u345 u346 u347 u348 u349 u350 u351 u352 u353 u354 u355 u356 u357 u358 u359 u360 u361 u362 u363 u364 u365 u366 u367 u368 u369 u370 u371 u372 u373 u374 u375 u376 u377 u378 u379 u380 u381 u382 u383 u384 u385 u386 u387 u388 u389 u390 u391 u392 u393 u394 u395 u396 u397 u398 u399 u400 u401 u402 u403 u404 u405 u406 u407 u408 u409 u410 u411 u412 u413 u414 u415 u416 u417 u418 u419 u420 u421 u422 u423 u424 u425 u426 u427 u428 u429 u430 u431 u432 u433 u434 u435 u436 u437 u438 u439 u440 u441 u442 : Value) (ja : Option Addr) (jn jc k : Nat) (sl : Int) (xs : List Value) (wr : World) (K0 : Act → World → Prop) (R : Ending → World → Prop) (HU : Hid (US w0 B tb v0 xs0 (12 * k + 2) wr (.slice ja jn jc) xs)) (HP : Hid (Pm n Z q ns ao wl xs0 k xs)) (hn : n ≤ 1048576) (hx : xs0.length ≤ 1048577) (hB0 : B ≤ w0.heap.size) (hlt : k < n) (z : Int) (hz0 : 0 ≤ z) (hz1 : z ≤ 65535) (b off : Nat) (ha : a = some ⟨b, off, none⟩) (hbl : b < wr.heap.size) (hc : wr.cell? ⟨b, off + k, none⟩ = some (.int .u16 z)) (e0 : (z == 0) = false) (e7 : (z == 7) = false) (e8 : (z == 8) = false) (e12 : (z == 12) = false) (e10 : (z == 10) = false) (e13 : (z == 13) = false) (e11 : (z == 11) = false) (e27 : (z == 27) = false) (e92 : (z == 92) = false) (e47 : (z == 47) = false) (e39 : (z == 39) = false) (e34 : (z == 34) = false) (e96 : (z == 96) = false) (e36 : (z == 36) = false) (e8232 : (z == 8232) = false) (e8233 : (z == 8233) = false) (e65279 : (z == 65279) = false) (g0 : ¬ z ≤ 126) (g1 : 55296 ≤ z) (g2 : z ≤ 56319) (hlt2 : k + 1 < n) (y : Int) (hy0 : 0 ≤ y) (hy1 : y ≤ 65535) (hcy : wr.cell? ⟨b, off + (k + 1), none⟩ = some (.int .u16 y)) (g3 : ¬ 56320 ≤ y) (HPC : Hid (piece n Z q ns ao k = u4 z ∧ adv n Z k = 1)) :
    Code.wp Tryf.prog rbody (Exit.inBlock 1 (Exit.then (fun a' w'' => UJ w0 B p tb v0 xs0 a n c q fl Z ns ao wl c4 c5 c6 c7 c24 c25 c26 c27 c28 c29 c30 c31 c32 c33 c34 c35 c36 c37 c38 c39 c40 c41 c42 c43 c44 c45 c46 c47 c48 c49 c50 c51 c52 c53 c54 c55 c443 c444 c445 c446 a' w'' ∧ Umu n a' < n - k) (Exit.inBlock 0 (Exit.then K0 (bodyPost Tryf.prog Tryf.f35 R))))) ⟨#[.pointer (some ⟨p, 0, none⟩), .slice a n c, .int .i32 q, .int .u8 fl, c4, c5, c6, c7, .slice (some ⟨tb, 0, none⟩) 4 4, .slice ja jn jc, .int .i64 (k : Int), .int .i64 (n : Int), .int .i64 sl, .bool wl, u14, u15, u16, u17, u18, u19, u20, u21, u22, u23, c24, c25, c26, c27, c28, c29, c30, c31, c32, c33, c34, c35, c36, c37, c38, c39, c40, c41, c42, c43, c44, c45, c46, c47, c48, c49, c50, c51, c52, c53, c54, c55, u56, u57, u58, u59, u60, u61, u62, u63, u64, u65, u66, u67, u68, u69, u70, u71, u72, u73, u74, u75, u76, u77, u78, u79, u80, u81, u82, u83, u84, u85, u86, u87, u88, u89, u90, u91, u92, u93, u94, u95, u96, u97, u98, u99, u100, u101, u102, u103, u104, u105, u106, u107, u108, u109, u110, u111, u112, u113, u114, u115, u116, u117, u118, u119, u120, u121, u122, u123, u124, u125, u126, u127, u128, u129, u130, u131, u132, u133, u134, u135, u136, u137, u138, u139, u140, u141, u142, u143, u144, u145, u146, u147, u148, u149, u150, u151, u152, u153, u154, u155, u156, u157, u158, u159, u160, u161, u162, u163, u164, u165, u166, u167, u168, u169, u170, u171, u172, u173, u174, u175, u176, u177, u178, u179, u180, u181, u182, u183, u184, u185, u186, u187, u188, u189, u190, u191, u192, u193, u194, u195, u196, u197, u198, u199, u200, u201, u202, u203, u204, u205, u206, u207, u208, u209, u210, u211, u212, u213, u214, u215, u216, u217, u218, u219, u220, u221, u222, u223, u224, u225, u226, u227, u228, u229, u230, u231, u232, u233, u234, u235, u236, u237, u238, u239, u240, u241, u242, u243, u244, u245, u246, u247, u248, u249, u250, u251, u252, u253, u254, u255, u256, u257, u258, u259, u260, u261, u262, u263, u264, u265, u266, u267, u268, u269, u270, u271, u272, u273, u274, u275, u276, u277, u278, u279, u280, u281, u282, u283, u284, u285, u286, u287, u288, u289, u290, u291, u292, u293, u294, u295, u296, u297, u298, u299, u300, u301, u302, u303, u304, u305, u306, u307, u308, u309, u310, u311, u312, u313, u314, u315, u316, u317, u318, u319, u320, u321, u322, u323, u324, u325, u326, u327, u328, u329, u330, u331, u332, u333, u334, u335, u336, u337, u338, u339, u340, u341, u342, u343, u344, u345, u346, u347, u348, u349, u350, u351, u352, u353, u354, u355, u356, u357, u358, u359, u360, u361, u362, u363, u364, u365, u366, u367, u368, u369, u370, u371, u372, u373, u374, u375, u376, u377, u378, u379, u380, u381, u382, u383, u384, u385, u386, u387, u388, u389, u390, u391, u392, u393, u394, u395, u396, u397, u398, u399, u400, u401, u402, u403, u404, u405, u406, u407, u408, u409, u410, u411, u412, u413, u414, u415, u416, u417, u418, u419, u420, u421, u422, u423, u424, u425, u426, u427, u428, u429, u430, u431, u432, u433, u434, u435, u436, u437, u438, u439, u440, u441, u442, c443, c444, c445, c446], []⟩ wr := by
  conv => arg 2; whnf
  subst ha
  have hk2 : (k : Int) < (n : Int) := by omega
  have hk3 : (k : Int) + 1 < (n : Int) := by omega
  obtain ⟨da1, hda1⟩ : ∃ d : Nat, z / 4096 = (d : Int) := ⟨(z / 4096).toNat, by omega⟩
  obtain ⟨da2, hda2, hla2, hma2⟩ := and15 (z / 256) (by omega) (by omega)
  obtain ⟨da3, hda3, hla3, hma3⟩ := and15 (z / 16) (by omega) (by omega)
  obtain ⟨da4, hda4, hla4, hma4⟩ := and15 z (by omega) (by omega)
  obtain ⟨xa1, hxa1, exa1⟩ := hexG da1 (by omega)
  obtain ⟨xa2, hxa2, exa2⟩ := hexG da2 (by omega)
  obtain ⟨xa3, hxa3, exa3⟩ := hexG da3 (by omega)
  obtain ⟨xa4, hxa4, exa4⟩ := hexG da4 (by omega)
  have EXa : Hid ([92, 117, xa1, xa2, xa3, xa4] = u4 z) := Lib.hid (by rw [u4, hda1, ← hma2, ← hma3, ← hma4, exa1, exa2, exa3, exa4])
  have hna1 : (da1 : Int) < 16 := by omega
  have hna2 : (da2 : Int) < 16 := by omega
  have hna3 : (da3 : Int) < 16 := by omega
  have hna4 : (da4 : Int) < 16 := by omega
  clear hma2 hma3 hma4 exa1 exa2 exa3 exa4
  have R1 := Lib.hid (fun ty => US.one HU.out.drew hB0 #[.int .u8 92, .int .u8 117, .int .u8 xa1, .int .u8 xa2, .int .u8 xa3, .int .u8 xa4] 6 rfl (by intro u hu; simp at hu; rcases hu with rfl | rfl | rfl | rfl | rfl | rfl <;> rfl) (by omega) ty _ rfl)
  go_wp2_with fail
  refine wp_region_any (by kernel_rfl) ?_
  try (change wpAny _ _ _ _ _ _ _ (World.drew _))
  refine wpAny_take (i := 0) (v := .slice ja jn jc) rfl (by kernel_rfl) (by kernel_rfl) (by kernel_rfl) (fun _ _ _ h => h) (Or.inl ⟨by rfl, fun w => by go_simp⟩) ?_
  refine wpAny_take (i := 1) (v := .int .u16 z) rfl (by kernel_rfl) (by kernel_rfl) (by kernel_rfl) (fun _ _ _ h => h) (Or.inl ⟨by rfl, fun w => by go_simp⟩) ?_
  refine wpAny_take (i := 2) (v := .int .u16 (da1 : Int)) rfl (by kernel_rfl) (by kernel_rfl) (by kernel_rfl) (fun _ _ _ h => h) (Or.inl ⟨by rfl, fun w => by go_simp⟩) ?_
  refine wpAny_take (i := 3) (v := .int .u8 xa1) rfl (by kernel_rfl) (by kernel_rfl) (by kernel_rfl) (fun _ _ _ h => h) (Or.inl ⟨by rfl, fun w => by go_simp⟩) ?_
  refine wpAny_take (i := 4) (v := .int .u16 z) rfl (by kernel_rfl) (by kernel_rfl) (by kernel_rfl) (fun _ _ _ h => h) (Or.inl ⟨by rfl, fun w => by go_simp⟩) ?_
  refine wpAny_take (i := 5) (v := .int .u16 (z / 256)) rfl (by kernel_rfl) (by kernel_rfl) (by kernel_rfl) (fun _ _ _ h => h) (Or.inl ⟨by rfl, fun w => by go_simp⟩) ?_
  refine wpAny_take (i := 6) (v := .int .u16 (da2 : Int)) rfl (by kernel_rfl) (by kernel_rfl) (by kernel_rfl) (fun _ _ _ h => h) (Or.inl ⟨by rfl, fun w => by go_simp⟩) ?_
  refine wpAny_take (i := 7) (v := .int .u8 xa2) rfl (by kernel_rfl) (by kernel_rfl) (by kernel_rfl) (fun _ _ _ h => h) (Or.inl ⟨by rfl, fun w => by go_simp⟩) ?_
  refine wpAny_take (i := 8) (v := .int .u16 z) rfl (by kernel_rfl) (by kernel_rfl) (by kernel_rfl) (fun _ _ _ h => h) (Or.inl ⟨by rfl, fun w => by go_simp⟩) ?_
  refine wpAny_take (i := 9) (v := .int .u16 (z / 16)) rfl (by kernel_rfl) (by kernel_rfl) (by kernel_rfl) (fun _ _ _ h => h) (Or.inl ⟨by rfl, fun w => by go_simp⟩) ?_
  refine wpAny_take (i := 10) (v := .int .u16 (da3 : Int)) rfl (by kernel_rfl) (by kernel_rfl) (by kernel_rfl) (fun _ _ _ h => h) (Or.inl ⟨by rfl, fun w => by go_simp⟩) ?_
  refine wpAny_take (i := 11) (v := .int .u8 xa3) rfl (by kernel_rfl) (by kernel_rfl) (by kernel_rfl) (fun _ _ _ h => h) (Or.inl ⟨by rfl, fun w => by go_simp⟩) ?_
  refine wpAny_take (i := 12) (v := .int .u16 z) rfl (by kernel_rfl) (by kernel_rfl) (by kernel_rfl) (fun _ _ _ h => h) (Or.inl ⟨by rfl, fun w => by go_simp⟩) ?_
  refine wpAny_take (i := 13) (v := .int .u16 (da4 : Int)) rfl (by kernel_rfl) (by kernel_rfl) (by kernel_rfl) (fun _ _ _ h => h) (Or.inl ⟨by rfl, fun w => by go_simp⟩) ?_
  refine wpAny_take (i := 14) (v := .int .u8 xa4) rfl (by kernel_rfl) (by kernel_rfl) (by kernel_rfl) (fun _ _ _ h => h) (Or.inl ⟨by rfl, fun w => by go_simp⟩) ?_
  refine wpAny_ready (rs := [15]) (by kernel_rfl) (by simp) ?_
  refine AllReady.cons rfl (fun K hK => ?_) AllReady.nil
  go_simp
  refine hK _ _ ?_
  clear hK K
  refine wpAny_ready (rs := [16]) (by kernel_rfl) (by simp) ?_
  refine AllReady.cons rfl (fun K hK => ?_) AllReady.nil
  refine step_app rfl _ _ #[25, 25] rfl rfl rfl (R1.out _) ?_
  rintro v' w' ⟨ja2, jn2, jc2, rfl, HU2⟩
  refine hK _ _ ?_
  clear hK K
  refine wpAny_ready (rs := [17]) (by kernel_rfl) (by simp) ?_
  refine AllReady.cons rfl (fun K hK => ?_) AllReady.nil
  go_simp
  refine hK _ _ ?_
  clear hK K
  refine wpAny_done (by kernel_rfl) ?_ _
  go_wp2_with fail
  unfold UJ Umu
  refine ⟨?_, ?_⟩
  · (repeat apply Exists.intro)
    refine ⟨?_, rfl⟩
    exact ⟨k + 1, by omega, by go_num, ⟨_, rfl⟩, _, _, _, _, rfl, Lib.hid (HU2.out.mono (by first | omega | (simp [ByteArray.size]; omega) | simp [ByteArray.size])), Lib.hid (Pm.fin HP.out (HPC.out) (by rw [← EXa.out]; simp))⟩
  · simp [intOf]; omega
set_option maxRecDepth 1000000 in
set_option maxHeartbeats 40000000 in
theorem lfS3 (w0 : World) (B p tb : Nat) (v0 : Value) (xs0 : List Value) (a : Option Addr) (n c : Nat) (q fl : Int) (Z : Nat → Int) (ns ao wl : Bool) (c4 c5 c6 c7 c24 c25 c26 c27 c28 c29 c30 c31 c32 c33 c34 c35 c36 c37 c38 c39 c40 c41 c42 c43 c44 c45 c46 c47 c48 c49 c50 c51 c52 c53 c54 c55 c443 c444 c445 c446 u14 u15 u16 u17 u18 u19 u20 u21 u22 u23 u56 u57 u58 u59 u60 u61 u62 u63 u64 u65 u66 u67 u68 u69 u70 u71 u72 u73 u74 u75 u76 u77 u78 u79 u80 u81 u82 u83 u84 u85 u86 u87 u88 u89 u90 u91 u92 u93 u94 u95 u96 u97 u98 u99 u100 u101 u102 u103 u104 u105 u106 u107 u108 u109 u110 u111 u112 u113 u114 u115 u116 u117 u118 u119 u120 u121 u122 u123 u124 u125 u126 u127 u128 u129 u130 u131 u132 u133 u134 u135 u136 u137 u138 u139 u140 u141 u142 u143 u144 u145 u146 u147 u148 u149 u150 u151 u152 u153 u154 u155 u156 u157 u158 u159 u160 u161 u162 u163 u164 u165 u166 u167 u168 u169 u170 u171 u172 u173 u174 u175 u176 u177 u178 u179 u180 u181 u182 u183 u184 u185 u186 u187 u188 u189 u190 u191 u192 u193 u194 u195 u196 u197 u198 u199 u200 u201 u202 u203 u204 u205 u206 u207 u208 u209 u210 u211 u212 u213 u214 u215 u216 u217 u218 u219 u220 u221 u222 u223 u224 u225 u226 u227 u228 u229 u230 u231 u232 u233 u234 u235 u236 u237 u238 u239 u240 u241 u242 u243 u244 u245 u246 u247 u248 u249 u250 u251 u252 u253 u254 u255 u256 u257 u258 u259 u260 u261 u262 u263 u264 u265 u266 u267 u268 u269 u270 u271 u272 u273 u274 u275 u276 u277 u278 u279 u280 u281 u282 u283 u284 u285 u286 u287 u288 u289 u290 u291 u292 u293 u294 u295 u296 u297 u298 u299 u300 u301 u302 u303 u304 u305 u306 u307 u308 u309 u310 u311 u312 u313 u314 u315 u316 u317 u318 u319 u320 u321 u322 u323 u324 u325 u326 u327 u328 u329 u330 u331 u332 u333 u334 u335 u336 u337 u338 u339 u340 u341 u342 u343 u344 u345 u346 u347 u348 u349 u350 u351 u352 u353 u354 u355 u356 u357 u358 u359 u360 u361 u362 u363 u364 u365 u366 u367 u368 u369 u370 u371 u372 u373 u374 u375 u376 u377 u378 u379 u380 u381 u382 u383 u384 u385 u386 u387 u388 u389 u390 u391 u392 u393 u394 u395 u396 u397 u398 u399 u400 u401 u402 u403 u404 u405 u406 u407 u408 u409 u410 u411 u412 u413 u414 u415 u416 u417 u418 u419 u420 u421 u422 u423 u424 u425 u426 u427 u428 u429 u430 u431 u432 u433 u434 u435 u436 u437 u438 u439 u440 u441 u442 : Value) (ja : Option Addr) (jn jc k : Nat) (sl : Int) (xs : List Value) (wr : World) (K0 : Act → World → Prop) (R : Ending → World → Prop) (HU : Hid (US w0 B tb v0 xs0 (12 * k + 2) wr (.slice ja jn jc) xs)) (HP : Hid (Pm n Z q ns ao wl xs0 k xs)) (hn : n ≤ 1048576) (hx : xs0.length ≤ 1048577) (hB0 : B ≤ w0.heap.size) (hlt : k < n) (z : Int) (hz0 : 0 ≤ z) (hz1 : z ≤ 65535) (b off : Nat) (ha : a = some ⟨b, off, none⟩) (hbl : b < wr.heap.size) (hc : wr.cell? ⟨b, off + k, none⟩ = some (.int .u16 z)) (e0 : (z == 0) = false) (e7 : (z == 7) = false) (e8 : (z == 8) = false) (e12 : (z == 12) = false) (e10 : (z == 10) = false) (e13 : (z == 13) = false) (e11 : (z == 11) = false) (e27 : (z == 27) = false) (e92 : (z == 92) = false) (e47 : (z == 47) = false) (e39 : (z == 39) = false) (e34 : (z == 34) = false) (e96 : (z == 96) = false) (e36 : (z == 36) = false) (e8232 : (z == 8232) = false) (e8233 : (z == 8233) = false) (e65279 : (z == 65279) = false) (g0 : ¬ z ≤ 126) (g1 : 55296 ≤ z) (g2 : z ≤ 56319) (hlt2 : k + 1 < n) (y : Int) (hy0 : 0 ≤ y) (hy1 : y ≤ 65535) (hcy : wr.cell? ⟨b, off + (k + 1), none⟩ = some (.int .u16 y)) (g3 : 56320 ≤ y) (g4 : ¬ y ≤ 57343) (HPC : Hid (piece n Z q ns ao k = u4 z ∧ adv n Z k = 1)) :
    Code.wp Tryf.prog rbody (Exit.inBlock 1 (Exit.then (fun a' w'' => UJ w0 B p tb v0 xs0 a n c q fl Z ns ao wl c4 c5 c6 c7 c24 c25 c26 c27 c28 c29 c30 c31 c32 c33 c34 c35 c36 c37 c38 c39 c40 c41 c42 c43 c44 c45 c46 c47 c48 c49 c50 c51 c52 c53 c54 c55 c443 c444 c445 c446 a' w'' ∧ Umu n a' < n - k) (Exit.inBlock 0 (Exit.then K0 (bodyPost Tryf.prog Tryf.f35 R))))) ⟨#[.pointer (some ⟨p, 0, none⟩), .slice a n c, .int .i32 q, .int .u8 fl, c4, c5, c6, c7, .slice (some ⟨tb, 0, none⟩) 4 4, .slice ja jn jc, .int .i64 (k : Int), .int .i64 (n : Int), .int .i64 sl, .bool wl, u14, u15, u16, u17, u18, u19, u20, u21, u22, u23, c24, c25, c26, c27, c28, c29, c30, c31, c32, c33, c34, c35, c36, c37, c38, c39, c40, c41, c42, c43, c44, c45, c46, c47, c48, c49, c50, c51, c52, c53, c54, c55, u56, u57, u58, u59, u60, u61, u62, u63, u64, u65, u66, u67, u68, u69, u70, u71, u72, u73, u74, u75, u76, u77, u78, u79, u80, u81, u82, u83, u84, u85, u86, u87, u88, u89, u90, u91, u92, u93, u94, u95, u96, u97, u98, u99, u100, u101, u102, u103, u104, u105, u106, u107, u108, u109, u110, u111, u112, u113, u114, u115, u116, u117, u118, u119, u120, u121, u122, u123, u124, u125, u126, u127, u128, u129, u130, u131, u132, u133, u134, u135, u136, u137, u138, u139, u140, u141, u142, u143, u144, u145, u146, u147, u148, u149, u150, u151, u152, u153, u154, u155, u156, u157, u158, u159, u160, u161, u162, u163, u164, u165, u166, u167, u168, u169, u170, u171, u172, u173, u174, u175, u176, u177, u178, u179, u180, u181, u182, u183, u184, u185, u186, u187, u188, u189, u190, u191, u192, u193, u194, u195, u196, u197, u198, u199, u200, u201, u202, u203, u204, u205, u206, u207, u208, u209, u210, u211, u212, u213, u214, u215, u216, u217, u218, u219, u220, u221, u222, u223, u224, u225, u226, u227, u228, u229, u230, u231, u232, u233, u234, u235, u236, u237, u238, u239, u240, u241, u242, u243, u244, u245, u246, u247, u248, u249, u250, u251, u252, u253, u254, u255, u256, u257, u258, u259, u260, u261, u262, u263, u264, u265, u266, u267, u268, u269, u270, u271, u272, u273, u274, u275, u276, u277, u278, u279, u280, u281, u282, u283, u284, u285, u286, u287, u288, u289, u290, u291, u292, u293, u294, u295, u296, u297, u298, u299, u300, u301, u302, u303, u304, u305, u306, u307, u308, u309, u310, u311, u312, u313, u314, u315, u316, u317, u318, u319, u320, u321, u322, u323, u324, u325, u326, u327, u328, u329, u330, u331, u332, u333, u334, u335, u336, u337, u338, u339, u340, u341, u342, u343, u344, u345, u346, u347, u348, u349, u350, u351, u352, u353, u354, u355, u356, u357, u358, u359, u360, u361, u362, u363, u364, u365, u366, u367, u368, u369, u370, u371, u372, u373, u374, u375, u376, u377, u378, u379, u380, u381, u382, u383, u384, u385, u386, u387, u388, u389, u390, u391, u392, u393, u394, u395, u396, u397, u398, u399, u400, u401, u402, u403, u404, u405, u406, u407, u408, u409, u410, u411, u412, u413, u414, u415, u416, u417, u418, u419, u420, u421, u422, u423, u424, u425, u426, u427, u428, u429, u430, u431, u432, u433, u434, u435, u436, u437, u438, u439, u440, u441, u442, c443, c444, c445, c446], []⟩ wr := by
  conv => arg 2; whnf
  subst ha
  have hk2 : (k : Int) < (n : Int) := by omega
  have hk3 : (k : Int) + 1 < (n : Int) := by omega
  obtain ⟨da1, hda1⟩ : ∃ d : Nat, z / 4096 = (d : Int) := ⟨(z / 4096).toNat, by omega⟩
  obtain ⟨da2, hda2, hla2, hma2⟩ := and15 (z / 256) (by omega) (by omega)
  obtain ⟨da3, hda3, hla3, hma3⟩ := and15 (z / 16) (by omega) (by omega)
  obtain ⟨da4, hda4, hla4, hma4⟩ := and15 z (by omega) (by omega)
  obtain ⟨xa1, hxa1, exa1⟩ := hexG da1 (by omega)
  obtain ⟨xa2, hxa2, exa2⟩ := hexG da2 (by omega)
  obtain ⟨xa3, hxa3, exa3⟩ := hexG da3 (by omega)
  obtain ⟨xa4, hxa4, exa4⟩ := hexG da4 (by omega)
  have EXa : Hid ([92, 117, xa1, xa2, xa3, xa4] = u4 z) := Lib.hid (by rw [u4, hda1, ← hma2, ← hma3, ← hma4, exa1, exa2, exa3, exa4])
  have hna1 : (da1 : Int) < 16 := by omega
  have hna2 : (da2 : Int) < 16 := by omega
  have hna3 : (da3 : Int) < 16 := by omega
  have hna4 : (da4 : Int) < 16 := by omega
  clear hma2 hma3 hma4 exa1 exa2 exa3 exa4
  have R1 := Lib.hid (fun ty => US.one HU.out.drew hB0 #[.int .u8 92, .int .u8 117, .int .u8 xa1, .int .u8 xa2, .int .u8 xa3, .int .u8 xa4] 6 rfl (by intro u hu; simp at hu; rcases hu with rfl | rfl | rfl | rfl | rfl | rfl <;> rfl) (by omega) ty _ rfl)
  go_wp2_with fail
  refine wp_region_any (by kernel_rfl) ?_
  try (change wpAny _ _ _ _ _ _ _ (World.drew _))
  refine wpAny_take (i := 0) (v := .slice ja jn jc) rfl (by kernel_rfl) (by kernel_rfl) (by kernel_rfl) (fun _ _ _ h => h) (Or.inl ⟨by rfl, fun w => by go_simp⟩) ?_
  refine wpAny_take (i := 1) (v := .int .u16 z) rfl (by kernel_rfl) (by kernel_rfl) (by kernel_rfl) (fun _ _ _ h => h) (Or.inl ⟨by rfl, fun w => by go_simp⟩) ?_
  refine wpAny_take (i := 2) (v := .int .u16 (da1 : Int)) rfl (by kernel_rfl) (by kernel_rfl) (by kernel_rfl) (fun _ _ _ h => h) (Or.inl ⟨by rfl, fun w => by go_simp⟩) ?_
  refine wpAny_take (i := 3) (v := .int .u8 xa1) rfl (by kernel_rfl) (by kernel_rfl) (by kernel_rfl) (fun _ _ _ h => h) (Or.inl ⟨by rfl, fun w => by go_simp⟩) ?_
  refine wpAny_take (i := 4) (v := .int .u16 z) rfl (by kernel_rfl) (by kernel_rfl) (by kernel_rfl) (fun _ _ _ h => h) (Or.inl ⟨by rfl, fun w => by go_simp⟩) ?_
  refine wpAny_take (i := 5) (v := .int .u16 (z / 256)) rfl (by kernel_rfl) (by kernel_rfl) (by kernel_rfl) (fun _ _ _ h => h) (Or.inl ⟨by rfl, fun w => by go_simp⟩) ?_
  refine wpAny_take (i := 6) (v := .int .u16 (da2 : Int)) rfl (by kernel_rfl) (by kernel_rfl) (by kernel_rfl) (fun _ _ _ h => h) (Or.inl ⟨by rfl, fun w => by go_simp⟩) ?_
  refine wpAny_take (i := 7) (v := .int .u8 xa2) rfl (by kernel_rfl) (by kernel_rfl) (by kernel_rfl) (fun _ _ _ h => h) (Or.inl ⟨by rfl, fun w => by go_simp⟩) ?_
  refine wpAny_take (i := 8) (v := .int .u16 z) rfl (by kernel_rfl) (by kernel_rfl) (by kernel_rfl) (fun _ _ _ h => h) (Or.inl ⟨by rfl, fun w => by go_simp⟩) ?_
  refine wpAny_take (i := 9) (v := .int .u16 (z / 16)) rfl (by kernel_rfl) (by kernel_rfl) (by kernel_rfl) (fun _ _ _ h => h) (Or.inl ⟨by rfl, fun w => by go_simp⟩) ?_
  refine wpAny_take (i := 10) (v := .int .u16 (da3 : Int)) rfl (by kernel_rfl) (by kernel_rfl) (by kernel_rfl) (fun _ _ _ h => h) (Or.inl ⟨by rfl, fun w => by go_simp⟩) ?_
  refine wpAny_take (i := 11) (v := .int .u8 xa3) rfl (by kernel_rfl) (by kernel_rfl) (by kernel_rfl) (fun _ _ _ h => h) (Or.inl ⟨by rfl, fun w => by go_simp⟩) ?_
  refine wpAny_take (i := 12) (v := .int .u16 z) rfl (by kernel_rfl) (by kernel_rfl) (by kernel_rfl) (fun _ _ _ h => h) (Or.inl ⟨by rfl, fun w => by go_simp⟩) ?_
  refine wpAny_take (i := 13) (v := .int .u16 (da4 : Int)) rfl (by kernel_rfl) (by kernel_rfl) (by kernel_rfl) (fun _ _ _ h => h) (Or.inl ⟨by rfl, fun w => by go_simp⟩) ?_
  refine wpAny_take (i := 14) (v := .int .u8 xa4) rfl (by kernel_rfl) (by kernel_rfl) (by kernel_rfl) (fun _ _ _ h => h) (Or.inl ⟨by rfl, fun w => by go_simp⟩) ?_
  refine wpAny_ready (rs := [15]) (by kernel_rfl) (by simp) ?_
  refine AllReady.cons rfl (fun K hK => ?_) AllReady.nil
  go_simp
  refine hK _ _ ?_
  clear hK K
  refine wpAny_ready (rs := [16]) (by kernel_rfl) (by simp) ?_
  refine AllReady.cons rfl (fun K hK => ?_) AllReady.nil
  refine step_app rfl _ _ #[25, 25] rfl rfl rfl (R1.out _) ?_
  rintro v' w' ⟨ja2, jn2, jc2, rfl, HU2⟩
  refine hK _ _ ?_
  clear hK K
  refine wpAny_ready (rs := [17]) (by kernel_rfl) (by simp) ?_
  refine AllReady.cons rfl (fun K hK => ?_) AllReady.nil
  go_simp
  refine hK _ _ ?_
  clear hK K
  refine wpAny_done (by kernel_rfl) ?_ _
  go_wp2_with fail
  unfold UJ Umu
  refine ⟨?_, ?_⟩
  · (repeat apply Exists.intro)
    refine ⟨?_, rfl⟩
    exact ⟨k + 1, by omega, by go_num, ⟨_, rfl⟩, _, _, _, _, rfl, Lib.hid (HU2.out.mono (by first | omega | (simp [ByteArray.size]; omega) | simp [ByteArray.size])), Lib.hid (Pm.fin HP.out (HPC.out) (by rw [← EXa.out]; simp))⟩
  · simp [intOf]; omega
set_option maxRecDepth 1000000 in
set_option maxHeartbeats 40000000 in
theorem lfH3 (w0 : World) (B p tb : Nat) (v0 : Value) (xs0 : List Value) (a : Option Addr) (n c : Nat) (q fl : Int) (Z : Nat → Int) (ns ao wl : Bool) (c4 c5 c6 c7 c24 c25 c26 c27 c28 c29 c30 c31 c32 c33 c34 c35 c36 c37 c38 c39 c40 c41 c42 c43 c44 c45 c46 c47 c48 c49 c50 c51 c52 c53 c54 c55 c443 c444 c445 c446 u14 u15 u16 u17 u18 u19 u20 u21 u22 u23 u56 u57 u58 u59 u60 u61 u62 u63 u64 u65 u66 u67 u68 u69 u70 u71 u72 u73 u74 u75 u76 u77 u78 u79 u80 u81 u82 u83 u84 u85 u86 u87 u88 u89 u90 u91 u92 u93 u94 u95 u96 u97 u98 u99 u100 u101 u102 u103 u104 u105 u106 u107 u108 u109 u110 u111 u112 u113 u114 u115 u116 u117 u118 u119 u120 u121 u122 u123 u124 u125 u126 u127 u128 u129 u130 u131 u132 u133 u134 u135 u136 u137 u138 u139 u140 u141 u142 u143 u144 u145 u146 u147 u148 u149 u150 u151 u152 u153 u154 u155 u156 u157 u158 u159 u160 u161 u162 u163 u164 u165 u166 u167 u168 u169 u170 u171 u172 u173 u174 u175 u176 u177 u178 u179 u180 u181 u182 u183 u184 u185 u186 u187 u188 u189 u190 u191 u192 u193 u194 u195 u196 u197 u198 u199 u200 u201 u202 u203 u204 u205 u206 u207 u208 u209 u210 u211 u212 u213 u214 u215 u216 u217 u218 u219 u220 u221 u222 u223 u224 u225 u226 u227 u228 u229 u230 u231 u232 u233 u234 u235 u236 u237 u238 u239 u240 u241 u242 u243 u244 u245 u246 u247 u248 u249 u250 u251 u252 u253 u254 u255 u256 u257 u258 u259 u260 u261 u262 u263 u264 u265 u266 u267 u268 u269 u270 u271 u272 u273 u274 u275 u276 u277 u278 u279 u280 u281 u282 u283 u284 u285 u286 u287 u288 u289 u290 u291 u292 u293 u294 u295 u296 u297 u298 u299 u300 u301 u302 u303 u304 u305 u306 u307 u308 u309 u310 u311 u312 u313 u314 u315 u316 u317 u318 u319 u320 u321 u322 u323 u324 u325 u326 u327 u328 u329 u330 u331 u332 u333 u334 u335 u336 u337 u338 u339 u340 u341 u342 u343 u344 u345 u346 u347 u348 u349 u350 u351 u352 u353 u354 u355 u356 u357 u358 u359 u360 u361 u362 u363 u364 u365 u366 u367 u368 u369 u370 u371 u372 u373 u374 u375 u376 u377 u378 u379 u380 u381 u382 u383 u384 u385 u386 u387 u388 u389 u390 u391 u392 u393 u394 u395 u396 u397 u398 u399 u400 u401 u402 u403 u404 u405 u406 u407 u408 u409 u410 u411 u412 u413 u414 u415 u416 u417 u418 u419 u420 u421 u422 u423 u424 u425 u426 u427 u428 u429 u430 u431 u432 u433 u434 u435 u436 u437 u438 u439 u440 u441 u442 : Value) (ja : Option Addr) (jn jc k : Nat) (sl : Int) (xs : List Value) (wr : World) (K0 : Act → World → Prop) (R : Ending → World → Prop) (HU : Hid (US w0 B tb v0 xs0 (12 * k + 2) wr (.slice ja jn jc) xs)) (HP : Hid (Pm n Z q ns ao wl xs0 k xs)) (hn : n ≤ 1048576) (hx : xs0.length ≤ 1048577) (hB0 : B ≤ w0.heap.size) (hlt : k < n) (z : Int) (hz0 : 0 ≤ z) (hz1 : z ≤ 65535) (b off : Nat) (ha : a = some ⟨b, off, none⟩) (hbl : b < wr.heap.size) (hc : wr.cell? ⟨b, off + k, none⟩ = some (.int .u16 z)) (e0 : (z == 0) = false) (e7 : (z == 7) = false) (e8 : (z == 8) = false) (e12 : (z == 12) = false) (e10 : (z == 10) = false) (e13 : (z == 13) = false) (e11 : (z == 11) = false) (e27 : (z == 27) = false) (e92 : (z == 92) = false) (e47 : (z == 47) = false) (e39 : (z == 39) = false) (e34 : (z == 34) = false) (e96 : (z == 96) = false) (e36 : (z == 36) = false) (e8232 : (z == 8232) = false) (e8233 : (z == 8233) = false) (e65279 : (z == 65279) = false) (g0 : ¬ z ≤ 126) (g1 : ¬ 55296 ≤ z) (g2 : ¬ 56320 ≤ z) (g5 : ¬ 255 < z) (h31 : wr.cell? ⟨p, 31, none⟩ = some (.bool true)) (hpl : p < wr.heap.size) (HPC : Hid (piece n Z q ns ao k = x2 z ∧ adv n Z k = 1)) :
    Code.wp Tryf.prog rbody (Exit.inBlock 1 (Exit.then (fun a' w'' => UJ w0 B p tb v0 xs0 a n c q fl Z ns ao wl c4 c5 c6 c7 c24 c25 c26 c27 c28 c29 c30 c31 c32 c33 c34 c35 c36 c37 c38 c39 c40 c41 c42 c43 c44 c45 c46 c47 c48 c49 c50 c51 c52 c53 c54 c55 c443 c444 c445 c446 a' w'' ∧ Umu n a' < n - k) (Exit.inBlock 0 (Exit.then K0 (bodyPost Tryf.prog Tryf.f35 R))))) ⟨#[.pointer (some ⟨p, 0, none⟩), .slice a n c, .int .i32 q, .int .u8 fl, c4, c5, c6, c7, .slice (some ⟨tb, 0, none⟩) 4 4, .slice ja jn jc, .int .i64 (k : Int), .int .i64 (n : Int), .int .i64 sl, .bool wl, u14, u15, u16, u17, u18, u19, u20, u21, u22, u23, c24, c25, c26, c27, c28, c29, c30, c31, c32, c33, c34, c35, c36, c37, c38, c39, c40, c41, c42, c43, c44, c45, c46, c47, c48, c49, c50, c51, c52, c53, c54, c55, u56, u57, u58, u59, u60, u61, u62, u63, u64, u65, u66, u67, u68, u69, u70, u71, u72, u73, u74, u75, u76, u77, u78, u79, u80, u81, u82, u83, u84, u85, u86, u87, u88, u89, u90, u91, u92, u93, u94, u95, u96, u97, u98, u99, u100, u101, u102, u103, u104, u105, u106, u107, u108, u109, u110, u111, u112, u113, u114, u115, u116, u117, u118, u119, u120, u121, u122, u123, u124, u125, u126, u127, u128, u129, u130, u131, u132, u133, u134, u135, u136, u137, u138, u139, u140, u141, u142, u143, u144, u145, u146, u147, u148, u149, u150, u151, u152, u153, u154, u155, u156, u157, u158, u159, u160, u161, u162, u163, u164, u165, u166, u167, u168, u169, u170, u171, u172, u173, u174, u175, u176, u177, u178, u179, u180, u181, u182, u183, u184, u185, u186, u187, u188, u189, u190, u191, u192, u193, u194, u195, u196, u197, u198, u199, u200, u201, u202, u203, u204, u205, u206, u207, u208, u209, u210, u211, u212, u213, u214, u215, u216, u217, u218, u219, u220, u221, u222, u223, u224, u225, u226, u227, u228, u229, u230, u231, u232, u233, u234, u235, u236, u237, u238, u239, u240, u241, u242, u243, u244, u245, u246, u247, u248, u249, u250, u251, u252, u253, u254, u255, u256, u257, u258, u259, u260, u261, u262, u263, u264, u265, u266, u267, u268, u269, u270, u271, u272, u273, u274, u275, u276, u277, u278, u279, u280, u281, u282, u283, u284, u285, u286, u287, u288, u289, u290, u291, u292, u293, u294, u295, u296, u297, u298, u299, u300, u301, u302, u303, u304, u305, u306, u307, u308, u309, u310, u311, u312, u313, u314, u315, u316, u317, u318, u319, u320, u321, u322, u323, u324, u325, u326, u327, u328, u329, u330, u331, u332, u333, u334, u335, u336, u337, u338, u339, u340, u341, u342, u343, u344, u345, u346, u347, u348, u349, u350, u351, u352, u353, u354, u355, u356, u357, u358, u359, u360, u361, u362, u363, u364, u365, u366, u367, u368, u369, u370, u371, u372, u373, u374, u375, u376, u377, u378, u379, u380, u381, u382, u383, u384, u385, u386, u387, u388, u389, u390, u391, u392, u393, u394, u395, u396, u397, u398, u399, u400, u401, u402, u403, u404, u405, u406, u407, u408, u409, u410, u411, u412, u413, u414, u415, u416, u417, u418, u419, u420, u421, u422, u423, u424, u425, u426, u427, u428, u429, u430, u431, u432, u433, u434, u435, u436, u437, u438, u439, u440, u441, u442, c443, c444, c445, c446], []⟩ wr := by
  conv => arg 2; whnf
  subst ha
  have hk2 : (k : Int) < (n : Int) := by omega
  obtain ⟨da1, hda1⟩ : ∃ d : Nat, z / 16 = (d : Int) := ⟨(z / 16).toNat, by omega⟩
  obtain ⟨da2, hda2, hla2, hma2⟩ := and15 z (by omega) (by omega)
  obtain ⟨xa1, hxa1, exa1⟩ := hexG da1 (by omega)
  obtain ⟨xa2, hxa2, exa2⟩ := hexG da2 (by omega)
  have EXa : Hid ([92, 120, xa1, xa2] = x2 z) := Lib.hid (by rw [x2, hda1, ← hma2, exa1, exa2])
  have hna1 : (da1 : Int) < 16 := by omega
  have hna2 : (da2 : Int) < 16 := by omega
  clear hma2 exa1 exa2
  have R1 := Lib.hid (fun ty => US.one HU.out.drew hB0 #[.int .u8 92, .int .u8 120, .int .u8 xa1, .int .u8 xa2] 4 rfl (by intro u hu; simp at hu; rcases hu with rfl | rfl | rfl | rfl <;> rfl) (by omega) ty _ rfl)
  go_wp2_with fail
  refine wp_region_any (by kernel_rfl) ?_
  try (change wpAny _ _ _ _ _ _ _ (World.drew _))
  refine wpAny_take (i := 0) (v := .slice ja jn jc) rfl (by kernel_rfl) (by kernel_rfl) (by kernel_rfl) (fun _ _ _ h => h) (Or.inl ⟨by rfl, fun w => by go_simp⟩) ?_
  refine wpAny_take (i := 1) (v := .int .u16 z) rfl (by kernel_rfl) (by kernel_rfl) (by kernel_rfl) (fun _ _ _ h => h) (Or.inl ⟨by rfl, fun w => by go_simp⟩) ?_
  refine wpAny_take (i := 2) (v := .int .u16 (da1 : Int)) rfl (by kernel_rfl) (by kernel_rfl) (by kernel_rfl) (fun _ _ _ h => h) (Or.inl ⟨by rfl, fun w => by go_simp⟩) ?_
  refine wpAny_take (i := 3) (v := .int .u8 xa1) rfl (by kernel_rfl) (by kernel_rfl) (by kernel_rfl) (fun _ _ _ h => h) (Or.inl ⟨by rfl, fun w => by go_simp⟩) ?_
  refine wpAny_take (i := 4) (v := .int .u16 z) rfl (by kernel_rfl) (by kernel_rfl) (by kernel_rfl) (fun _ _ _ h => h) (Or.inl ⟨by rfl, fun w => by go_simp⟩) ?_
  refine wpAny_take (i := 5) (v := .int .u16 (da2 : Int)) rfl (by kernel_rfl) (by kernel_rfl) (by kernel_rfl) (fun _ _ _ h => h) (Or.inl ⟨by rfl, fun w => by go_simp⟩) ?_
  refine wpAny_take (i := 6) (v := .int .u8 xa2) rfl (by kernel_rfl) (by kernel_rfl) (by kernel_rfl) (fun _ _ _ h => h) (Or.inl ⟨by rfl, fun w => by go_simp⟩) ?_
  refine wpAny_ready (rs := [7]) (by kernel_rfl) (by simp) ?_
  refine AllReady.cons rfl (fun K hK => ?_) AllReady.nil
  go_simp
  refine hK _ _ ?_
  clear hK K
  refine wpAny_ready (rs := [8]) (by kernel_rfl) (by simp) ?_
  refine AllReady.cons rfl (fun K hK => ?_) AllReady.nil
  refine step_app rfl _ _ #[25, 25] rfl rfl rfl (R1.out _) ?_
  rintro v' w' ⟨ja2, jn2, jc2, rfl, HU2⟩
  refine hK _ _ ?_
  clear hK K
  refine wpAny_ready (rs := [9]) (by kernel_rfl) (by simp) ?_
  refine AllReady.cons rfl (fun K hK => ?_) AllReady.nil
  go_simp
  refine hK _ _ ?_
  clear hK K
  refine wpAny_done (by kernel_rfl) ?_ _
  go_wp2_with fail
  unfold UJ Umu
  refine ⟨?_, ?_⟩
  · (repeat apply Exists.intro)
    refine ⟨?_, rfl⟩
    exact ⟨k + 1, by omega, by go_num, ⟨_, rfl⟩, _, _, _, _, rfl, Lib.hid (HU2.out.mono (by first | omega | (simp [ByteArray.size]; omega) | simp [ByteArray.size])), Lib.hid (Pm.fin HP.out (HPC.out) (by rw [← EXa.out]; simp))⟩
  · simp [intOf]; omega
set_option maxRecDepth 1000000 in
set_option maxHeartbeats 40000000 in
theorem lfS5 (w0 : World) (B p tb : Nat) (v0 : Value) (xs0 : List Value) (a : Option Addr) (n c : Nat) (q fl : Int) (Z : Nat → Int) (ns ao wl : Bool) (c4 c5 c6 c7 c24 c25 c26 c27 c28 c29 c30 c31 c32 c33 c34 c35 c36 c37 c38 c39 c40 c41 c42 c43 c44 c45 c46 c47 c48 c49 c50 c51 c52 c53 c54 c55 c443 c444 c445 c446 u14 u15 u16 u17 u18 u19 u20 u21 u22 u23 u56 u57 u58 u59 u60 u61 u62 u63 u64 u65 u66 u67 u68 u69 u70 u71 u72 u73 u74 u75 u76 u77 u78 u79 u80 u81 u82 u83 u84 u85 u86 u87 u88 u89 u90 u91 u92 u93 u94 u95 u96 u97 u98 u99 u100 u101 u102 u103 u104 u105 u106 u107 u108 u109 u110 u111 u112 u113 u114 u115 u116 u117 u118 u119 u120 u121 u122 u123 u124 u125 u126 u127 u128 u129 u130 u131 u132 u133 u134 u135 u136 u137 u138 u139 u140 u141 u142 u143 u144 u145 u146 u147 u148 u149 u150 u151 u152 u153 u154 u155 u156 u157 u158 u159 u160 u161 u162 u163 u164 u165 u166 u167 u168 u169 u170 u171 u172 u173 u174 u175 u176 u177 u178 u179 u180 u181 u182 u183 u184 u185 u186 u187 u188 u189 u190 u191 u192 u193 u194 u195 u196 u197 u198 u199 u200 u201 u202 u203 u204 u205 u206 u207 u208 u209 u210 u211 u212 u213 u214 u215 u216 u217 u218 u219 u220 u221 u222 u223 u224 u225 u226 u227 u228 u229 u230 u231 u232 u233 u234 u235 u236 u237 u238 u239 u240 u241 u242 u243 u244 u245 u246 u247 u248 u249 u250 u251 u252 u253 u254 u255 u256 u257 u258 u259 u260 u261 u262 u263 u264 u265 u266 u267 u268 u269 u270 u271 u272 u273 u274 u275 u276 u277 u278 u279 u280 u281 u282 u283 u284 u285 u286 u287 u288 u289 u290 u291 u292 u293 u294 u295 u296 u297 u298 u299 u300 u301 u302 u303 u304 u305 u306 u307 u308 u309 u310 u311 u312 u313 u314 u315 u316 u317 u318 u319 u320 u321 u322 u323 u324 u325 u326 u327 u328 u329 u330 u331 u332 u333 u334 u335 u336 u337 u338 u339 u340 u341 u342 u343 u344 u345 u346 u347 u348 u349 u350 u351 u352 u353 u354 u355 u356 u357 u358 u359 u360 u361 u362 u363 u364 u365 u366 u367 u368 u369 u370 u371 u372 u373 u374 u375 u376 u377 u378 u379 u380 u381 u382 u383 u384 u385 u386 u387 u388 u389 u390 u391 u392 u393 u394 u395 u396 u397 u398 u399 u400 u401 u402 u403 u404 u405 u406 u407 u408 u409 u410 u411 u412 u413 u414 u415 u416 u417 u418 u419 u420 u421 u422 u423 u424 u425 u426 u427 u428 u429 u430 u431 u432 u433 u434 u435 u436 u437 u438 u439 u440 u441 u442 : Value) (ja : Option Addr) (jn jc k : Nat) (sl : Int) (xs : List Value) (wr : World) (K0 : Act → World → Prop) (R : Ending → World → Prop) (HU : Hid (US w0 B tb v0 xs0 (12 * k + 2) wr (.slice ja jn jc) xs)) (HP : Hid (Pm n Z q ns ao wl xs0 k xs)) (hn : n ≤ 1048576) (hx : xs0.length ≤ 1048577) (hB0 : B ≤ w0.heap.size) (hlt : k < n) (uf : Int) (z : Int) (hz0 : 0 ≤ z) (hz1 : z ≤ 65535) (b off : Nat) (ha : a = some ⟨b, off, none⟩) (hbl : b < wr.heap.size) (hc : wr.cell? ⟨b, off + k, none⟩ = some (.int .u16 z)) (e0 : (z == 0) = false) (e7 : (z == 7) = false) (e8 : (z == 8) = false) (e12 : (z == 12) = false) (e10 : (z == 10) = false) (e13 : (z == 13) = false) (e11 : (z == 11) = false) (e27 : (z == 27) = false) (e92 : (z == 92) = false) (e47 : (z == 47) = false) (e39 : (z == 39) = false) (e34 : (z == 34) = false) (e96 : (z == 96) = false) (e36 : (z == 36) = false) (e8232 : (z == 8232) = false) (e8233 : (z == 8233) = false) (e65279 : (z == 65279) = false) (g0 : ¬ z ≤ 126) (g1 : 55296 ≤ z) (g2 : z ≤ 56319) (hlt2 : k + 1 < n) (y : Int) (hy0 : 0 ≤ y) (hy1 : y ≤ 65535) (hcy : wr.cell? ⟨b, off + (k + 1), none⟩ = some (.int .u16 y)) (g3 : 56320 ≤ y) (g4 : y ≤ 57343) (h31 : wr.cell? ⟨p, 31, none⟩ = some (.bool true)) (hpl : p < wr.heap.size) (h24 : wr.cell? ⟨p, 24, none⟩ = some (.int .u64 uf)) (HH : Hid (∀ w, Calls Tryf.prog 37 #[.int .u64 uf, .int .u64 576460752303423488] w fun e w' => e = .returned (.bool true) ∧ w' = w)) (HPC : Hid (piece n Z q ns ao k = u4 z ++ u4 y ∧ adv n Z k = 2)) :
    Code.wp Tryf.prog rbody (Exit.inBlock 1 (Exit.then (fun a' w'' => UJ w0 B p tb v0 xs0 a n c q fl Z ns ao wl c4 c5 c6 c7 c24 c25 c26 c27 c28 c29 c30 c31 c32 c33 c34 c35 c36 c37 c38 c39 c40 c41 c42 c43 c44 c45 c46 c47 c48 c49 c50 c51 c52 c53 c54 c55 c443 c444 c445 c446 a' w'' ∧ Umu n a' < n - k) (Exit.inBlock 0 (Exit.then K0 (bodyPost Tryf.prog Tryf.f35 R))))) ⟨#[.pointer (some ⟨p, 0, none⟩), .slice a n c, .int .i32 q, .int .u8 fl, c4, c5, c6, c7, .slice (some ⟨tb, 0, none⟩) 4 4, .slice ja jn jc, .int .i64 (k : Int), .int .i64 (n : Int), .int .i64 sl, .bool wl, u14, u15, u16, u17, u18, u19, u20, u21, u22, u23, c24, c25, c26, c27, c28, c29, c30, c31, c32, c33, c34, c35, c36, c37, c38, c39, c40, c41, c42, c43, c44, c45, c46, c47, c48, c49, c50, c51, c52, c53, c54, c55, u56, u57, u58, u59, u60, u61, u62, u63, u64, u65, u66, u67, u68, u69, u70, u71, u72, u73, u74, u75, u76, u77, u78, u79, u80, u81, u82, u83, u84, u85, u86, u87, u88, u89, u90, u91, u92, u93, u94, u95, u96, u97, u98, u99, u100, u101, u102, u103, u104, u105, u106, u107, u108, u109, u110, u111, u112, u113, u114, u115, u116, u117, u118, u119, u120, u121, u122, u123, u124, u125, u126, u127, u128, u129, u130, u131, u132, u133, u134, u135, u136, u137, u138, u139, u140, u141, u142, u143, u144, u145, u146, u147, u148, u149, u150, u151, u152, u153, u154, u155, u156, u157, u158, u159, u160, u161, u162, u163, u164, u165, u166, u167, u168, u169, u170, u171, u172, u173, u174, u175, u176, u177, u178, u179, u180, u181, u182, u183, u184, u185, u186, u187, u188, u189, u190, u191, u192, u193, u194, u195, u196, u197, u198, u199, u200, u201, u202, u203, u204, u205, u206, u207, u208, u209, u210, u211, u212, u213, u214, u215, u216, u217, u218, u219, u220, u221, u222, u223, u224, u225, u226, u227, u228, u229, u230, u231, u232, u233, u234, u235, u236, u237, u238, u239, u240, u241, u242, u243, u244, u245, u246, u247, u248, u249, u250, u251, u252, u253, u254, u255, u256, u257, u258, u259, u260, u261, u262, u263, u264, u265, u266, u267, u268, u269, u270, u271, u272, u273, u274, u275, u276, u277, u278, u279, u280, u281, u282, u283, u284, u285, u286, u287, u288, u289, u290, u291, u292, u293, u294, u295, u296, u297, u298, u299, u300, u301, u302, u303, u304, u305, u306, u307, u308, u309, u310, u311, u312, u313, u314, u315, u316, u317, u318, u319, u320, u321, u322, u323, u324, u325, u326, u327, u328, u329, u330, u331, u332, u333, u334, u335, u336, u337, u338, u339, u340, u341, u342, u343, u344, u345, u346, u347, u348, u349, u350, u351, u352, u353, u354, u355, u356, u357, u358, u359, u360, u361, u362, u363, u364, u365, u366, u367, u368, u369, u370, u371, u372, u373, u374, u375, u376, u377, u378, u379, u380, u381, u382, u383, u384, u385, u386, u387, u388, u389, u390, u391, u392, u393, u394, u395, u396, u397, u398, u399, u400, u401, u402, u403, u404, u405, u406, u407, u408, u409, u410, u411, u412, u413, u414, u415, u416, u417, u418, u419, u420, u421, u422, u423, u424, u425, u426, u427, u428, u429, u430, u431, u432, u433, u434, u435, u436, u437, u438, u439, u440, u441, u442, c443, c444, c445, c446], []⟩ wr := by
  conv => arg 2; whnf
  subst ha
  have hk2 : (k : Int) < (n : Int) := by omega
  have hk3 : (k : Int) + 1 < (n : Int) := by omega
  obtain ⟨da1, hda1⟩ : ∃ d : Nat, z / 4096 = (d : Int) := ⟨(z / 4096).toNat, by omega⟩
  obtain ⟨da2, hda2, hla2, hma2⟩ := and15 (z / 256) (by omega) (by omega)
  obtain ⟨da3, hda3, hla3, hma3⟩ := and15 (z / 16) (by omega) (by omega)
  obtain ⟨da4, hda4, hla4, hma4⟩ := and15 z (by omega) (by omega)
  obtain ⟨xa1, hxa1, exa1⟩ := hexG da1 (by omega)
  obtain ⟨xa2, hxa2, exa2⟩ := hexG da2 (by omega)
  obtain ⟨xa3, hxa3, exa3⟩ := hexG da3 (by omega)
  obtain ⟨xa4, hxa4, exa4⟩ := hexG da4 (by omega)
  have EXa : Hid ([92, 117, xa1, xa2, xa3, xa4] = u4 z) := Lib.hid (by rw [u4, hda1, ← hma2, ← hma3, ← hma4, exa1, exa2, exa3, exa4])
  have hna1 : (da1 : Int) < 16 := by omega
  have hna2 : (da2 : Int) < 16 := by omega
  have hna3 : (da3 : Int) < 16 := by omega
  have hna4 : (da4 : Int) < 16 := by omega
  clear hma2 hma3 hma4 exa1 exa2 exa3 exa4
  obtain ⟨db1, hdb1⟩ : ∃ d : Nat, y / 4096 = (d : Int) := ⟨(y / 4096).toNat, by omega⟩
  obtain ⟨db2, hdb2, hlb2, hmb2⟩ := and15 (y / 256) (by omega) (by omega)
  obtain ⟨db3, hdb3, hlb3, hmb3⟩ := and15 (y / 16) (by omega) (by omega)
  obtain ⟨db4, hdb4, hlb4, hmb4⟩ := and15 y (by omega) (by omega)
  obtain ⟨xb1, hxb1, exb1⟩ := hexG db1 (by omega)
  obtain ⟨xb2, hxb2, exb2⟩ := hexG db2 (by omega)
  obtain ⟨xb3, hxb3, exb3⟩ := hexG db3 (by omega)
  obtain ⟨xb4, hxb4, exb4⟩ := hexG db4 (by omega)
  have EXb : Hid ([92, 117, xb1, xb2, xb3, xb4] = u4 y) := Lib.hid (by rw [u4, hdb1, ← hmb2, ← hmb3, ← hmb4, exb1, exb2, exb3, exb4])
  have hnb1 : (db1 : Int) < 16 := by omega
  have hnb2 : (db2 : Int) < 16 := by omega
  have hnb3 : (db3 : Int) < 16 := by omega
  have hnb4 : (db4 : Int) < 16 := by omega
  clear hmb2 hmb3 hmb4 exb1 exb2 exb3 exb4
  have R1 := Lib.hid (fun ty => US.one HU.out.drew hB0 #[.int .u8 92, .int .u8 117, .int .u8 xa1, .int .u8 xa2, .int .u8 xa3, .int .u8 xa4, .int .u8 92, .int .u8 117, .int .u8 xb1, .int .u8 xb2, .int .u8 xb3, .int .u8 xb4] 12 rfl (by intro u hu; simp at hu; rcases hu with rfl | rfl | rfl | rfl | rfl | rfl | rfl | rfl | rfl | rfl | rfl | rfl <;> rfl) (by omega) ty _ rfl)
  have w1 : IntKind.i32.wrap (z * 1024) = z * 1024 := IntWalk.i32_in _ (by omega)
  have w2 : IntKind.i32.wrap (z * 1024 + y) = z * 1024 + y := IntWalk.i32_in _ (by omega)
  have w3 : IntKind.i32.wrap (z * 1024 + y + -56613888) = z * 1024 + y + -56613888 := IntWalk.i32_in _ (by omega)
  go_wp2_with (go_at_call 37; refine (HH.out _).mono ?_; rintro e w1 ⟨rfl, rfl⟩)
  refine wp_region_any (by kernel_rfl) ?_
  try (change wpAny _ _ _ _ _ _ _ (World.drew _))
  refine wpAny_take (i := 0) (v := .slice ja jn jc) rfl (by kernel_rfl) (by kernel_rfl) (by kernel_rfl) (fun _ _ _ h => h) (Or.inl ⟨by rfl, fun w => by go_simp⟩) ?_
  refine wpAny_take (i := 1) (v := .int .u16 z) rfl (by kernel_rfl) (by kernel_rfl) (by kernel_rfl) (fun _ _ _ h => h) (Or.inl ⟨by rfl, fun w => by go_simp⟩) ?_
  refine wpAny_take (i := 2) (v := .int .u16 (da1 : Int)) rfl (by kernel_rfl) (by kernel_rfl) (by kernel_rfl) (fun _ _ _ h => h) (Or.inl ⟨by rfl, fun w => by go_simp⟩) ?_
  refine wpAny_take (i := 3) (v := .int .u8 xa1) rfl (by kernel_rfl) (by kernel_rfl) (by kernel_rfl) (fun _ _ _ h => h) (Or.inl ⟨by rfl, fun w => by go_simp⟩) ?_
  refine wpAny_take (i := 4) (v := .int .u16 z) rfl (by kernel_rfl) (by kernel_rfl) (by kernel_rfl) (fun _ _ _ h => h) (Or.inl ⟨by rfl, fun w => by go_simp⟩) ?_
  refine wpAny_take (i := 5) (v := .int .u16 (z / 256)) rfl (by kernel_rfl) (by kernel_rfl) (by kernel_rfl) (fun _ _ _ h => h) (Or.inl ⟨by rfl, fun w => by go_simp⟩) ?_
  refine wpAny_take (i := 6) (v := .int .u16 (da2 : Int)) rfl (by kernel_rfl) (by kernel_rfl) (by kernel_rfl) (fun _ _ _ h => h) (Or.inl ⟨by rfl, fun w => by go_simp⟩) ?_
  refine wpAny_take (i := 7) (v := .int .u8 xa2) rfl (by kernel_rfl) (by kernel_rfl) (by kernel_rfl) (fun _ _ _ h => h) (Or.inl ⟨by rfl, fun w => by go_simp⟩) ?_
  refine wpAny_take (i := 8) (v := .int .u16 z) rfl (by kernel_rfl) (by kernel_rfl) (by kernel_rfl) (fun _ _ _ h => h) (Or.inl ⟨by rfl, fun w => by go_simp⟩) ?_
  refine wpAny_take (i := 9) (v := .int .u16 (z / 16)) rfl (by kernel_rfl) (by kernel_rfl) (by kernel_rfl) (fun _ _ _ h => h) (Or.inl ⟨by rfl, fun w => by go_simp⟩) ?_
  refine wpAny_take (i := 10) (v := .int .u16 (da3 : Int)) rfl (by kernel_rfl) (by kernel_rfl) (by kernel_rfl) (fun _ _ _ h => h) (Or.inl ⟨by rfl, fun w => by go_simp⟩) ?_
  refine wpAny_take (i := 11) (v := .int .u8 xa3) rfl (by kernel_rfl) (by kernel_rfl) (by kernel_rfl) (fun _ _ _ h => h) (Or.inl ⟨by rfl, fun w => by go_simp⟩) ?_
  refine wpAny_take (i := 12) (v := .int .u16 z) rfl (by kernel_rfl) (by kernel_rfl) (by kernel_rfl) (fun _ _ _ h => h) (Or.inl ⟨by rfl, fun w => by go_simp⟩) ?_
  refine wpAny_take (i := 13) (v := .int .u16 (da4 : Int)) rfl (by kernel_rfl) (by kernel_rfl) (by kernel_rfl) (fun _ _ _ h => h) (Or.inl ⟨by rfl, fun w => by go_simp⟩) ?_
  refine wpAny_take (i := 14) (v := .int .u8 xa4) rfl (by kernel_rfl) (by kernel_rfl) (by kernel_rfl) (fun _ _ _ h => h) (Or.inl ⟨by rfl, fun w => by go_simp⟩) ?_
  refine wpAny_take (i := 15) (v := .int .u16 y) rfl (by kernel_rfl) (by kernel_rfl) (by kernel_rfl) (fun _ _ _ h => h) (Or.inl ⟨by rfl, fun w => by go_simp⟩) ?_
  refine wpAny_take (i := 16) (v := .int .u16 (db1 : Int)) rfl (by kernel_rfl) (by kernel_rfl) (by kernel_rfl) (fun _ _ _ h => h) (Or.inl ⟨by rfl, fun w => by go_simp⟩) ?_
  refine wpAny_take (i := 17) (v := .int .u8 xb1) rfl (by kernel_rfl) (by kernel_rfl) (by kernel_rfl) (fun _ _ _ h => h) (Or.inl ⟨by rfl, fun w => by go_simp⟩) ?_
  refine wpAny_take (i := 18) (v := .int .u16 y) rfl (by kernel_rfl) (by kernel_rfl) (by kernel_rfl) (fun _ _ _ h => h) (Or.inl ⟨by rfl, fun w => by go_simp⟩) ?_
  refine wpAny_take (i := 19) (v := .int .u16 (y / 256)) rfl (by kernel_rfl) (by kernel_rfl) (by kernel_rfl) (fun _ _ _ h => h) (Or.inl ⟨by rfl, fun w => by go_simp⟩) ?_
  refine wpAny_take (i := 20) (v := .int .u16 (db2 : Int)) rfl (by kernel_rfl) (by kernel_rfl) (by kernel_rfl) (fun _ _ _ h => h) (Or.inl ⟨by rfl, fun w => by go_simp⟩) ?_
  refine wpAny_take (i := 21) (v := .int .u8 xb2) rfl (by kernel_rfl) (by kernel_rfl) (by kernel_rfl) (fun _ _ _ h => h) (Or.inl ⟨by rfl, fun w => by go_simp⟩) ?_
  refine wpAny_take (i := 22) (v := .int .u16 y) rfl (by kernel_rfl) (by kernel_rfl) (by kernel_rfl) (fun _ _ _ h => h) (Or.inl ⟨by rfl, fun w => by go_simp⟩) ?_
  refine wpAny_take (i := 23) (v := .int .u16 (y / 16)) rfl (by kernel_rfl) (by kernel_rfl) (by kernel_rfl) (fun _ _ _ h => h) (Or.inl ⟨by rfl, fun w => by go_simp⟩) ?_
  refine wpAny_take (i := 24) (v := .int .u16 (db3 : Int)) rfl (by kernel_rfl) (by kernel_rfl) (by kernel_rfl) (fun _ _ _ h => h) (Or.inl ⟨by rfl, fun w => by go_simp⟩) ?_
  refine wpAny_take (i := 25) (v := .int .u8 xb3) rfl (by kernel_rfl) (by kernel_rfl) (by kernel_rfl) (fun _ _ _ h => h) (Or.inl ⟨by rfl, fun w => by go_simp⟩) ?_
  refine wpAny_take (i := 26) (v := .int .u16 y) rfl (by kernel_rfl) (by kernel_rfl) (by kernel_rfl) (fun _ _ _ h => h) (Or.inl ⟨by rfl, fun w => by go_simp⟩) ?_
  refine wpAny_take (i := 27) (v := .int .u16 (db4 : Int)) rfl (by kernel_rfl) (by kernel_rfl) (by kernel_rfl) (fun _ _ _ h => h) (Or.inl ⟨by rfl, fun w => by go_simp⟩) ?_
  refine wpAny_take (i := 28) (v := .int .u8 xb4) rfl (by kernel_rfl) (by kernel_rfl) (by kernel_rfl) (fun _ _ _ h => h) (Or.inl ⟨by rfl, fun w => by go_simp⟩) ?_
  refine wpAny_ready (rs := [29]) (by kernel_rfl) (by simp) ?_
  refine AllReady.cons rfl (fun K hK => ?_) AllReady.nil
  go_simp
  refine hK _ _ ?_
  clear hK K
  refine wpAny_ready (rs := [30]) (by kernel_rfl) (by simp) ?_
  refine AllReady.cons rfl (fun K hK => ?_) AllReady.nil
  refine step_app rfl _ _ #[25, 25] rfl rfl rfl (R1.out _) ?_
  rintro v' w' ⟨ja2, jn2, jc2, rfl, HU2⟩
  refine hK _ _ ?_
  clear hK K
  refine wpAny_ready (rs := [31]) (by kernel_rfl) (by simp) ?_
  refine AllReady.cons rfl (fun K hK => ?_) AllReady.nil
  go_simp
  refine hK _ _ ?_
  clear hK K
  refine wpAny_done (by kernel_rfl) ?_ _
  go_wp2_with fail
  unfold UJ Umu
  refine ⟨?_, ?_⟩
  · (repeat apply Exists.intro)
    refine ⟨?_, rfl⟩
    exact ⟨k + 2, by omega, by go_num, ⟨_, rfl⟩, _, _, _, _, rfl, Lib.hid (HU2.out.mono (by first | omega | (simp [ByteArray.size]; omega) | simp [ByteArray.size])), Lib.hid (Pm.fin HP.out (HPC.out) (by rw [← EXa.out, ← EXb.out]; simp))⟩
  · simp [intOf]; omega
end Go.Proofs.YtfhafelkkophgaaFmt.Aux
