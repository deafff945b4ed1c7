/-
  Items of the loop within laws.frameOf.
-/
import Derived.Test.YtppfldobgemddaaDoorMe
import Derived.Test.YtppfldobgemddaaDoorMf
import Derived.Outline
import Derived.Test.YtppfldobgemddaaDoorGc
import Derived.Deep.RegionHeld3
import Derived.Deep.RegionWith
import Derived.Deep.DrawnRows
namespace Go.Proofs.YtppfldobgemddaaDoor
open Go.RowKit
set_option linter.unusedVariables false

/-- The factors are small. -/
def MainB (S : Nat → Int) : Prop := ∀ j, 93 ≤ j → j < 337 → 0 ≤ S j ∧ S j ≤ 15
/-- What the factors' loops have made so far. -/
def FacR (S S' : Nat → Int) : Prop := MainB S' ∧ ∀ j, j < 93 → S' j = S j
theorem FacR.next {S S' : Nat → Int} (h : FacR S S') (off : Nat) (ho : 93 ≤ off) (v : Int) (v0 : 0 ≤ v) (v1 : v ≤ 15) : FacR S (upd S' off v) := by
  refine ⟨fun j j0 j1 => ?_, fun j hj => ?_⟩
  · by_cases e : j = off
    · subst e; rw [upd_at]; exact ⟨v0, v1⟩
    · rw [upd_not _ _ _ _ e]; exact h.1 j j0 j1
  · rw [upd_not _ _ _ _ (by omega)]; exact h.2 j hj
set_option maxRecDepth 1000000 in
set_option maxHeartbeats 8000000 in
theorem it14a {w0 : Origin} {N : Nat} {h7 : Array Value} {va : Option Addr} {vl vc t : Nat} {S : Nat → Int} {L : Nat → Value} (na : Option Addr) (nl nc : Nat) (n : Int) (g c : Nat) (hg : g < 2) (hc : c < 2) (a b : Nat) (ha : a ≤ 4) (hb4 : b ≤ 4) (ht : t ≤ 900000) (hvl : vl ≤ 1000) (hmain : MainB S) (hs : shortB (fun i => S (7 + i)) g c = false) (u0 u2 u4 u5 u6 u7 u8 u15 u16 u17 u20 u21 u22 u23 u24 u25 u26 u27 u28 u29 u30 u31 u32 u33 u34 u35 u36 u37 u38 u39 u40 u41 u42 u43 u44 u45 u46 u47 u48 u49 u50 u51 u52 u53 u54 u55 u56 u57 u58 u59 u60 u61 u62 u63 u64 u65 u66 u67 u68 u69 u70 u71 u72 u73 u74 u75 u76 u77 u78 u79 u80 u81 u82 u83 u84 u85 u86 u87 u88 u89 u90 u91 u92 u93 u94 u95 u96 u97 u98 u99 u100 u101 u102 u103 u104 u105 u106 u107 u108 u109 u110 u111 u112 u113 u114 u115 u116 u117 u118 u119 u120 u121 u122 u123 u124 u125 u126 u127 u128 u129 u130 u131 u132 u133 u134 u135 u136 u137 u138 u139 u140 u141 u142 u143 u144 u145 u146 u147 u148 u149 u150 u151 u152 u153 u154 u155 u156 u157 u158 u159 u160 u161 u162 u163 u164 u165 u166 u167 u168 u169 u170 u171 u172 u173 u174 u175 u176 u177 u178 u179 u180 u181 u182 u183 u184 u185 u186 u187 u188 u189 u190 u191 u192 u193 u194 u195 u196 u197 u198 u199 u200 u201 u202 u203 u204 u205 u206 u207 u208 u209 u210 u211 u212 u213 u214 u215 u216 u217 u218 u219 u220 u221 u222 u223 u224 u225 u226 u227 u228 u229 u230 u231 u232 u233 u234 u235 u236 u237 u238 u239 u240 u241 u242 u243 u244 u245 u246 u247 u248 u249 u250 u251 u252 u253 u254 u255 u256 u257 u258 u259 u260 u261 u262 u263 u264 u265 u266 u267 u268 u269 u270 u271 u272 u273 u274 u275 u276 u277 u278 u279 u280 u281 u282 u283 u284 u285 u286 u287 u288 u289 u290 u291 u292 u293 u294 u295 u296 u297 u298 u299 u300 u301 u302 u303 u304 u305 u306 u307 u308 u309 u310 u311 u312 u313 u314 u315 u316 u317 u318 u319 u320 u321 u322 u323 u324 u325 u326 u327 u328 u329 u330 u331 u332 u333 u334 u335 u336 u337 u338 u339 u340 u341 u342 u343 u344 u345 u346 u347 u348 u349 u350 u351 u352 u353 u354 u355 u356 u357 u358 u359 u360 u361 u362 u363 u364 u365 u366 u367 u368 u369 u370 u371 u372 u373 u374 u375 u376 u377 u378 u379 u380 u381 u382 u383 u384 u385 u386 u387 u388 u389 u390 u391 u392 u393 u394 u395 u396 u397 u398 u399 u400 u401 u402 u403 u404 u405 u406 u407 u408 u409 u410 u411 u412 u413 u414 u415 u416 u417 u418 u419 u420 u421 u422 u423 u424 u425 u426 u427 u428 u429 u430 u431 u432 u433 u434 u435 u436 u437 u438 u439 u440 u441 u442 u443 u444 u445 u446 u447 u448 u449 u450 u451 u452 u453 u454 u455 u456 u457 u458 u459 u460 u461 u462 u463 u464 u465 u466 u467 u468 u469 u470 u471 u472 u473 u474 u475 u476 u477 u478 u479 u480 u481 u482 u483 u484 u485 u486 u487 u488 u489 u490 u491 u492 u493 u494 u495 u496 u497 u498 u499 u500 u501 u502 u503 u504 u505 u506 u507 u508 u509 u510 u511 u512 u513 u514 u515 u516 u517 u518 u519 u520 u521 u522 u523 u524 u525 u526 u527 u528 u529 u530 u531 u532 u533 u534 u535 u536 u537 u538 u539 u540 u541 u542 u543 u544 u545 u546 u547 u548 u549 u550 u551 u552 u553 u554 u555 u556 u557 u558 u559 u560 u561 u562 u563 u564 u565 u566 u567 u568 u569 u570 u571 u572 u573 u574 u575 u576 u577 u578 u579 u580 u581 u582 u583 u584 u585 u586 u587 u588 u589 u590 u591 u592 u593 u594 u595 u596 u597 u598 u599 u600 u601 u602 u603 u604 u605 u606 u607 u608 u609 u610 u611 u612 u613 u614 u615 u616 u617 u618 u619 u620 u621 u622 u623 u624 u625 u626 u627 u628 u629 u630 : Value) (w : World) (h : FM w0 N h7 va vl vc t S L w)  (Q : Exit → Act → World → Prop)
    (hQ : ∀ (v20 v21 v22 v23 v24 v369 v370 v371 v372 v373 v374 v375 v376 v377 v378 v379 v380 v381 v382 v383 v384 v385 v386 v387 v388 v389 v390 v391 v392 v393 v394 v395 v396 v397 v398 v399 v400 v401 v402 v403 v404 v405 v406 v407 v408 v409 v410 v411 v412 v413 v414 v415 v416 v417 v418 v419 v420 v421 v422 v423 v424 v425 v426 v427 v428 v429 v430 v431 v432 v433 v434 v435 v436 v437 v438 v439 v440 v441 v442 v443 v444 v445 v446 v447 v448 v449 v450 v451 v452 v453 v454 v455 v456 v457 v458 v459 v460 v461 v462 v463 v464 v465 v466 v467 v468 v469 v470 v471 v472 v473 : Value) (S' : Nat → Int) (t' : Nat) (w' : World), (FM w0 N h7 va vl vc t' S' L w' ∧ FacR S S' ∧ t' ≤ t + 50) → Q .normal ⟨#[u0, .slice na nl nc, u2, .pointer (some ⟨N, 0, none⟩), u4, u5, u6, u7, u8, .func (.func 24) #[] #[.pointer (some ⟨N + 4, 0, none⟩), .pointer (some ⟨N + 1, 0, none⟩)], .pointer (some ⟨N + 3, 7, none⟩), .pointer (some ⟨N + 3, 93, none⟩), .int .i64 g, .int .i64 c, .int .u32 n, u15, u16, u17, .int .i64 a, .int .i64 b, v20, v21, v22, v23, v24, u25, u26, u27, u28, u29, u30, u31, u32, u33, u34, u35, u36, u37, u38, u39, u40, u41, u42, u43, u44, u45, u46, u47, u48, u49, u50, u51, u52, u53, u54, u55, u56, u57, u58, u59, u60, u61, u62, u63, u64, u65, u66, u67, u68, u69, u70, u71, u72, u73, u74, u75, u76, u77, u78, u79, u80, u81, u82, u83, u84, u85, u86, u87, u88, u89, u90, u91, u92, u93, u94, u95, u96, u97, u98, u99, u100, u101, u102, u103, u104, u105, u106, u107, u108, u109, u110, u111, u112, u113, u114, u115, u116, u117, u118, u119, u120, u121, u122, u123, u124, u125, u126, u127, u128, u129, u130, u131, u132, u133, u134, u135, u136, u137, u138, u139, u140, u141, u142, u143, u144, u145, u146, u147, u148, u149, u150, u151, u152, u153, u154, u155, u156, u157, u158, u159, u160, u161, u162, u163, u164, u165, u166, u167, u168, u169, u170, u171, u172, u173, u174, u175, u176, u177, u178, u179, u180, u181, u182, u183, u184, u185, u186, u187, u188, u189, u190, u191, u192, u193, u194, u195, u196, u197, u198, u199, u200, u201, u202, u203, u204, u205, u206, u207, u208, u209, u210, u211, u212, u213, u214, u215, u216, u217, u218, u219, u220, u221, u222, u223, u224, u225, u226, u227, u228, u229, u230, u231, u232, u233, u234, u235, u236, u237, u238, u239, u240, u241, u242, u243, u244, u245, u246, u247, u248, u249, u250, u251, u252, u253, u254, u255, u256, u257, u258, u259, u260, u261, u262, u263, u264, u265, u266, u267, u268, u269, u270, u271, u272, u273, u274, u275, u276, u277, u278, u279, u280, u281, u282, u283, u284, u285, u286, u287, u288, u289, u290, u291, u292, u293, u294, u295, u296, u297, u298, u299, u300, u301, u302, u303, u304, u305, u306, u307, u308, u309, u310, u311, u312, u313, u314, u315, u316, u317, u318, u319, u320, u321, u322, u323, u324, u325, u326, u327, u328, u329, u330, u331, u332, u333, u334, u335, u336, u337, u338, u339, u340, u341, u342, u343, u344, u345, u346, u347, u348, u349, u350, u351, u352, u353, u354, u355, u356, u357, u358, u359, u360, u361, u362, u363, u364, u365, u366, u367, u368, v369, v370, v371, v372, v373, v374, v375, v376, v377, v378, v379, v380, v381, v382, v383, v384, v385, v386, v387, v388, v389, v390, v391, v392, v393, v394, v395, v396, v397, v398, v399, v400, v401, v402, v403, v404, v405, v406, v407, v408, v409, v410, v411, v412, v413, v414, v415, v416, v417, v418, v419, v420, v421, v422, v423, v424, v425, v426, v427, v428, v429, v430, v431, v432, v433, v434, v435, v436, v437, v438, v439, v440, v441, v442, v443, v444, v445, v446, v447, v448, v449, v450, v451, v452, v453, v454, v455, v456, v457, v458, v459, v460, v461, v462, v463, v464, v465, v466, v467, v468, v469, v470, v471, v472, v473, u474, u475, u476, u477, u478, u479, u480, u481, u482, u483, u484, u485, u486, u487, u488, u489, u490, u491, u492, u493, u494, u495, u496, u497, u498, u499, u500, u501, u502, u503, u504, u505, u506, u507, u508, u509, u510, u511, u512, u513, u514, u515, u516, u517, u518, u519, u520, u521, u522, u523, u524, u525, u526, u527, u528, u529, u530, u531, u532, u533, u534, u535, u536, u537, u538, u539, u540, u541, u542, u543, u544, u545, u546, u547, u548, u549, u550, u551, u552, u553, u554, u555, u556, u557, u558, u559, u560, u561, u562, u563, u564, u565, u566, u567, u568, u569, u570, u571, u572, u573, u574, u575, u576, u577, u578, u579, u580, u581, u582, u583, u584, u585, u586, u587, u588, u589, u590, u591, u592, u593, u594, u595, u596, u597, u598, u599, u600, u601, u602, u603, u604, u605, u606, u607, u608, u609, u610, u611, u612, u613, u614, u615, u616, u617, u618, u619, u620, u621, u622, u623, u624, u625, u626, u627, u628, u629, u630], []⟩ w') :
    Code.wp Tryd.prog (frItem 14) Q ⟨#[u0, .slice na nl nc, u2, .pointer (some ⟨N, 0, none⟩), u4, u5, u6, u7, u8, .func (.func 24) #[] #[.pointer (some ⟨N + 4, 0, none⟩), .pointer (some ⟨N + 1, 0, none⟩)], .pointer (some ⟨N + 3, 7, none⟩), .pointer (some ⟨N + 3, 93, none⟩), .int .i64 g, .int .i64 c, .int .u32 n, u15, u16, u17, .int .i64 a, .int .i64 b, u20, u21, u22, u23, u24, u25, u26, u27, u28, u29, u30, u31, u32, u33, u34, u35, u36, u37, u38, u39, u40, u41, u42, u43, u44, u45, u46, u47, u48, u49, u50, u51, u52, u53, u54, u55, u56, u57, u58, u59, u60, u61, u62, u63, u64, u65, u66, u67, u68, u69, u70, u71, u72, u73, u74, u75, u76, u77, u78, u79, u80, u81, u82, u83, u84, u85, u86, u87, u88, u89, u90, u91, u92, u93, u94, u95, u96, u97, u98, u99, u100, u101, u102, u103, u104, u105, u106, u107, u108, u109, u110, u111, u112, u113, u114, u115, u116, u117, u118, u119, u120, u121, u122, u123, u124, u125, u126, u127, u128, u129, u130, u131, u132, u133, u134, u135, u136, u137, u138, u139, u140, u141, u142, u143, u144, u145, u146, u147, u148, u149, u150, u151, u152, u153, u154, u155, u156, u157, u158, u159, u160, u161, u162, u163, u164, u165, u166, u167, u168, u169, u170, u171, u172, u173, u174, u175, u176, u177, u178, u179, u180, u181, u182, u183, u184, u185, u186, u187, u188, u189, u190, u191, u192, u193, u194, u195, u196, u197, u198, u199, u200, u201, u202, u203, u204, u205, u206, u207, u208, u209, u210, u211, u212, u213, u214, u215, u216, u217, u218, u219, u220, u221, u222, u223, u224, u225, u226, u227, u228, u229, u230, u231, u232, u233, u234, u235, u236, u237, u238, u239, u240, u241, u242, u243, u244, u245, u246, u247, u248, u249, u250, u251, u252, u253, u254, u255, u256, u257, u258, u259, u260, u261, u262, u263, u264, u265, u266, u267, u268, u269, u270, u271, u272, u273, u274, u275, u276, u277, u278, u279, u280, u281, u282, u283, u284, u285, u286, u287, u288, u289, u290, u291, u292, u293, u294, u295, u296, u297, u298, u299, u300, u301, u302, u303, u304, u305, u306, u307, u308, u309, u310, u311, u312, u313, u314, u315, u316, u317, u318, u319, u320, u321, u322, u323, u324, u325, u326, u327, u328, u329, u330, u331, u332, u333, u334, u335, u336, u337, u338, u339, u340, u341, u342, u343, u344, u345, u346, u347, u348, u349, u350, u351, u352, u353, u354, u355, u356, u357, u358, u359, u360, u361, u362, u363, u364, u365, u366, u367, u368, u369, u370, u371, u372, u373, u374, u375, u376, u377, u378, u379, u380, u381, u382, u383, u384, u385, u386, u387, u388, u389, u390, u391, u392, u393, u394, u395, u396, u397, u398, u399, u400, u401, u402, u403, u404, u405, u406, u407, u408, u409, u410, u411, u412, u413, u414, u415, u416, u417, u418, u419, u420, u421, u422, u423, u424, u425, u426, u427, u428, u429, u430, u431, u432, u433, u434, u435, u436, u437, u438, u439, u440, u441, u442, u443, u444, u445, u446, u447, u448, u449, u450, u451, u452, u453, u454, u455, u456, u457, u458, u459, u460, u461, u462, u463, u464, u465, u466, u467, u468, u469, u470, u471, u472, u473, u474, u475, u476, u477, u478, u479, u480, u481, u482, u483, u484, u485, u486, u487, u488, u489, u490, u491, u492, u493, u494, u495, u496, u497, u498, u499, u500, u501, u502, u503, u504, u505, u506, u507, u508, u509, u510, u511, u512, u513, u514, u515, u516, u517, u518, u519, u520, u521, u522, u523, u524, u525, u526, u527, u528, u529, u530, u531, u532, u533, u534, u535, u536, u537, u538, u539, u540, u541, u542, u543, u544, u545, u546, u547, u548, u549, u550, u551, u552, u553, u554, u555, u556, u557, u558, u559, u560, u561, u562, u563, u564, u565, u566, u567, u568, u569, u570, u571, u572, u573, u574, u575, u576, u577, u578, u579, u580, u581, u582, u583, u584, u585, u586, u587, u588, u589, u590, u591, u592, u593, u594, u595, u596, u597, u598, u599, u600, u601, u602, u603, u604, u605, u606, u607, u608, u609, u610, u611, u612, u613, u614, u615, u616, u617, u618, u619, u620, u621, u622, u623, u624, u625, u626, u627, u628, u629, u630], []⟩ w := by
  conv => arg 2; whnf
  have HQ := Lib.hid hQ
  clear hQ
  have ig0 : (0 : Int) ≤ (g : Int) := by omega
  have ig1 : (g : Int) < 2 := by omega
  have ic0 : (0 : Int) ≤ (c : Int) := by omega
  have ic1 : (c : Int) < 2 := by omega
  have HR := Lib.hid h.side
  have HM := Lib.hid (show FacR S S from ⟨hmain, fun j _ => rfl⟩)
  clear hmain
  have H := Lib.hid h
  clear h
  go_wp2_with (refine wpList_load_mid rfl 47 (.tmp 370) rfl (N + 3) 7 rfl (numL 86 (fun i => S (7 + i))) _ HR.out Tryd.underlying47 rfl (by rw [numL_len]; kernel_rfl) ?_)
  refine (short_any (fun i => S (7 + i)) g c hg hc _).mono ?_
  rintro e w1 ⟨rfl, hb⟩
  have H1 := Lib.hid (H.out.call hb)
  clear hb HR H
  obtain ⟨pa, hpa⟩ : ∃ pa : Nat, pa = 2 ^ a := ⟨_, rfl⟩
  obtain ⟨pb, hpb⟩ : ∃ pb : Nat, pb = 2 ^ b := ⟨_, rfl⟩
  have pa1 : 1 ≤ pa ∧ pa ≤ 16 := by rw [hpa]; exact ⟨Nat.one_le_two_pow, Nat.le_trans (Nat.pow_le_pow_right (by decide) ha) (by decide)⟩
  have pb1 : 1 ≤ pb ∧ pb ≤ 16 := by rw [hpb]; exact ⟨Nat.one_le_two_pow, Nat.le_trans (Nat.pow_le_pow_right (by decide) hb4) (by decide)⟩
  have wa : IntKind.i64.wrap (2 ^ a) = (pa : Int) := by
    have e : ((2 : Int) ^ a) = (pa : Int) := by rw [hpa]; simp
    rw [e]; exact IntWalk.i64_in _ (by omega)
  have wb : IntKind.i64.wrap (2 ^ b) = (pb : Int) := by
    have e : ((2 : Int) ^ b) = (pb : Int) := by rw [hpb]; simp
    rw [e]; exact IntWalk.i64_in _ (by omega)
  obtain ⟨pa0, pa2⟩ := pa1
  obtain ⟨pb0, pb2⟩ := pb1
  clear hpa hpb
  go_wp2_with fail
  go_loopw [442] (fun x wr => ∃ k : Nat, k ≤ 21 ∧ x = .int .i64 k ∧ ∃ S1 t1, Hid (FM w0 N h7 va vl vc t1 S1 L wr) ∧ Hid (FacR S S1) ∧ t1 ≤ t + k) (fun x _ => 21 - (intOf x).toNat)
  case atStart => exact ⟨0, by omega, rfl, S, t, H1, HM, by omega⟩
  case round =>
    clear H1 HM
    obtain ⟨k, hk, rfl, S1, t1, H, HM, ht1⟩ := hrel
    by_cases hlt : k < 21
    · have d1 : decide ((k : Int) < 21) = true := decide_eq_true (by omega)
      have ik0 : (0 : Int) ≤ (k : Int) := by omega
      have ik1 : (k : Int) < 22 := by omega
      by_cases h11 : k < 11
      · have i11 : (k : Int) < 11 := by omega
        go_wp2_with fail
        go_region_held3 (fun w' => True) (trivial) ((first | (go_at_call 24; refine (FM.next H.out.drew (pa : Int) (by omega) (by omega) (by omega) hvl).mono ?_; rintro e w2 ⟨r, rfl, r0, r1, HF, hsz, hho⟩; have c2 := HF.cellF (93 + g * 44 + c * 22 + k) (by omega); have f2 := HF.freeF (93 + g * 44 + c * 22 + k); have H3 := Lib.hid HF; clear HF)))
        go_wp2_with fail
        exact ⟨⟨k + 1, by omega, by go_num, _, _, Lib.hid (H3.out.setF _ _ (by omega)), Lib.hid (HM.out.next _ (by omega) _ r0 (by omega)), by omega⟩, by simp [intOf]; omega⟩
      · have i11 : (11 : Int) ≤ (k : Int) := by omega
        go_wp2_with fail
        go_region_held3 (fun w' => True) (trivial) ((first | (go_at_call 24; refine (FM.next H.out.drew (pb : Int) (by omega) (by omega) (by omega) hvl).mono ?_; rintro e w2 ⟨r, rfl, r0, r1, HF, hsz, hho⟩; have c2 := HF.cellF (93 + g * 44 + c * 22 + k) (by omega); have f2 := HF.freeF (93 + g * 44 + c * 22 + k); have H3 := Lib.hid HF; clear HF)))
        go_wp2_with fail
        exact ⟨⟨k + 1, by omega, by go_num, _, _, Lib.hid (H3.out.setF _ _ (by omega)), Lib.hid (HM.out.next _ (by omega) _ r0 (by omega)), by omega⟩, by simp [intOf]; omega⟩
    · obtain rfl : k = 21 := by omega
      rw [show ((21 : Nat) : Int) = 21 from rfl]
      go_wp2_with fail
      exact HQ.out _ _ _ _ _ _ _ _ _ _ _ _ _ _ _ _ _ _ _ _ _ _ _ _ _ _ _ _ _ _ _ _ _ _ _ _ _ _ _ _ _ _ _ _ _ _ _ _ _ _ _ _ _ _ _ _ _ _ _ _ _ _ _ _ _ _ _ _ _ _ _ _ _ _ _ _ _ _ _ _ _ _ _ _ _ _ _ _ _ _ _ _ _ _ _ _ _ _ _ _ _ _ _ _ _ _ _ _ _ _ _ _ _ ⟨H.out, HM.out, by omega⟩

end Go.Proofs.YtppfldobgemddaaDoor
