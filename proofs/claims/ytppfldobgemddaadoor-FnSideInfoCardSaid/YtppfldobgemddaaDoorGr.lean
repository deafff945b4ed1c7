/-
  Items of the loop within laws.frameOf.
-/
import Derived.Test.YtppfldobgemddaaDoorMe
import Derived.Test.YtppfldobgemddaaDoorMf
import Derived.Outline
import Derived.Test.YtppfldobgemddaaDoorMk
import Derived.Test.YtppfldobgemddaaDoorMp
import Derived.Deep.RegionHeld3
import Derived.Deep.DrawnRows
import Derived.WalkLawsBesides
import Derived.Test.YtppfldobgemddaaDoorSf
namespace Go.Proofs.YtppfldobgemddaaDoor
open Go.RowKit
set_option linter.unusedVariables false

/-- The greatest number of a table. -/
def topL : List Int := [0, 1, 2, 2, 0, 3, 3, 5]
def topOf (T : Int) : Int := topL.getD T.toNat 0
theorem topOf_le (T : Int) (h : TabOk T) : 0 ≤ topOf T ∧ topOf T ≤ 5 ∧ 0 ≤ T ∧ T < 8 := by
  rcases h with rfl | rfl | rfl | rfl | rfl | rfl | rfl <;> decide
theorem top_cell (w : World) (T : Int) (h : TabOk T) : (w.alloc (.cells #[.int .i64 0, .int .i64 1, .int .i64 2, .int .i64 2, .int .i64 0, .int .i64 3, .int .i64 3, .int .i64 5] 3)).cell? ⟨w.heap.size, T.toNat, none⟩ = some (.int .i64 (topOf T)) := by
  rw [cell_of_row _ w.heap.size _ _ 3 (0, 0) (heap_alloc_last _ _)]
  rcases h with rfl | rfl | rfl | rfl | rfl | rfl | rfl <;> rfl
/-- The lines so far: whole numbers up to the greatest that is let, as floats; the others are nought. -/
def LinR (w : World) (lb : Nat) (top : Nat → Int) (n : Nat) : Prop :=
  ∃ cs : Array Value, w.heap[lb]? = some (.cells cs 72 (0, 0)) ∧ cs.size = 576 ∧ ∀ j, j < 576 → ∃ z : Int, cs[j]? = some (.float .f32 (floatOfInt .f32 z)) ∧ (j < n → -top j ≤ z ∧ z ≤ top j) ∧ (n ≤ j → z = 0)
theorem linR_new (w : World) (top : Nat → Int) : LinR (w.alloc (.cells Z576 72)) w.heap.size top 0 :=
  ⟨Z576, heap_alloc_last _ _, by simp [Z576], fun j hj => ⟨0, by simp [Z576, hj]; decide +kernel, fun h => by omega, fun _ => rfl⟩⟩
theorem LinR.same {w w' : World} {lb : Nat} {top : Nat → Int} {n : Nat} (h : LinR w lb top n) (e : w'.heap[lb]? = w.heap[lb]?) : LinR w' lb top n := by
  obtain ⟨cs, h1, h2⟩ := h
  exact ⟨cs, e.trans h1, h2⟩
theorem LinR.cell {w : World} {lb : Nat} {top : Nat → Int} {n : Nat} (h : LinR w lb top n) (j : Nat) (hj : j < 576) : ∃ u, w.cell? ⟨lb, j, none⟩ = some u := by
  obtain ⟨cs, hb, _, hc⟩ := h
  obtain ⟨z, hz, _⟩ := hc j hj
  exact ⟨_, by rw [cell_of_row w lb j cs _ _ hb]; exact hz⟩
theorem LinR.free {w : World} {lb : Nat} {top : Nat → Int} {n : Nat} (h : LinR w lb top n) (j : Nat) : w.frozen? ⟨lb, j, none⟩ = false := by
  obtain ⟨cs, hb, _⟩ := h
  exact frozen_of_row w lb j cs _ hb
theorem LinR.next {w : World} {lb : Nat} {top : Nat → Int} {n : Nat} (h : LinR w lb top n) (hn : n < 576) (z : Int) (z0 : -top n ≤ z) (z1 : z ≤ top n) : LinR (w.setCell ⟨lb, n, none⟩ (.float .f32 (floatOfInt .f32 z))) lb top (n + 1) := by
  obtain ⟨cs, hb, hs, hc⟩ := h
  refine ⟨_, heap_setCell_same w lb n cs _ _ hb, by simpa using hs, fun j hj => ?_⟩
  by_cases e : n = j
  · subst e
    exact ⟨z, by simp [hs, hn], fun _ => ⟨z0, z1⟩, fun h => by omega⟩
  · obtain ⟨u, hu, h1, h2⟩ := hc j hj
    exact ⟨u, by rw [Array.getElem?_setIfInBounds_ne e]; exact hu, fun h => h1 (by omega), fun h => h2 (by omega)⟩
/-- The table of a line, and the greatest number that is let there. -/
def tabAt (T0 T1 T2 one two : Int) (k : Nat) : Int := if two ≤ ((k / 2 * 2 : Nat) : Int) then T2 else if one ≤ ((k / 2 * 2 : Nat) : Int) then T1 else T0
def topAt (T0 T1 T2 one two x : Int) (k : Nat) : Int := if (k : Int) < 2 * x then topOf (tabAt T0 T1 T2 one two k) else 1
set_option maxRecDepth 1000000 in
set_option maxHeartbeats 8000000 in
theorem it17 {w0 : Origin} {N : Nat} {h7 : Array Value} {va : Option Addr} {vl vc t : Nat} {S : Nat → Int} {L : Nat → Value} (na : Option Addr) (nl nc : Nat) (n : Int) (g c : Nat) (hg : g < 2) (hc : c < 2) (x y T0 T1 T2 one two : Int) (lb : Nat) (x0 : 0 ≤ x) (x1 : x ≤ 29) (y0 : 0 ≤ y) (y1 : y ≤ 100) (hx : S (21 + g * 2 + c) = x) (hy : S (89 + g * 2 + c) = y) (hT0 : S (45 + g * 6 + c * 3) = T0) (hT1 : S (45 + g * 6 + c * 3 + 1) = T1) (hT2 : S (45 + g * 6 + c * 3 + 2) = T2) (k0 : TabOk T0) (k1 : TabOk T1) (k2 : TabOk T2) (ht : t ≤ 900000) (hvl : vl ≤ 1000) (hlb : N + 4 < lb ∧ w0.M ≤ lb) (u0 u2 u4 u5 u6 u7 u8 u15 u16 u17 u18 u19 u20 u21 u22 u23 u24 u28 u29 u30 u31 u32 u33 u34 u35 u36 u37 u38 u39 u40 u41 u42 u43 u44 u45 u46 u47 u48 u49 u50 u51 u52 u53 u54 u55 u56 u57 u58 u59 u60 u61 u62 u63 u64 u65 u66 u67 u68 u69 u70 u71 u72 u73 u74 u75 u76 u77 u78 u79 u80 u81 u82 u83 u84 u85 u86 u87 u88 u89 u90 u91 u92 u93 u94 u95 u96 u97 u98 u99 u100 u101 u102 u103 u104 u105 u106 u107 u108 u109 u110 u111 u112 u113 u114 u115 u116 u117 u118 u119 u120 u121 u122 u123 u124 u125 u126 u127 u128 u129 u130 u131 u132 u133 u134 u135 u136 u137 u138 u139 u140 u141 u142 u143 u144 u145 u146 u147 u148 u149 u150 u151 u152 u153 u154 u155 u156 u157 u158 u159 u160 u161 u162 u163 u164 u165 u166 u167 u168 u169 u170 u171 u172 u173 u174 u175 u176 u177 u178 u179 u180 u181 u182 u183 u184 u185 u186 u187 u188 u189 u190 u191 u192 u193 u194 u195 u196 u197 u198 u199 u200 u201 u202 u203 u204 u205 u206 u207 u208 u209 u210 u211 u212 u213 u214 u215 u216 u217 u218 u219 u220 u221 u222 u223 u224 u225 u226 u227 u228 u229 u230 u231 u232 u233 u234 u235 u236 u237 u238 u239 u240 u241 u242 u243 u244 u245 u246 u247 u248 u249 u250 u251 u252 u253 u254 u255 u256 u257 u258 u259 u260 u261 u262 u263 u264 u265 u266 u267 u268 u269 u270 u271 u272 u273 u274 u275 u276 u277 u278 u279 u280 u281 u282 u283 u284 u285 u286 u287 u288 u289 u290 u291 u292 u293 u294 u295 u296 u297 u298 u299 u300 u301 u302 u303 u304 u305 u306 u307 u308 u309 u310 u311 u312 u313 u314 u315 u316 u317 u318 u319 u320 u321 u322 u323 u324 u325 u326 u327 u328 u329 u330 u331 u332 u333 u334 u335 u336 u337 u338 u339 u340 u341 u342 u343 u344 u345 u346 u347 u348 u349 u350 u351 u352 u353 u354 u355 u356 u357 u358 u359 u360 u361 u362 u363 u364 u365 u366 u367 u368 u369 u370 u371 u372 u373 u374 u375 u376 u377 u378 u379 u380 u381 u382 u383 u384 u385 u386 u387 u388 u389 u390 u391 u392 u393 u394 u395 u396 u397 u398 u399 u400 u401 u402 u403 u404 u405 u406 u407 u408 u409 u410 u411 u412 u413 u414 u415 u416 u417 u418 u419 u420 u421 u422 u423 u424 u425 u426 u427 u428 u429 u430 u431 u432 u433 u434 u435 u436 u437 u438 u439 u440 u441 u442 u443 u444 u445 u446 u447 u448 u449 u450 u451 u452 u453 u454 u455 u456 u457 u458 u459 u460 u461 u462 u463 u464 u465 u466 u467 u468 u469 u470 u471 u472 u473 u474 u475 u476 u477 u478 u479 u480 u481 u482 u483 u484 u485 u486 u487 u488 u489 u490 u491 u492 u493 u494 u495 u496 u497 u498 u499 u500 u501 u502 u503 u504 u505 u506 u507 u508 u509 u510 u511 u512 u513 u514 u515 u516 u517 u518 u519 u520 u521 u522 u523 u524 u525 u526 u527 u528 u529 u530 u531 u532 u533 u534 u535 u536 u537 u538 u539 u540 u541 u542 u543 u544 u545 u546 u547 u548 u549 u550 u551 u552 u553 u554 u555 u556 u557 u558 u559 u560 u561 u562 u563 u564 u565 u566 u567 u568 u569 u570 u571 u572 u573 u574 u575 u576 u577 u578 u579 u580 u581 u582 u583 u584 u585 u586 u587 u588 u589 u590 u591 u592 u593 u594 u595 u596 u597 u598 u599 u600 u601 u602 u603 u604 u605 u606 u607 u608 u609 u610 u611 u612 u613 u614 u615 u616 u617 u618 u619 u620 u621 u622 u623 u624 u625 u626 u627 u628 u629 u630 : Value) (w : World) (h : FM w0 N h7 va vl vc t S L w) (hlin : LinR w lb (topAt T0 T1 T2 one two x) 0) (Q : Exit → Act → World → Prop)
    (hQ : ∀ (v28 v29 v30 v31 v485 v486 v487 v488 v489 v490 v491 v492 v493 v494 v495 v496 v497 v498 v499 v500 v501 v502 v503 v504 v505 v506 v507 v508 v509 v510 v511 v512 v513 v514 v515 v516 v517 v518 v519 v520 v521 v522 v523 v524 v525 v526 v527 v528 v529 v530 v531 v532 v533 v534 v535 v536 v537 v538 v539 v540 v541 v542 v543 v544 v545 v546 v547 v548 v549 v550 v551 v552 v553 v554 v555 v556 v557 v558 v559 v560 : Value) (t' : Nat) (w' : World), (FM w0 N h7 va vl vc t' S L w' ∧ t' ≤ t + 100 ∧ LinR w' lb (topAt T0 T1 T2 one two x) y.toNat) → Q .normal ⟨#[u0, .slice na nl nc, u2, .pointer (some ⟨N, 0, none⟩), u4, u5, u6, u7, u8, .func (.func 24) #[] #[.pointer (some ⟨N + 4, 0, none⟩), .pointer (some ⟨N + 1, 0, none⟩)], .pointer (some ⟨N + 3, 7, none⟩), .pointer (some ⟨N + 3, 93, none⟩), .int .i64 g, .int .i64 c, .int .u32 n, u15, u16, u17, u18, u19, u20, u21, u22, u23, u24, .int .i64 one, .int .i64 two, .slice (some ⟨lb, 0, none⟩) 576 576, v28, v29, v30, v31, u32, u33, u34, u35, u36, u37, u38, u39, u40, u41, u42, u43, u44, u45, u46, u47, u48, u49, u50, u51, u52, u53, u54, u55, u56, u57, u58, u59, u60, u61, u62, u63, u64, u65, u66, u67, u68, u69, u70, u71, u72, u73, u74, u75, u76, u77, u78, u79, u80, u81, u82, u83, u84, u85, u86, u87, u88, u89, u90, u91, u92, u93, u94, u95, u96, u97, u98, u99, u100, u101, u102, u103, u104, u105, u106, u107, u108, u109, u110, u111, u112, u113, u114, u115, u116, u117, u118, u119, u120, u121, u122, u123, u124, u125, u126, u127, u128, u129, u130, u131, u132, u133, u134, u135, u136, u137, u138, u139, u140, u141, u142, u143, u144, u145, u146, u147, u148, u149, u150, u151, u152, u153, u154, u155, u156, u157, u158, u159, u160, u161, u162, u163, u164, u165, u166, u167, u168, u169, u170, u171, u172, u173, u174, u175, u176, u177, u178, u179, u180, u181, u182, u183, u184, u185, u186, u187, u188, u189, u190, u191, u192, u193, u194, u195, u196, u197, u198, u199, u200, u201, u202, u203, u204, u205, u206, u207, u208, u209, u210, u211, u212, u213, u214, u215, u216, u217, u218, u219, u220, u221, u222, u223, u224, u225, u226, u227, u228, u229, u230, u231, u232, u233, u234, u235, u236, u237, u238, u239, u240, u241, u242, u243, u244, u245, u246, u247, u248, u249, u250, u251, u252, u253, u254, u255, u256, u257, u258, u259, u260, u261, u262, u263, u264, u265, u266, u267, u268, u269, u270, u271, u272, u273, u274, u275, u276, u277, u278, u279, u280, u281, u282, u283, u284, u285, u286, u287, u288, u289, u290, u291, u292, u293, u294, u295, u296, u297, u298, u299, u300, u301, u302, u303, u304, u305, u306, u307, u308, u309, u310, u311, u312, u313, u314, u315, u316, u317, u318, u319, u320, u321, u322, u323, u324, u325, u326, u327, u328, u329, u330, u331, u332, u333, u334, u335, u336, u337, u338, u339, u340, u341, u342, u343, u344, u345, u346, u347, u348, u349, u350, u351, u352, u353, u354, u355, u356, u357, u358, u359, u360, u361, u362, u363, u364, u365, u366, u367, u368, u369, u370, u371, u372, u373, u374, u375, u376, u377, u378, u379, u380, u381, u382, u383, u384, u385, u386, u387, u388, u389, u390, u391, u392, u393, u394, u395, u396, u397, u398, u399, u400, u401, u402, u403, u404, u405, u406, u407, u408, u409, u410, u411, u412, u413, u414, u415, u416, u417, u418, u419, u420, u421, u422, u423, u424, u425, u426, u427, u428, u429, u430, u431, u432, u433, u434, u435, u436, u437, u438, u439, u440, u441, u442, u443, u444, u445, u446, u447, u448, u449, u450, u451, u452, u453, u454, u455, u456, u457, u458, u459, u460, u461, u462, u463, u464, u465, u466, u467, u468, u469, u470, u471, u472, u473, u474, u475, u476, u477, u478, u479, u480, u481, u482, u483, u484, v485, v486, v487, v488, v489, v490, v491, v492, v493, v494, v495, v496, v497, v498, v499, v500, v501, v502, v503, v504, v505, v506, v507, v508, v509, v510, v511, v512, v513, v514, v515, v516, v517, v518, v519, v520, v521, v522, v523, v524, v525, v526, v527, v528, v529, v530, v531, v532, v533, v534, v535, v536, v537, v538, v539, v540, v541, v542, v543, v544, v545, v546, v547, v548, v549, v550, v551, v552, v553, v554, v555, v556, v557, v558, v559, v560, u561, u562, u563, u564, u565, u566, u567, u568, u569, u570, u571, u572, u573, u574, u575, u576, u577, u578, u579, u580, u581, u582, u583, u584, u585, u586, u587, u588, u589, u590, u591, u592, u593, u594, u595, u596, u597, u598, u599, u600, u601, u602, u603, u604, u605, u606, u607, u608, u609, u610, u611, u612, u613, u614, u615, u616, u617, u618, u619, u620, u621, u622, u623, u624, u625, u626, u627, u628, u629, u630], []⟩ w') :
    Code.wp Tryd.prog (frItem 17) Q ⟨#[u0, .slice na nl nc, u2, .pointer (some ⟨N, 0, none⟩), u4, u5, u6, u7, u8, .func (.func 24) #[] #[.pointer (some ⟨N + 4, 0, none⟩), .pointer (some ⟨N + 1, 0, none⟩)], .pointer (some ⟨N + 3, 7, none⟩), .pointer (some ⟨N + 3, 93, none⟩), .int .i64 g, .int .i64 c, .int .u32 n, u15, u16, u17, u18, u19, u20, u21, u22, u23, u24, .int .i64 one, .int .i64 two, .slice (some ⟨lb, 0, none⟩) 576 576, u28, u29, u30, u31, u32, u33, u34, u35, u36, u37, u38, u39, u40, u41, u42, u43, u44, u45, u46, u47, u48, u49, u50, u51, u52, u53, u54, u55, u56, u57, u58, u59, u60, u61, u62, u63, u64, u65, u66, u67, u68, u69, u70, u71, u72, u73, u74, u75, u76, u77, u78, u79, u80, u81, u82, u83, u84, u85, u86, u87, u88, u89, u90, u91, u92, u93, u94, u95, u96, u97, u98, u99, u100, u101, u102, u103, u104, u105, u106, u107, u108, u109, u110, u111, u112, u113, u114, u115, u116, u117, u118, u119, u120, u121, u122, u123, u124, u125, u126, u127, u128, u129, u130, u131, u132, u133, u134, u135, u136, u137, u138, u139, u140, u141, u142, u143, u144, u145, u146, u147, u148, u149, u150, u151, u152, u153, u154, u155, u156, u157, u158, u159, u160, u161, u162, u163, u164, u165, u166, u167, u168, u169, u170, u171, u172, u173, u174, u175, u176, u177, u178, u179, u180, u181, u182, u183, u184, u185, u186, u187, u188, u189, u190, u191, u192, u193, u194, u195, u196, u197, u198, u199, u200, u201, u202, u203, u204, u205, u206, u207, u208, u209, u210, u211, u212, u213, u214, u215, u216, u217, u218, u219, u220, u221, u222, u223, u224, u225, u226, u227, u228, u229, u230, u231, u232, u233, u234, u235, u236, u237, u238, u239, u240, u241, u242, u243, u244, u245, u246, u247, u248, u249, u250, u251, u252, u253, u254, u255, u256, u257, u258, u259, u260, u261, u262, u263, u264, u265, u266, u267, u268, u269, u270, u271, u272, u273, u274, u275, u276, u277, u278, u279, u280, u281, u282, u283, u284, u285, u286, u287, u288, u289, u290, u291, u292, u293, u294, u295, u296, u297, u298, u299, u300, u301, u302, u303, u304, u305, u306, u307, u308, u309, u310, u311, u312, u313, u314, u315, u316, u317, u318, u319, u320, u321, u322, u323, u324, u325, u326, u327, u328, u329, u330, u331, u332, u333, u334, u335, u336, u337, u338, u339, u340, u341, u342, u343, u344, u345, u346, u347, u348, u349, u350, u351, u352, u353, u354, u355, u356, u357, u358, u359, u360, u361, u362, u363, u364, u365, u366, u367, u368, u369, u370, u371, u372, u373, u374, u375, u376, u377, u378, u379, u380, u381, u382, u383, u384, u385, u386, u387, u388, u389, u390, u391, u392, u393, u394, u395, u396, u397, u398, u399, u400, u401, u402, u403, u404, u405, u406, u407, u408, u409, u410, u411, u412, u413, u414, u415, u416, u417, u418, u419, u420, u421, u422, u423, u424, u425, u426, u427, u428, u429, u430, u431, u432, u433, u434, u435, u436, u437, u438, u439, u440, u441, u442, u443, u444, u445, u446, u447, u448, u449, u450, u451, u452, u453, u454, u455, u456, u457, u458, u459, u460, u461, u462, u463, u464, u465, u466, u467, u468, u469, u470, u471, u472, u473, u474, u475, u476, u477, u478, u479, u480, u481, u482, u483, u484, u485, u486, u487, u488, u489, u490, u491, u492, u493, u494, u495, u496, u497, u498, u499, u500, u501, u502, u503, u504, u505, u506, u507, u508, u509, u510, u511, u512, u513, u514, u515, u516, u517, u518, u519, u520, u521, u522, u523, u524, u525, u526, u527, u528, u529, u530, u531, u532, u533, u534, u535, u536, u537, u538, u539, u540, u541, u542, u543, u544, u545, u546, u547, u548, u549, u550, u551, u552, u553, u554, u555, u556, u557, u558, u559, u560, u561, u562, u563, u564, u565, u566, u567, u568, u569, u570, u571, u572, u573, u574, u575, u576, u577, u578, u579, u580, u581, u582, u583, u584, u585, u586, u587, u588, u589, u590, u591, u592, u593, u594, u595, u596, u597, u598, u599, u600, u601, u602, u603, u604, u605, u606, u607, u608, u609, u610, u611, u612, u613, u614, u615, u616, u617, u618, u619, u620, u621, u622, u623, u624, u625, u626, u627, u628, u629, u630], []⟩ w := by
  conv => arg 2; whnf
  have HQ := Lib.hid hQ
  clear hQ
  have ig0 : (0 : Int) ≤ (g : Int) := by omega
  have ig1 : (g : Int) < 2 := by omega
  have ic0 : (0 : Int) ≤ (c : Int) := by omega
  have ic1 : (c : Int) < 2 := by omega
  have hX := hx
  have c89 := h.cellF (89 + g * 2 + c) (by omega)
  rw [hy] at c89
  have HX := Lib.hid (And.intro hx (And.intro hT0 (And.intro hT1 hT2)))
  have HL := Lib.hid hlin
  obtain ⟨t00, t01, t02, t03⟩ := topOf_le T0 k0
  obtain ⟨t10, t11, t12, t13⟩ := topOf_le T1 k1
  obtain ⟨t20, t21, t22, t23⟩ := topOf_le T2 k2
  have HK := Lib.hid (And.intro k0 (And.intro k1 k2))
  clear hx hX hy hT0 hT1 hT2 hlin k0 k1 k2
  have H := Lib.hid h
  clear h
  go_wp2_with fail
  clear c89
  go_loopw [493] (fun a wr => ∃ k : Nat, (k : Int) ≤ y ∧ a = .int .i64 k ∧ ∃ t1, Hid (FM w0 N h7 va vl vc t1 S L wr) ∧ t1 ≤ t + k ∧ Hid (LinR wr lb (topAt T0 T1 T2 one two x) k)) (fun a _ => y.toNat - (intOf a).toNat)
  case atStart => exact ⟨0, by omega, rfl, t, H, by omega, HL⟩
  case round =>
    clear H HL
    obtain ⟨k, hk, rfl, t1, H, ht1, HL⟩ := hrel
    by_cases hlt : (k : Int) < y
    · have d1 : decide ((k : Int) < y) = true := decide_eq_true hlt
      have HLT : Hid (lb < wr.heap.size) := Lib.hid (by obtain ⟨u, hu⟩ := HL.out.cell 0 (by omega); exact block_lt_of_cell hu)
      have c21 := H.out.cellF (21 + g * 2 + c) (by omega)
      rw [HX.out.1] at c21
      by_cases hbig : (k : Int) < 2 * x
      · have ep : ((k / 2 * 2 : Nat) : Int) = (k : Int) / 2 * 2 := by omega
        have cT0 := H.out.cellF (45 + g * 6 + c * 3) (by omega)
        rw [HX.out.2.1] at cT0
        have cT1 := H.out.cellF (45 + g * 6 + c * 3 + 1) (by omega)
        rw [HX.out.2.2.1] at cT1
        have cT2 := H.out.cellF (45 + g * 6 + c * 3 + 2) (by omega)
        rw [HX.out.2.2.2] at cT2
        by_cases h2 : two ≤ (k : Int) / 2 * 2
        · have etop : topAt T0 T1 T2 one two x k = topOf T2 := by unfold topAt tabAt; rw [if_pos hbig, ep, if_pos h2]
          have HE := Lib.hid etop
          obtain ⟨tp, htp⟩ : ∃ tp, tp = topOf T2 := ⟨_, rfl⟩
          have tp0 : 0 ≤ tp ∧ tp ≤ 5 := by omega
          have ht := top_cell wr T2 HK.out.2.2
          rw [← htp] at ht
          have HT := Lib.hid htp
          obtain ⟨tp1, tp2⟩ := tp0
          clear etop htp
          go_wp2_with fail
          refine (FM.next (H.out.call (stpA (stp0 wr) _)) _ ?_ ?_ (by omega) hvl).mono ?_
          · omega
          · omega
          rintro e w2 ⟨r, rfl, r0, r1, HF, hsz, hho⟩
          have HL2 := Lib.hid (HL.out.same ((hho lb (by omega)).trans (heap_alloc_old wr _ HLT.out)))
          have H6 := Lib.hid HF
          obtain ⟨u, cu⟩ := HL2.out.cell k (by omega)
          have fu := HL2.out.free k
          clear HF hho
          go_wp2_with fail
          exact ⟨⟨k + 1, by omega, by go_num, _, Lib.hid (H6.out.setO lb k _ hlb), by omega, Lib.hid (HL2.out.next (by omega) _ (by rw [HE.out, ← HT.out]; omega) (by rw [HE.out, ← HT.out]; omega))⟩, by simp [intOf]; omega⟩
        · by_cases h1 : one ≤ (k : Int) / 2 * 2
          · have etop : topAt T0 T1 T2 one two x k = topOf T1 := by unfold topAt tabAt; rw [if_pos hbig, ep, if_neg h2, if_pos h1]
            have HE := Lib.hid etop
            obtain ⟨tp, htp⟩ : ∃ tp, tp = topOf T1 := ⟨_, rfl⟩
            have tp0 : 0 ≤ tp ∧ tp ≤ 5 := by omega
            have ht := top_cell wr T1 HK.out.2.1
            rw [← htp] at ht
            have HT := Lib.hid htp
            obtain ⟨tp1, tp2⟩ := tp0
            clear etop htp
            go_wp2_with fail
            refine (FM.next (H.out.call (stpA (stp0 wr) _)) _ ?_ ?_ (by omega) hvl).mono ?_
            · omega
            · omega
            rintro e w2 ⟨r, rfl, r0, r1, HF, hsz, hho⟩
            have HL2 := Lib.hid (HL.out.same ((hho lb (by omega)).trans (heap_alloc_old wr _ HLT.out)))
            have H6 := Lib.hid HF
            obtain ⟨u, cu⟩ := HL2.out.cell k (by omega)
            have fu := HL2.out.free k
            clear HF hho
            go_wp2_with fail
            exact ⟨⟨k + 1, by omega, by go_num, _, Lib.hid (H6.out.setO lb k _ hlb), by omega, Lib.hid (HL2.out.next (by omega) _ (by rw [HE.out, ← HT.out]; omega) (by rw [HE.out, ← HT.out]; omega))⟩, by simp [intOf]; omega⟩
          · have etop : topAt T0 T1 T2 one two x k = topOf T0 := by unfold topAt tabAt; rw [if_pos hbig, ep, if_neg h2, if_neg h1]
            have HE := Lib.hid etop
            obtain ⟨tp, htp⟩ : ∃ tp, tp = topOf T0 := ⟨_, rfl⟩
            have tp0 : 0 ≤ tp ∧ tp ≤ 5 := by omega
            have ht := top_cell wr T0 HK.out.1
            rw [← htp] at ht
            have HT := Lib.hid htp
            obtain ⟨tp1, tp2⟩ := tp0
            clear etop htp
            go_wp2_with fail
            refine (FM.next (H.out.call (stpA (stp0 wr) _)) _ ?_ ?_ (by omega) hvl).mono ?_
            · omega
            · omega
            rintro e w2 ⟨r, rfl, r0, r1, HF, hsz, hho⟩
            have HL2 := Lib.hid (HL.out.same ((hho lb (by omega)).trans (heap_alloc_old wr _ HLT.out)))
            have H6 := Lib.hid HF
            obtain ⟨u, cu⟩ := HL2.out.cell k (by omega)
            have fu := HL2.out.free k
            clear HF hho
            go_wp2_with fail
            exact ⟨⟨k + 1, by omega, by go_num, _, Lib.hid (H6.out.setO lb k _ hlb), by omega, Lib.hid (HL2.out.next (by omega) _ (by rw [HE.out, ← HT.out]; omega) (by rw [HE.out, ← HT.out]; omega))⟩, by simp [intOf]; omega⟩
      · have h2x : 2 * x ≤ (k : Int) := by omega
        have etop : topAt T0 T1 T2 one two x k = 1 := by unfold topAt; rw [if_neg hbig]
        have HE := Lib.hid etop
        clear hbig etop
        go_wp2_with fail
        refine (FM.next H.out _ ?_ ?_ (by omega) hvl).mono ?_
        · omega
        · omega
        rintro e w2 ⟨r, rfl, r0, r1, HF, hsz, hho⟩
        have HL2 := Lib.hid (HL.out.same (hho lb (by omega)))
        have H6 := Lib.hid HF
        obtain ⟨u, cu⟩ := HL2.out.cell k (by omega)
        have fu := HL2.out.free k
        clear HF hho
        go_wp2_with fail
        exact ⟨⟨k + 1, by omega, by go_num, _, Lib.hid (H6.out.setO lb k _ hlb), by omega, Lib.hid (HL2.out.next (by omega) _ (by rw [HE.out]; omega) (by rw [HE.out]; omega))⟩, by simp [intOf]; omega⟩
    · have hke : y.toNat = k := by omega
      have HKE := Lib.hid hke
      have hky : (k : Int) = y := by omega
      rw [hky]
      clear hke hky
      go_wp2_with fail
      exact HQ.out _ _ _ _ _ _ _ _ _ _ _ _ _ _ _ _ _ _ _ _ _ _ _ _ _ _ _ _ _ _ _ _ _ _ _ _ _ _ _ _ _ _ _ _ _ _ _ _ _ _ _ _ _ _ _ _ _ _ _ _ _ _ _ _ _ _ _ _ _ _ _ _ _ _ _ _ _ _ _ _ _ _ ⟨H.out, by omega, by rw [HKE.out]; exact HL.out⟩

end Go.Proofs.YtppfldobgemddaaDoor
