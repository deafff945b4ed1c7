/-
  The outer loops of laws.frameOf; The items of the loop within laws.frameOf, over frames by their named slots.
-/
import Derived.Test.YtppfldobgemddaaDoorMe
import Derived.Test.YtppfldobgemddaaDoorMf
import Derived.Outline
import Derived.Test.YtppfldobgemddaaDoorGc
import Derived.Test.YtppfldobgemddaaDoorMp
import Derived.Test.YtppfldobgemddaaDoorGk
import Derived.Deep.RegionHeld3
import Derived.Deep.RegionWith
import Derived.Deep.DrawnRows
import Derived.Test.YtppfldobgemddaaDoorHg
import Derived.BigFrame
namespace Go.Proofs.YtppfldobgemddaaDoor
open Go.RowKit
set_option linter.unusedVariables false

/-- What the second loops make of the frame. -/
def ScR (S S' : Nat → Int) (m : Nat) : Prop := MainB S' ∧ (∀ j, j < 93 → (j < 9 ∨ 9 + m * 4 ≤ j) → S' j = S j) ∧ ∀ j, 9 ≤ j → j < 9 + m * 4 → S' j = 0 ∨ S' j = 1
theorem ScR.sc {S S' : Nat → Int} {m : Nat} (h : ScR S S' m) (j : Nat) (j0 : 9 ≤ j) (j1 : j < 9 + m * 4) (hm : m ≤ 2) : ScR S (upd S' j 1) m := by
  refine ⟨fun i i0 i1 => ?_, fun i i0 i1 => ?_, fun i i0 i1 => ?_⟩
  · rw [upd_not _ _ _ _ (by omega)]; exact h.1 i i0 i1
  · rw [upd_not _ _ _ _ (by omega)]; exact h.2.1 i i0 i1
  · by_cases e : i = j
    · subst e; rw [upd_at]; exact .inr rfl
    · rw [upd_not _ _ _ _ e]; exact h.2.2 i i0 i1
theorem ScR.main {S S' : Nat → Int} {m : Nat} (h : ScR S S' m) (j i : Nat) (j0 : 93 ≤ j) (i0 : 93 ≤ i) (i1 : i < 337) (hm : m ≤ 2) : ScR S (upd S' j (S' i)) m := by
  refine ⟨fun q q0 q1 => ?_, fun q q0 q1 => ?_, fun q q0 q1 => ?_⟩
  · by_cases e : q = j
    · subst e; rw [upd_at]; exact h.1 i i0 i1
    · rw [upd_not _ _ _ _ e]; exact h.1 q q0 q1
  · rw [upd_not _ _ _ _ (by omega)]; exact h.2.1 q q0 q1
  · rw [upd_not _ _ _ _ (by omega)]; exact h.2.2 q q0 q1
/-- Which part a band belongs to. -/
def partL : List Int := [0, 0, 0, 0, 0, 0, 1, 1, 1, 1, 1, 2, 2, 2, 2, 2, 3, 3, 3, 3, 3]
def part21 : Array Value := #[.int .i64 0, .int .i64 0, .int .i64 0, .int .i64 0, .int .i64 0, .int .i64 0, .int .i64 1, .int .i64 1, .int .i64 1, .int .i64 1, .int .i64 1, .int .i64 2, .int .i64 2, .int .i64 2, .int .i64 2, .int .i64 2, .int .i64 3, .int .i64 3, .int .i64 3, .int .i64 3, .int .i64 3]
theorem part_cell (w : World) (q : Nat) (h : q < 21) : (w.alloc (.cells #[.int .i64 0, .int .i64 0, .int .i64 0, .int .i64 0, .int .i64 0, .int .i64 0, .int .i64 1, .int .i64 1, .int .i64 1, .int .i64 1, .int .i64 1, .int .i64 2, .int .i64 2, .int .i64 2, .int .i64 2, .int .i64 2, .int .i64 3, .int .i64 3, .int .i64 3, .int .i64 3, .int .i64 3] 3)).cell? ⟨w.heap.size, q, none⟩ = some (.int .i64 (partL.getD q 0)) := by
  rw [cell_of_row _ w.heap.size _ _ 3 (0, 0) (heap_alloc_last _ _), show #[Value.int .i64 0, .int .i64 0, .int .i64 0, .int .i64 0, .int .i64 0, .int .i64 0, .int .i64 1, .int .i64 1, .int .i64 1, .int .i64 1, .int .i64 1, .int .i64 2, .int .i64 2, .int .i64 2, .int .i64 2, .int .i64 2, .int .i64 3, .int .i64 3, .int .i64 3, .int .i64 3, .int .i64 3] = (partL.map (Value.int .i64)).toArray from rfl, List.getElem?_toArray, List.getElem?_map, List.getElem?_eq_getElem (show q < partL.length from h), List.getD_eq_getElem?_getD, List.getElem?_eq_getElem (show q < partL.length from h)]; rfl
/-- A load of a row, where its guard is met. -/
theorem wpList_load_want {P : Program} {ops : Array Oper} {rest : List Oper} {op : Oper} {a : Act} {w : World} {Q : Exit → Act → World → Prop} (hw : Region.wanted op (yielded ops a.tmps) = true) (ty : TypeId) (x : Operand) (ho : op.op = .load ty x)
    (b o : Nat) (hx : a.eval x = .pointer (some ⟨b, o, none⟩)) (cs : List Value) (d : TypeDesc) (hc : w.rangeAt b o cs)
    (hu : P.underlying ty = some d) (hd : d.isRow = true) (hi : (P.info? ty).map (·.size) = some cs.length)
    (h : wpList P ops Q rest (a.put op.dst (.agg cs.toArray)) w) : wpList P ops Q (op :: rest) a w :=
  BigFrame.wpList_want hw fun _ hK => wp_load_mid ty x ho b o hx cs d hc hu hd hi (hK _ _ h)
set_option maxRecDepth 1000000 in
set_option maxHeartbeats 8000000 in
theorem hrS {w0 : Origin} {N : Nat} {h7 : Array Value} {va : Option Addr} {vl vc t : Nat} {S : Nat → Int} {L : Nat → Value} (na : Option Addr) (nl nc : Nat) (n : Int) (g c : Nat) (hg : g < 2) (hc : c < 2) (hB hR hP hM hJ hV hK : Int) (hh7 : h7 = #[.int .i64 hB, .int .i64 hR, .int .i64 hP, .int .i64 hM, .int .i64 hJ, .int .i64 hV, .int .i64 hK]) (m : Nat) (hm : chans hM = m) (hm2 : m ≤ 2) (ht : t ≤ 900000) (hvl : vl ≤ 1000) (hsc : ScR S S m) (u0 u2 u4 u5 u6 u7 u8 u12 u13 u14 u15 u16 u17 u18 u19 u20 u21 u22 u23 u24 u25 u26 u27 u28 u29 u30 u31 u32 u33 u34 u35 u36 u37 u38 u39 u40 u41 u42 u43 u44 u45 u46 u47 u48 u49 u50 u51 u52 u53 u54 u55 u56 u57 u58 u59 u60 u61 u62 u63 u64 u65 u66 u67 u68 u69 u70 u71 u72 u73 u74 u75 u76 u77 u78 u79 u80 u81 u82 u83 u84 u85 u86 u87 u88 u89 u90 u91 u92 u93 u94 u95 u96 u97 u98 u99 u100 u101 u102 u103 u104 u105 u106 u107 u108 u109 u110 u111 u112 u113 u114 u115 u116 u117 u118 u119 u120 u121 u122 u123 u124 u125 u126 u127 u128 u129 u130 u131 u132 u133 u134 u135 u136 u137 u138 u139 u140 u141 u142 u143 u144 u145 u146 u147 u148 u149 u150 u151 u152 u153 u154 u155 u156 u157 u158 u159 u160 u161 u162 u163 u164 u165 u166 u167 u168 u169 u170 u171 u172 u173 u174 u175 u176 u177 u178 u179 u180 u181 u182 u183 u184 u185 u186 u187 u188 u189 u190 u191 u192 u193 u194 u195 u196 u197 u198 u199 u200 u201 u202 u203 u204 u205 u206 u207 u208 u209 u210 u211 u212 u213 u214 u215 u216 u217 u218 u219 u220 u221 u222 u223 u224 u225 u226 u227 u228 u229 u230 u231 u232 u233 u234 u235 u236 u237 u238 u239 u240 u241 u242 u243 u244 u245 u246 u247 u248 u249 u250 u251 u252 u253 u254 u255 u256 u257 u258 u259 u260 u261 u262 u263 u264 u265 u266 u267 u268 u269 u270 u271 u272 u273 u274 u275 u276 u277 u278 u279 u280 u281 u282 u283 u284 u285 u286 u287 u288 u289 u290 u291 u292 u293 u294 u295 u296 u297 u298 u299 u300 u301 u302 u303 u304 u305 u306 u307 u308 u309 u310 u311 u312 u313 u314 u315 u316 u317 u318 u319 u320 u321 u322 u323 u324 u325 u326 u327 u328 u329 u330 u331 u332 u333 u334 u335 u336 u337 u338 u339 u340 u341 u342 u343 u344 u345 u346 u347 u348 u349 u350 u351 u352 u353 u354 u355 u356 u357 u358 u359 u360 u361 u362 u363 u364 u365 u366 u367 u368 u369 u370 u371 u372 u373 u374 u375 u376 u377 u378 u379 u380 u381 u382 u383 u384 u385 u386 u387 u388 u389 u390 u391 u392 u393 u394 u395 u396 u397 u398 u399 u400 u401 u402 u403 u404 u405 u406 u407 u408 u409 u410 u411 u412 u413 u414 u415 u416 u417 u418 u419 u420 u421 u422 u423 u424 u425 u426 u427 u428 u429 u430 u431 u432 u433 u434 u435 u436 u437 u438 u439 u440 u441 u442 u443 u444 u445 u446 u447 u448 u449 u450 u451 u452 u453 u454 u455 u456 u457 u458 u459 u460 u461 u462 u463 u464 u465 u466 u467 u468 u469 u470 u471 u472 u473 u474 u475 u476 u477 u478 u479 u480 u481 u482 u483 u484 u485 u486 u487 u488 u489 u490 u491 u492 u493 u494 u495 u496 u497 u498 u499 u500 u501 u502 u503 u504 u505 u506 u507 u508 u509 u510 u511 u512 u513 u514 u515 u516 u517 u518 u519 u520 u521 u522 u523 u524 u525 u526 u527 u528 u529 u530 u531 u532 u533 u534 u535 u536 u537 u538 u539 u540 u541 u542 u543 u544 u545 u546 u547 u548 u549 u550 u551 u552 u553 u554 u555 u556 u557 u558 u559 u560 u561 u562 u563 u564 u565 u566 u567 u568 u569 u570 u571 u572 u573 u574 u575 u576 u577 u578 u579 u580 u581 u582 u583 u584 u585 u586 u587 u588 u589 u590 u591 u592 u593 u594 u595 u596 u597 u598 u599 u600 u601 u602 u603 u604 u605 u606 u607 u608 u609 u610 u611 u612 u613 u614 u615 u616 u617 u618 u619 u620 u621 u622 u623 u624 u625 u626 u627 u628 u629 u630 : Value) (w : World) (h : FM w0 N h7 va vl vc t S L w)  (Q : Exit → Act → World → Prop)
    (hQ : ∀ (v32 v33 v34 v571 v572 v573 v574 v575 v576 v577 v578 v579 v580 v581 v582 v583 v584 v585 v586 v587 v588 v589 v590 v591 v592 v593 v594 v595 v596 v597 v598 v599 v600 v601 v602 v603 v604 v605 v606 v607 v608 v609 v610 v611 v612 v613 v614 v615 v616 v617 v618 v619 v620 v621 v622 v623 v624 v625 v626 v627 v628 v629 : Value) (S' : Nat → Int) (t' : Nat) (w' : World), (FM w0 N h7 va vl vc t' S' L w' ∧ ScR S S' m ∧ t' ≤ t + 50) → Q .normal ⟨#[u0, .slice na nl nc, u2, .pointer (some ⟨N, 0, none⟩), u4, u5, u6, u7, u8, .func (.func 24) #[] #[.pointer (some ⟨N + 4, 0, none⟩), .pointer (some ⟨N + 1, 0, none⟩)], .pointer (some ⟨N + 3, 7, none⟩), .pointer (some ⟨N + 3, 93, none⟩), u12, u13, u14, u15, u16, u17, u18, u19, u20, u21, u22, u23, u24, u25, u26, u27, u28, u29, u30, u31, v32, v33, v34, u35, u36, u37, u38, u39, u40, u41, u42, u43, u44, u45, u46, u47, u48, u49, u50, u51, u52, u53, u54, u55, u56, u57, u58, u59, u60, u61, u62, u63, u64, u65, u66, u67, u68, u69, u70, u71, u72, u73, u74, u75, u76, u77, u78, u79, u80, u81, u82, u83, u84, u85, u86, u87, u88, u89, u90, u91, u92, u93, u94, u95, u96, u97, u98, u99, u100, u101, u102, u103, u104, u105, u106, u107, u108, u109, u110, u111, u112, u113, u114, u115, u116, u117, u118, u119, u120, u121, u122, u123, u124, u125, u126, u127, u128, u129, u130, u131, u132, u133, u134, u135, u136, u137, u138, u139, u140, u141, u142, u143, u144, u145, u146, u147, u148, u149, u150, u151, u152, u153, u154, u155, u156, u157, u158, u159, u160, u161, u162, u163, u164, u165, u166, u167, u168, u169, u170, u171, u172, u173, u174, u175, u176, u177, u178, u179, u180, u181, u182, u183, u184, u185, u186, u187, u188, u189, u190, u191, u192, u193, u194, u195, u196, u197, u198, u199, u200, u201, u202, u203, u204, u205, u206, u207, u208, u209, u210, u211, u212, u213, u214, u215, u216, u217, u218, u219, u220, u221, u222, u223, u224, u225, u226, u227, u228, u229, u230, u231, u232, u233, u234, u235, u236, u237, u238, u239, u240, u241, u242, u243, u244, u245, u246, u247, u248, u249, u250, u251, u252, u253, u254, u255, u256, u257, u258, u259, u260, u261, u262, u263, u264, u265, u266, u267, u268, u269, u270, u271, u272, u273, u274, u275, u276, u277, u278, u279, u280, u281, u282, u283, u284, u285, u286, u287, u288, u289, u290, u291, u292, u293, u294, u295, u296, u297, u298, u299, u300, u301, u302, u303, u304, u305, u306, u307, u308, u309, u310, u311, u312, u313, u314, u315, u316, u317, u318, u319, u320, u321, u322, u323, u324, u325, u326, u327, u328, u329, u330, u331, u332, u333, u334, u335, u336, u337, u338, u339, u340, u341, u342, u343, u344, u345, u346, u347, u348, u349, u350, u351, u352, u353, u354, u355, u356, u357, u358, u359, u360, u361, u362, u363, u364, u365, u366, u367, u368, u369, u370, u371, u372, u373, u374, u375, u376, u377, u378, u379, u380, u381, u382, u383, u384, u385, u386, u387, u388, u389, u390, u391, u392, u393, u394, u395, u396, u397, u398, u399, u400, u401, u402, u403, u404, u405, u406, u407, u408, u409, u410, u411, u412, u413, u414, u415, u416, u417, u418, u419, u420, u421, u422, u423, u424, u425, u426, u427, u428, u429, u430, u431, u432, u433, u434, u435, u436, u437, u438, u439, u440, u441, u442, u443, u444, u445, u446, u447, u448, u449, u450, u451, u452, u453, u454, u455, u456, u457, u458, u459, u460, u461, u462, u463, u464, u465, u466, u467, u468, u469, u470, u471, u472, u473, u474, u475, u476, u477, u478, u479, u480, u481, u482, u483, u484, u485, u486, u487, u488, u489, u490, u491, u492, u493, u494, u495, u496, u497, u498, u499, u500, u501, u502, u503, u504, u505, u506, u507, u508, u509, u510, u511, u512, u513, u514, u515, u516, u517, u518, u519, u520, u521, u522, u523, u524, u525, u526, u527, u528, u529, u530, u531, u532, u533, u534, u535, u536, u537, u538, u539, u540, u541, u542, u543, u544, u545, u546, u547, u548, u549, u550, u551, u552, u553, u554, u555, u556, u557, u558, u559, u560, u561, u562, u563, u564, u565, u566, u567, u568, u569, u570, v571, v572, v573, v574, v575, v576, v577, v578, v579, v580, v581, v582, v583, v584, v585, v586, v587, v588, v589, v590, v591, v592, v593, v594, v595, v596, v597, v598, v599, v600, v601, v602, v603, v604, v605, v606, v607, v608, v609, v610, v611, v612, v613, v614, v615, v616, v617, v618, v619, v620, v621, v622, v623, v624, v625, v626, v627, v628, v629, u630], []⟩ w') :
    Code.wp Tryd.prog frS Q ⟨#[u0, .slice na nl nc, u2, .pointer (some ⟨N, 0, none⟩), u4, u5, u6, u7, u8, .func (.func 24) #[] #[.pointer (some ⟨N + 4, 0, none⟩), .pointer (some ⟨N + 1, 0, none⟩)], .pointer (some ⟨N + 3, 7, none⟩), .pointer (some ⟨N + 3, 93, none⟩), u12, u13, u14, u15, u16, u17, u18, u19, u20, u21, u22, u23, u24, u25, u26, u27, u28, u29, u30, u31, u32, u33, u34, u35, u36, u37, u38, u39, u40, u41, u42, u43, u44, u45, u46, u47, u48, u49, u50, u51, u52, u53, u54, u55, u56, u57, u58, u59, u60, u61, u62, u63, u64, u65, u66, u67, u68, u69, u70, u71, u72, u73, u74, u75, u76, u77, u78, u79, u80, u81, u82, u83, u84, u85, u86, u87, u88, u89, u90, u91, u92, u93, u94, u95, u96, u97, u98, u99, u100, u101, u102, u103, u104, u105, u106, u107, u108, u109, u110, u111, u112, u113, u114, u115, u116, u117, u118, u119, u120, u121, u122, u123, u124, u125, u126, u127, u128, u129, u130, u131, u132, u133, u134, u135, u136, u137, u138, u139, u140, u141, u142, u143, u144, u145, u146, u147, u148, u149, u150, u151, u152, u153, u154, u155, u156, u157, u158, u159, u160, u161, u162, u163, u164, u165, u166, u167, u168, u169, u170, u171, u172, u173, u174, u175, u176, u177, u178, u179, u180, u181, u182, u183, u184, u185, u186, u187, u188, u189, u190, u191, u192, u193, u194, u195, u196, u197, u198, u199, u200, u201, u202, u203, u204, u205, u206, u207, u208, u209, u210, u211, u212, u213, u214, u215, u216, u217, u218, u219, u220, u221, u222, u223, u224, u225, u226, u227, u228, u229, u230, u231, u232, u233, u234, u235, u236, u237, u238, u239, u240, u241, u242, u243, u244, u245, u246, u247, u248, u249, u250, u251, u252, u253, u254, u255, u256, u257, u258, u259, u260, u261, u262, u263, u264, u265, u266, u267, u268, u269, u270, u271, u272, u273, u274, u275, u276, u277, u278, u279, u280, u281, u282, u283, u284, u285, u286, u287, u288, u289, u290, u291, u292, u293, u294, u295, u296, u297, u298, u299, u300, u301, u302, u303, u304, u305, u306, u307, u308, u309, u310, u311, u312, u313, u314, u315, u316, u317, u318, u319, u320, u321, u322, u323, u324, u325, u326, u327, u328, u329, u330, u331, u332, u333, u334, u335, u336, u337, u338, u339, u340, u341, u342, u343, u344, u345, u346, u347, u348, u349, u350, u351, u352, u353, u354, u355, u356, u357, u358, u359, u360, u361, u362, u363, u364, u365, u366, u367, u368, u369, u370, u371, u372, u373, u374, u375, u376, u377, u378, u379, u380, u381, u382, u383, u384, u385, u386, u387, u388, u389, u390, u391, u392, u393, u394, u395, u396, u397, u398, u399, u400, u401, u402, u403, u404, u405, u406, u407, u408, u409, u410, u411, u412, u413, u414, u415, u416, u417, u418, u419, u420, u421, u422, u423, u424, u425, u426, u427, u428, u429, u430, u431, u432, u433, u434, u435, u436, u437, u438, u439, u440, u441, u442, u443, u444, u445, u446, u447, u448, u449, u450, u451, u452, u453, u454, u455, u456, u457, u458, u459, u460, u461, u462, u463, u464, u465, u466, u467, u468, u469, u470, u471, u472, u473, u474, u475, u476, u477, u478, u479, u480, u481, u482, u483, u484, u485, u486, u487, u488, u489, u490, u491, u492, u493, u494, u495, u496, u497, u498, u499, u500, u501, u502, u503, u504, u505, u506, u507, u508, u509, u510, u511, u512, u513, u514, u515, u516, u517, u518, u519, u520, u521, u522, u523, u524, u525, u526, u527, u528, u529, u530, u531, u532, u533, u534, u535, u536, u537, u538, u539, u540, u541, u542, u543, u544, u545, u546, u547, u548, u549, u550, u551, u552, u553, u554, u555, u556, u557, u558, u559, u560, u561, u562, u563, u564, u565, u566, u567, u568, u569, u570, u571, u572, u573, u574, u575, u576, u577, u578, u579, u580, u581, u582, u583, u584, u585, u586, u587, u588, u589, u590, u591, u592, u593, u594, u595, u596, u597, u598, u599, u600, u601, u602, u603, u604, u605, u606, u607, u608, u609, u610, u611, u612, u613, u614, u615, u616, u617, u618, u619, u620, u621, u622, u623, u624, u625, u626, u627, u628, u629, u630], []⟩ w := by
  conv => arg 2; whnf
  have HQ := Lib.hid hQ
  clear hQ
  have hh := h.held hh7 rfl
  obtain ⟨c0, c1, c2, c3, c4, c5, c6, -⟩ := hh
  have HM := Lib.hid hsc
  clear hsc
  have H := Lib.hid h
  clear h
  go_wp2_with fail
  refine (chans_any hB hR hP hM hJ hV hK _).mono ?_
  rintro e w1 ⟨rfl, hb⟩
  have H1 := Lib.hid (H.out.call hb)
  clear hb H c0 c1 c2 c3 c4 c5 c6
  rw [hm]
  go_wp2_with fail
  go_loopw [573] (fun x wr => ∃ k : Nat, k ≤ m ∧ x = .int .i64 k ∧ ∃ S1 t1, Hid (FM w0 N h7 va vl vc t1 S1 L wr) ∧ Hid (ScR S S1 m) ∧ t1 ≤ t + 4 * k) (fun x _ => m - (intOf x).toNat)
  case atStart => exact ⟨0, by omega, rfl, _, _, H1, HM, by omega⟩
  case round =>
    clear H1 HM
    obtain ⟨k, hk, rfl, S1, t1, H1, HM, ht1⟩ := hrel
    by_cases hlt : k < m
    · have d1 : decide ((k : Int) < (m : Int)) = true := decide_eq_true (by omega)
      have ik0 : (0 : Int) ≤ (k : Int) := by omega
      have ik1 : (k : Int) < 2 := by omega
      have HR := Lib.hid H1.out.side
      obtain ⟨b0, hb0⟩ : ∃ b0, b0 = shortB (fun i => S1 (7 + i)) 0 k := ⟨_, rfl⟩
      obtain ⟨b1, hb1⟩ : ∃ b1, b1 = shortB (fun i => S1 (7 + i)) 1 k := ⟨_, rfl⟩
      go_wp2_with (refine wpList_load_mid rfl 47 (.tmp 577) rfl (N + 3) 7 rfl (numL 86 (fun i => S1 (7 + i))) _ HR.out Tryd.underlying47 rfl (by rw [numL_len]; kernel_rfl) ?_)
      refine (short_any (fun i => S1 (7 + i)) 0 k (by decide) (by omega) _).mono ?_
      rintro e w2 ⟨rfl, hb⟩
      have H2 := Lib.hid (H1.out.call hb)
      clear hb HR
      rw [← hb0]
      clear H1 hb0
      cases b0
      · have HR := Lib.hid H2.out.side
        go_wp2_with (refine wpList_load_want (by rfl) 47 (.tmp 583) rfl (N + 3) 7 rfl (numL 86 (fun i => S1 (7 + i))) _ HR.out Tryd.underlying47 rfl (by rw [numL_len]; kernel_rfl) ?_)
        refine (short_any (fun i => S1 (7 + i)) 1 k (by decide) (by omega) _).mono ?_
        rintro e w3 ⟨rfl, hb⟩
        have H3 := Lib.hid (H2.out.call hb)
        clear hb HR
        rw [← hb1]
        clear hb1 H2
        cases b1
        · go_wp2_with fail
          go_loopw [588] (fun x wr => ∃ p : Nat, p ≤ 4 ∧ x = .int .i64 p ∧ ∃ S2 t2, Hid (FM w0 N h7 va vl vc t2 S2 L wr) ∧ Hid (ScR S S2 m) ∧ t2 ≤ t + 4 * k + p) (fun x _ => 4 - (intOf x).toNat)
          case atStart => exact ⟨0, by omega, rfl, _, _, H3, HM, by omega⟩
          case round =>
            clear H3 HM
            obtain ⟨p, hp, rfl, S2, t2, H2, HM2, ht2⟩ := hrel
            by_cases hlt2 : p < 4
            · have d2 : decide ((p : Int) < 4) = true := decide_eq_true (by omega)
              have ip0 : (0 : Int) ≤ (p : Int) := by omega
              have ip1 : (p : Int) < 4 := by omega
              go_wp2_with fail
              refine (FM.next H2.out (3 : Int) (by decide) (by decide) (by omega) hvl).mono ?_
              rintro e w3 ⟨r, rfl, r0, r1, HF, hsz, hho⟩
              have H3 := Lib.hid HF
              clear HF H2 hsz hho
              by_cases hr : 0 < r
              · have dr : decide (0 < r) = true := decide_eq_true hr
                go_wp2_with fail
                exact ⟨⟨p + 1, by omega, by go_num, _, _, H3, HM2, by omega⟩, by simp [intOf]; omega⟩
              · have dr : decide (0 < r) = false := decide_eq_false hr
                have cc := H3.out.cellF (9 + k * 4 + p) (by omega)
                have fc := H3.out.freeF (9 + k * 4 + p)
                have H4 := Lib.hid (H3.out.setF (9 + k * 4 + p) 1 (by omega))
                have HM4 := Lib.hid (HM2.out.sc (9 + k * 4 + p) (by omega) (by omega) hm2)
                clear H3 HM2
                go_wp2_with fail
                go_loopw [601] (fun x wr => ∃ q : Nat, q ≤ 21 ∧ x = .int .i64 q ∧ ∃ S3, Hid (FM w0 N h7 va vl vc (t2 + 1) S3 L wr) ∧ Hid (ScR S S3 m)) (fun x _ => 21 - (intOf x).toNat)
                case atStart => exact ⟨0, by omega, rfl, _, H4, HM4⟩
                case round =>
                  clear H4 HM4
                  obtain ⟨q, hq, rfl, S3, H5, HM5⟩ := hrel
                  by_cases hlt3 : q < 21
                  · have d3 : decide ((q : Int) < 21) = true := decide_eq_true (by omega)
                    have iq0 : (0 : Int) ≤ (q : Int) := by omega
                    have iq1 : (q : Int) < 21 := by omega
                    have iq2 : (q : Int) < 22 := by omega
                    have cp := part_cell wr q hlt3
                    obtain ⟨pt, hpt⟩ : ∃ pt, pt = partL.getD q 0 := ⟨_, rfl⟩
                    rw [← hpt] at cp
                    have H6 := Lib.hid (H5.out.call (stpA (stp0 wr) (.cells #[.int .i64 0, .int .i64 0, .int .i64 0, .int .i64 0, .int .i64 0, .int .i64 0, .int .i64 1, .int .i64 1, .int .i64 1, .int .i64 1, .int .i64 1, .int .i64 2, .int .i64 2, .int .i64 2, .int .i64 2, .int .i64 2, .int .i64 3, .int .i64 3, .int .i64 3, .int .i64 3, .int .i64 3] 3)))
                    clear H5 hpt
                    by_cases hp : pt = (p : Int)
                    · have ca := H6.out.cellF (93 + k * 22 + q) (by omega)
                      have cb := H6.out.cellF (93 + 44 + k * 22 + q) (by omega)
                      have fb := H6.out.freeF (93 + 44 + k * 22 + q)
                      have dp : (pt == (p : Int)) = true := beq_iff_eq.2 hp
                      clear hp
                      obtain ⟨y, hy⟩ : ∃ y, y = S3 (93 + k * 22 + q) := ⟨_, rfl⟩
                      rw [← hy] at ca
                      have HY := Lib.hid hy
                      clear hy
                      have hne : ∀ v, ((wr.alloc (.cells #[.int .i64 0, .int .i64 0, .int .i64 0, .int .i64 0, .int .i64 0, .int .i64 0, .int .i64 1, .int .i64 1, .int .i64 1, .int .i64 1, .int .i64 1, .int .i64 2, .int .i64 2, .int .i64 2, .int .i64 2, .int .i64 2, .int .i64 3, .int .i64 3, .int .i64 3, .int .i64 3, .int .i64 3] 3)).setCell ⟨N + 3, 93 + 44 + k * 22 + q, none⟩ v).cell? ⟨N + 3, 93 + k * 22 + q, none⟩ = some (.int .i64 y) := fun v => by rw [cs_other (by intro e; injection e with _ e; omega)]; exact ca
                      go_wp2_with fail
                      go_region_held3 (fun w' => w'.cell? ⟨N + 3, 93 + k * 22 + q, none⟩ = some (.int .i64 y)) ((first | go_keep | exact hne _)) (fail)
                      go_wp2_with fail
                      have hy := HY.out
                      subst hy
                      exact ⟨⟨q + 1, by omega, by go_num, _, Lib.hid ((H6.out.setF (93 + 44 + k * 22 + q) _ (by omega)).drew), Lib.hid (HM5.out.main _ _ (by omega) (by omega) (by omega) hm2)⟩, by simp [intOf]; omega⟩
                    · have dp : (pt == (p : Int)) = false := beq_eq_false_iff_ne.2 hp
                      go_wp2_with fail
                      exact ⟨⟨q + 1, by omega, by go_num, _, H6, HM5⟩, by simp [intOf]; omega⟩
                  · obtain rfl : q = 21 := by omega
                    rw [show ((21 : Nat) : Int) = 21 from rfl]
                    go_wp2_with fail
                    exact ⟨⟨p + 1, by omega, by go_num, _, _, H5, HM5, by omega⟩, by simp [intOf]; omega⟩
            · obtain rfl : p = 4 := by omega
              rw [show ((4 : Nat) : Int) = 4 from rfl]
              go_wp2_with fail
              exact ⟨⟨k + 1, by omega, by go_num, _, _, H2, HM2, by omega⟩, by simp [intOf]; omega⟩
        · go_wp2_with fail
          exact ⟨⟨k + 1, by omega, by go_num, _, _, H3, HM, by omega⟩, by simp [intOf]; omega⟩
      · clear hb1
        go_wp2_with fail
        exact ⟨⟨k + 1, by omega, by go_num, _, _, H2, HM, by omega⟩, by simp [intOf]; omega⟩
    · obtain rfl : k = m := by omega
      have d1 : decide ((k : Int) < (k : Int)) = false := decide_eq_false (by omega)
      go_wp2_with fail
      exact HQ.out _ _ _ _ _ _ _ _ _ _ _ _ _ _ _ _ _ _ _ _ _ _ _ _ _ _ _ _ _ _ _ _ _ _ _ _ _ _ _ _ _ _ _ _ _ _ _ _ _ _ _ _ _ _ _ _ _ _ _ _ _ _ _ _ _ ⟨H1.out, HM.out, by omega⟩

end Go.Proofs.YtppfldobgemddaaDoor
namespace Go.Proofs.YtppfldobgemddaaDoor
open Go.RowKit
set_option linter.unusedVariables false

set_option maxRecDepth 1000000 in
set_option maxHeartbeats 4000000 in
theorem hrSw {w0 : Origin} {N : Nat} {h7 : Array Value} {va : Option Addr} {vl vc t : Nat} {S : Nat → Int} {L : Nat → Value} (na : Option Addr) (nl nc : Nat) (n : Int) (g c : Nat) (hg : g < 2) (hc : c < 2) (hB hR hP hM hJ hV hK : Int) (hh7 : h7 = #[.int .i64 hB, .int .i64 hR, .int .i64 hP, .int .i64 hM, .int .i64 hJ, .int .i64 hV, .int .i64 hK]) (m : Nat) (hm : chans hM = m) (hm2 : m ≤ 2) (ht : t ≤ 900000) (hvl : vl ≤ 1000) (hsc : ScR S S m) {x12 x13 x14 x15 x18 x19 x25 x26 x27 x40 x41 x44 x45 x46 : Value} (ac : Act) (w : World) (hf : Fr N na nl nc x12 x13 x14 x15 x18 x19 x25 x26 x27 x40 x41 x44 x45 x46 ac) (h : FM w0 N h7 va vl vc t S L w)  (Q : Exit → Act → World → Prop)
    (hQ : ∀ (S' : Nat → Int) (t' : Nat) (ac' : Act) (w' : World), Fr N na nl nc x12 x13 x14 x15 x18 x19 x25 x26 x27 x40 x41 x44 x45 x46 ac' → (FM w0 N h7 va vl vc t' S' L w' ∧ ScR S S' m ∧ t' ≤ t + 50) → Q .normal ac' w') :
    Code.wp Tryd.prog frS Q ac w := by
  obtain ⟨f, rfl, he⟩ := hf.opened
  obtain ⟨e1, e3, e6, e7, e9, e10, e11, e12, e13, e14, e15, e18, e19, e25, e26, e27, e40, e41, e44, e45, e46⟩ := he
  unfold mkA
  rw [e1, e3, e9, e10, e11]
  refine hrS na nl nc n g c hg hc hB hR hP hM hJ hV hK hh7 m hm hm2 ht hvl hsc (f 0) (f 2) (f 4) (f 5) (f 6) (f 7) (f 8) (f 12) (f 13) (f 14) (f 15) (f 16) (f 17) (f 18) (f 19) (f 20) (f 21) (f 22) (f 23) (f 24) (f 25) (f 26) (f 27) (f 28) (f 29) (f 30) (f 31) (f 32) (f 33) (f 34) (f 35) (f 36) (f 37) (f 38) (f 39) (f 40) (f 41) (f 42) (f 43) (f 44) (f 45) (f 46) (f 47) (f 48) (f 49) (f 50) (f 51) (f 52) (f 53) (f 54) (f 55) (f 56) (f 57) (f 58) (f 59) (f 60) (f 61) (f 62) (f 63) (f 64) (f 65) (f 66) (f 67) (f 68) (f 69) (f 70) (f 71) (f 72) (f 73) (f 74) (f 75) (f 76) (f 77) (f 78) (f 79) (f 80) (f 81) (f 82) (f 83) (f 84) (f 85) (f 86) (f 87) (f 88) (f 89) (f 90) (f 91) (f 92) (f 93) (f 94) (f 95) (f 96) (f 97) (f 98) (f 99) (f 100) (f 101) (f 102) (f 103) (f 104) (f 105) (f 106) (f 107) (f 108) (f 109) (f 110) (f 111) (f 112) (f 113) (f 114) (f 115) (f 116) (f 117) (f 118) (f 119) (f 120) (f 121) (f 122) (f 123) (f 124) (f 125) (f 126) (f 127) (f 128) (f 129) (f 130) (f 131) (f 132) (f 133) (f 134) (f 135) (f 136) (f 137) (f 138) (f 139) (f 140) (f 141) (f 142) (f 143) (f 144) (f 145) (f 146) (f 147) (f 148) (f 149) (f 150) (f 151) (f 152) (f 153) (f 154) (f 155) (f 156) (f 157) (f 158) (f 159) (f 160) (f 161) (f 162) (f 163) (f 164) (f 165) (f 166) (f 167) (f 168) (f 169) (f 170) (f 171) (f 172) (f 173) (f 174) (f 175) (f 176) (f 177) (f 178) (f 179) (f 180) (f 181) (f 182) (f 183) (f 184) (f 185) (f 186) (f 187) (f 188) (f 189) (f 190) (f 191) (f 192) (f 193) (f 194) (f 195) (f 196) (f 197) (f 198) (f 199) (f 200) (f 201) (f 202) (f 203) (f 204) (f 205) (f 206) (f 207) (f 208) (f 209) (f 210) (f 211) (f 212) (f 213) (f 214) (f 215) (f 216) (f 217) (f 218) (f 219) (f 220) (f 221) (f 222) (f 223) (f 224) (f 225) (f 226) (f 227) (f 228) (f 229) (f 230) (f 231) (f 232) (f 233) (f 234) (f 235) (f 236) (f 237) (f 238) (f 239) (f 240) (f 241) (f 242) (f 243) (f 244) (f 245) (f 246) (f 247) (f 248) (f 249) (f 250) (f 251) (f 252) (f 253) (f 254) (f 255) (f 256) (f 257) (f 258) (f 259) (f 260) (f 261) (f 262) (f 263) (f 264) (f 265) (f 266) (f 267) (f 268) (f 269) (f 270) (f 271) (f 272) (f 273) (f 274) (f 275) (f 276) (f 277) (f 278) (f 279) (f 280) (f 281) (f 282) (f 283) (f 284) (f 285) (f 286) (f 287) (f 288) (f 289) (f 290) (f 291) (f 292) (f 293) (f 294) (f 295) (f 296) (f 297) (f 298) (f 299) (f 300) (f 301) (f 302) (f 303) (f 304) (f 305) (f 306) (f 307) (f 308) (f 309) (f 310) (f 311) (f 312) (f 313) (f 314) (f 315) (f 316) (f 317) (f 318) (f 319) (f 320) (f 321) (f 322) (f 323) (f 324) (f 325) (f 326) (f 327) (f 328) (f 329) (f 330) (f 331) (f 332) (f 333) (f 334) (f 335) (f 336) (f 337) (f 338) (f 339) (f 340) (f 341) (f 342) (f 343) (f 344) (f 345) (f 346) (f 347) (f 348) (f 349) (f 350) (f 351) (f 352) (f 353) (f 354) (f 355) (f 356) (f 357) (f 358) (f 359) (f 360) (f 361) (f 362) (f 363) (f 364) (f 365) (f 366) (f 367) (f 368) (f 369) (f 370) (f 371) (f 372) (f 373) (f 374) (f 375) (f 376) (f 377) (f 378) (f 379) (f 380) (f 381) (f 382) (f 383) (f 384) (f 385) (f 386) (f 387) (f 388) (f 389) (f 390) (f 391) (f 392) (f 393) (f 394) (f 395) (f 396) (f 397) (f 398) (f 399) (f 400) (f 401) (f 402) (f 403) (f 404) (f 405) (f 406) (f 407) (f 408) (f 409) (f 410) (f 411) (f 412) (f 413) (f 414) (f 415) (f 416) (f 417) (f 418) (f 419) (f 420) (f 421) (f 422) (f 423) (f 424) (f 425) (f 426) (f 427) (f 428) (f 429) (f 430) (f 431) (f 432) (f 433) (f 434) (f 435) (f 436) (f 437) (f 438) (f 439) (f 440) (f 441) (f 442) (f 443) (f 444) (f 445) (f 446) (f 447) (f 448) (f 449) (f 450) (f 451) (f 452) (f 453) (f 454) (f 455) (f 456) (f 457) (f 458) (f 459) (f 460) (f 461) (f 462) (f 463) (f 464) (f 465) (f 466) (f 467) (f 468) (f 469) (f 470) (f 471) (f 472) (f 473) (f 474) (f 475) (f 476) (f 477) (f 478) (f 479) (f 480) (f 481) (f 482) (f 483) (f 484) (f 485) (f 486) (f 487) (f 488) (f 489) (f 490) (f 491) (f 492) (f 493) (f 494) (f 495) (f 496) (f 497) (f 498) (f 499) (f 500) (f 501) (f 502) (f 503) (f 504) (f 505) (f 506) (f 507) (f 508) (f 509) (f 510) (f 511) (f 512) (f 513) (f 514) (f 515) (f 516) (f 517) (f 518) (f 519) (f 520) (f 521) (f 522) (f 523) (f 524) (f 525) (f 526) (f 527) (f 528) (f 529) (f 530) (f 531) (f 532) (f 533) (f 534) (f 535) (f 536) (f 537) (f 538) (f 539) (f 540) (f 541) (f 542) (f 543) (f 544) (f 545) (f 546) (f 547) (f 548) (f 549) (f 550) (f 551) (f 552) (f 553) (f 554) (f 555) (f 556) (f 557) (f 558) (f 559) (f 560) (f 561) (f 562) (f 563) (f 564) (f 565) (f 566) (f 567) (f 568) (f 569) (f 570) (f 571) (f 572) (f 573) (f 574) (f 575) (f 576) (f 577) (f 578) (f 579) (f 580) (f 581) (f 582) (f 583) (f 584) (f 585) (f 586) (f 587) (f 588) (f 589) (f 590) (f 591) (f 592) (f 593) (f 594) (f 595) (f 596) (f 597) (f 598) (f 599) (f 600) (f 601) (f 602) (f 603) (f 604) (f 605) (f 606) (f 607) (f 608) (f 609) (f 610) (f 611) (f 612) (f 613) (f 614) (f 615) (f 616) (f 617) (f 618) (f 619) (f 620) (f 621) (f 622) (f 623) (f 624) (f 625) (f 626) (f 627) (f 628) (f 629) (f 630) w h  Q ?_
  intro v32 v33 v34 v571 v572 v573 v574 v575 v576 v577 v578 v579 v580 v581 v582 v583 v584 v585 v586 v587 v588 v589 v590 v591 v592 v593 v594 v595 v596 v597 v598 v599 v600 v601 v602 v603 v604 v605 v606 v607 v608 v609 v610 v611 v612 v613 v614 v615 v616 v617 v618 v619 v620 v621 v622 v623 v624 v625 v626 v627 v628 v629 S' t' w' hp
  exact hQ  S' t' _ w' ⟨rfl, rfl, rfl, rfl, e6, e7, rfl, rfl, rfl, e12, e13, e14, e15, e18, e19, e25, e26, e27, e40, e41, e44, e45, e46⟩ hp
end Go.Proofs.YtppfldobgemddaaDoor
