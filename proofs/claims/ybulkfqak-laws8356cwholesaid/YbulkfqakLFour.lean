import Derived.Test.YbulkfqakLNext
namespace Go.Proofs.Ybulkfqak
open Go.RowKit Go.Shelf

set_option maxRecDepth 1000000 in
set_option maxHeartbeats 4000000 in
theorem law4 (c0 c1 c2 c3 c4 c5 c6 c7 c8 c9 c10 c14 c15 c16 c17 c18 c19 c26 c27 c28 c29 c30 c31 c32 c33 c34 c35 c36 c37 c38 c39 c40 c41 c42 c43 c44 c45 c46 c47 c48 c49 c50 c51 c52 c53 c54 c55 c56 c57 c58 c59 c60 c61 c62 c63 c64 c65 c66 c67 c68 c69 c70 c71 c72 c73 c74 c75 c76 c77 c78 c79 c80 c81 c82 c83 c84 c85 c86 c87 c88 c89 c90 c91 c92 c93 c94 c95 c96 c97 c98 c99 c100 c101 c102 c103 c104 c105 c106 c107 c108 c109 c110 c111 c112 c113 c114 c115 c116 c117 c118 c119 c120 c121 c122 c123 c124 c125 c126 c127 c128 c129 c130 c131 c132 c133 c134 c135 c136 c137 c138 c139 c140 c141 c142 c143 c144 c145 c146 c147 c148 c149 c150 c151 c152 c254 c255 c256 c257 c258 c259 c260 c261 c262 c263 c264 c265 c266 c267 c268 c269 c270 c271 c272 c273 c274 c275 c276 c277 c278 c279 c280 c281 c282 c283 c284 c285 c286 c287 c288 c289 c290 c291 c292 c293 c294 c295 c296 c297 c298 c299 c300 c301 c302 c303 c304 c305 c306 c307 c308 c309 c310 c311 c312 c313 c314 c315 c316 c317 c318 c319 c320 c321 c322 c323 c324 c325 c326 c327 c328 c329 c330 c331 c332 c333 c334 c335 c336 c337 c338 c339 c340 c341 c342 c343 c344 c345 c346 c347 c348 c349 c350 c351 c352 c353 c354 c355 c356 c357 c358 c359 c360 c361 c362 c363 c364 c365 c366 c367 c368 c369 c370 c371 c372 c373 c374 c375 c376 c377 c378 c379 c380 c381 c382 c383 c384 c385 c386 c387 c388 c389 c390 c391 c392 c393 c394 c395 c396 c397 c398 c399 c400 c401 c402 c403 c404 c405 c406 c407 c408 c409 c410 c411 c412 c413 c414 c415 c416 c417 c418 c419 c420 c421 c422 c423 c424 c425 c426 c427 c428 c429 c430 c431 c432 c433 c434 c435 c436 c437 c438 c439 c440 c441 c442 c443 c444 c445 c446 c447 c448 c449 c450 c451 c452 c453 c454 c455 c456 c457 c458 c459 c460 c461 c462 c463 c464 c465 c466 c467 c468 c469 c470 c471 c472 c473 c474 c475 c476 c477 c478 c479 c480 c481 c482 c483 c484 c485 c486 c487 c488 c489 c490 c491 c492 c493 c494 c495 c496 c497 c498 c499 c500 c501 c502 c503 c504 c505 c506 c507 c508 c509 c510 c511 c512 c513 c514 c515 c516 c517 c518 c519 c520 c521 c522 c523 c524 c525 c526 c527 c528 c529 c530 c531 c532 c533 c534 c535 c536 c537 c538 c539 c540 c541 c542 c543 c544 c545 c546 c547 c548 c549 c550 c551 c552 c553 c554 c555 c556 c557 c558 c559 c560 c561 c562 c563 c564 c565 c566 c567 c568 c569 c570 c571 c572 c573 c574 c575 c576 c577 c578 c579 c580 c581 c582 c583 c584 c585 c586 c587 c588 c589 c590 c591 c592 c593 c594 c595 c596 c597 c598 c599 c600 c601 c602 c603 c604 c605 c606 c607 c608 c609 c610 c611 c612 c613 c614 c615 c616 c617 c618 c619 c620 c621 c622 c623 c624 c625 c626 c627 c628 c629 c630 c631 c632 c633 c634 c635 c636 c637 c638 c639 c640 c641 c642 c643 c644 c645 c646 c647 c648 c649 c650 c651 c652 c653 c654 c655 c656 c657 c658 c659 c660 c661 c662 c663 c664 : Value) (u25 u153 u154 u155 u156 u157 u158 u159 u160 u161 u162 u163 u164 u165 u166 u167 u168 u169 u170 u171 u172 u173 u174 u175 u176 u177 u178 u179 u180 u181 u182 u183 u184 u185 u186 u187 u188 u189 u190 u191 u192 u193 u194 u195 u196 u197 u198 u199 u200 u201 u202 u203 u204 u205 u206 u207 u208 u209 u210 u211 u212 u213 u214 u215 u216 u217 u218 u219 u220 u221 u222 u223 u224 u225 u226 u227 u228 u229 u230 u231 u232 u233 u234 u235 u236 u237 u238 u239 u240 u241 u242 u243 u244 u245 u246 u247 u248 u249 u250 u251 u252 u253 : Value) (b o nb cap S13 N20 M21 S22 K23 : Nat) (h0 : 0 < nb) (D : BD) (kd : Nat → Nat) (wI wJ : World) (hn : nb ≤ 65536) (hB : BAt wI b o nb D) (hjn : ∀ i, i < nb → D.jn i ≤ 1048576) (hS : wI.rowIs S13 3 (nb + 1) (fun i => .int .i64 ((sumTo D.l i : Nat) : Int))) (hlN : sumTo D.l nb ≤ 65536)
    (h20 : wI.heap.size ≤ N20 ∧ N20 < wJ.heap.size) (h21 : wI.heap.size ≤ M21 ∧ M21 < wJ.heap.size) (h22 : wI.heap.size ≤ S22 ∧ S22 < wJ.heap.size) (h23 : wI.heap.size ≤ K23 ∧ K23 < wJ.heap.size) (hMS : M21 ≠ S22)
    (hr0 : R4 wI wJ nb h0 D kd N20 M21 S22 K23 0 wJ) (Q1 : Exit → Act → World → Prop) (hexit : ∀ (v24 v25 v153 v154 v155 v156 v157 v158 v159 v160 v161 v162 v163 v164 v165 v166 v167 v168 v169 v170 v171 v172 v173 v174 v175 v176 v177 v178 v179 v180 v181 v182 v183 v184 v185 v186 v187 v188 v189 v190 v191 v192 v193 v194 v195 v196 v197 v198 v199 v200 v201 v202 v203 v204 v205 v206 v207 v208 v209 v210 v211 v212 v213 v214 v215 v216 v217 v218 v219 v220 v221 v222 v223 v224 v225 v226 v227 v228 v229 v230 v231 v232 v233 v234 v235 v236 v237 v238 v239 v240 v241 v242 v243 v244 v245 v246 v247 v248 v249 v250 v251 v252 v253 : Value) (W' : World), R4 wI wJ nb h0 D kd N20 M21 S22 K23 nb W' → Q1 (.exit 6) ⟨#[c0, c1, c2, c3, c4, c5, c6, c7, c8, c9, c10, .slice (some ⟨b, o, none⟩) nb cap, .int .i64 ((nb : Nat) : Int), .slice (some ⟨S13, 0, none⟩) (nb + 1) (nb + 1), c14, c15, c16, c17, c18, c19, .slice (some ⟨N20, 0, none⟩) nb nb, .slice (some ⟨M21, 0, none⟩) nb nb, .slice (some ⟨S22, 0, none⟩) nb nb, .slice (some ⟨K23, 0, none⟩) nb nb, v24, v25, c26, c27, c28, c29, c30, c31, c32, c33, c34, c35, c36, c37, c38, c39, c40, c41, c42, c43, c44, c45, c46, c47, c48, c49, c50, c51, c52, c53, c54, c55, c56, c57, c58, c59, c60, c61, c62, c63, c64, c65, c66, c67, c68, c69, c70, c71, c72, c73, c74, c75, c76, c77, c78, c79, c80, c81, c82, c83, c84, c85, c86, c87, c88, c89, c90, c91, c92, c93, c94, c95, c96, c97, c98, c99, c100, c101, c102, c103, c104, c105, c106, c107, c108, c109, c110, c111, c112, c113, c114, c115, c116, c117, c118, c119, c120, c121, c122, c123, c124, c125, c126, c127, c128, c129, c130, c131, c132, c133, c134, c135, c136, c137, c138, c139, c140, c141, c142, c143, c144, c145, c146, c147, c148, c149, c150, c151, c152, v153, v154, v155, v156, v157, v158, v159, v160, v161, v162, v163, v164, v165, v166, v167, v168, v169, v170, v171, v172, v173, v174, v175, v176, v177, v178, v179, v180, v181, v182, v183, v184, v185, v186, v187, v188, v189, v190, v191, v192, v193, v194, v195, v196, v197, v198, v199, v200, v201, v202, v203, v204, v205, v206, v207, v208, v209, v210, v211, v212, v213, v214, v215, v216, v217, v218, v219, v220, v221, v222, v223, v224, v225, v226, v227, v228, v229, v230, v231, v232, v233, v234, v235, v236, v237, v238, v239, v240, v241, v242, v243, v244, v245, v246, v247, v248, v249, v250, v251, v252, v253, c254, c255, c256, c257, c258, c259, c260, c261, c262, c263, c264, c265, c266, c267, c268, c269, c270, c271, c272, c273, c274, c275, c276, c277, c278, c279, c280, c281, c282, c283, c284, c285, c286, c287, c288, c289, c290, c291, c292, c293, c294, c295, c296, c297, c298, c299, c300, c301, c302, c303, c304, c305, c306, c307, c308, c309, c310, c311, c312, c313, c314, c315, c316, c317, c318, c319, c320, c321, c322, c323, c324, c325, c326, c327, c328, c329, c330, c331, c332, c333, c334, c335, c336, c337, c338, c339, c340, c341, c342, c343, c344, c345, c346, c347, c348, c349, c350, c351, c352, c353, c354, c355, c356, c357, c358, c359, c360, c361, c362, c363, c364, c365, c366, c367, c368, c369, c370, c371, c372, c373, c374, c375, c376, c377, c378, c379, c380, c381, c382, c383, c384, c385, c386, c387, c388, c389, c390, c391, c392, c393, c394, c395, c396, c397, c398, c399, c400, c401, c402, c403, c404, c405, c406, c407, c408, c409, c410, c411, c412, c413, c414, c415, c416, c417, c418, c419, c420, c421, c422, c423, c424, c425, c426, c427, c428, c429, c430, c431, c432, c433, c434, c435, c436, c437, c438, c439, c440, c441, c442, c443, c444, c445, c446, c447, c448, c449, c450, c451, c452, c453, c454, c455, c456, c457, c458, c459, c460, c461, c462, c463, c464, c465, c466, c467, c468, c469, c470, c471, c472, c473, c474, c475, c476, c477, c478, c479, c480, c481, c482, c483, c484, c485, c486, c487, c488, c489, c490, c491, c492, c493, c494, c495, c496, c497, c498, c499, c500, c501, c502, c503, c504, c505, c506, c507, c508, c509, c510, c511, c512, c513, c514, c515, c516, c517, c518, c519, c520, c521, c522, c523, c524, c525, c526, c527, c528, c529, c530, c531, c532, c533, c534, c535, c536, c537, c538, c539, c540, c541, c542, c543, c544, c545, c546, c547, c548, c549, c550, c551, c552, c553, c554, c555, c556, c557, c558, c559, c560, c561, c562, c563, c564, c565, c566, c567, c568, c569, c570, c571, c572, c573, c574, c575, c576, c577, c578, c579, c580, c581, c582, c583, c584, c585, c586, c587, c588, c589, c590, c591, c592, c593, c594, c595, c596, c597, c598, c599, c600, c601, c602, c603, c604, c605, c606, c607, c608, c609, c610, c611, c612, c613, c614, c615, c616, c617, c618, c619, c620, c621, c622, c623, c624, c625, c626, c627, c628, c629, c630, c631, c632, c633, c634, c635, c636, c637, c638, c639, c640, c641, c642, c643, c644, c645, c646, c647, c648, c649, c650, c651, c652, c653, c654, c655, c656, c657, c658, c659, c660, c661, c662, c663, c664], []⟩ W') :
    Code.wp Yba.prog (.loop (lp4 3)) (NoPanic Q1) ⟨#[c0, c1, c2, c3, c4, c5, c6, c7, c8, c9, c10, .slice (some ⟨b, o, none⟩) nb cap, .int .i64 ((nb : Nat) : Int), .slice (some ⟨S13, 0, none⟩) (nb + 1) (nb + 1), c14, c15, c16, c17, c18, c19, .slice (some ⟨N20, 0, none⟩) nb nb, .slice (some ⟨M21, 0, none⟩) nb nb, .slice (some ⟨S22, 0, none⟩) nb nb, .slice (some ⟨K23, 0, none⟩) nb nb, .int .i64 0, u25, c26, c27, c28, c29, c30, c31, c32, c33, c34, c35, c36, c37, c38, c39, c40, c41, c42, c43, c44, c45, c46, c47, c48, c49, c50, c51, c52, c53, c54, c55, c56, c57, c58, c59, c60, c61, c62, c63, c64, c65, c66, c67, c68, c69, c70, c71, c72, c73, c74, c75, c76, c77, c78, c79, c80, c81, c82, c83, c84, c85, c86, c87, c88, c89, c90, c91, c92, c93, c94, c95, c96, c97, c98, c99, c100, c101, c102, c103, c104, c105, c106, c107, c108, c109, c110, c111, c112, c113, c114, c115, c116, c117, c118, c119, c120, c121, c122, c123, c124, c125, c126, c127, c128, c129, c130, c131, c132, c133, c134, c135, c136, c137, c138, c139, c140, c141, c142, c143, c144, c145, c146, c147, c148, c149, c150, c151, c152, u153, u154, u155, u156, u157, u158, u159, u160, u161, u162, u163, u164, u165, u166, u167, u168, u169, u170, u171, u172, u173, u174, u175, u176, u177, u178, u179, u180, u181, u182, u183, u184, u185, u186, u187, u188, u189, u190, u191, u192, u193, u194, u195, u196, u197, u198, u199, u200, u201, u202, u203, u204, u205, u206, u207, u208, u209, u210, u211, u212, u213, u214, u215, u216, u217, u218, u219, u220, u221, u222, u223, u224, u225, u226, u227, u228, u229, u230, u231, u232, u233, u234, u235, u236, u237, u238, u239, u240, u241, u242, u243, u244, u245, u246, u247, u248, u249, u250, u251, u252, u253, c254, c255, c256, c257, c258, c259, c260, c261, c262, c263, c264, c265, c266, c267, c268, c269, c270, c271, c272, c273, c274, c275, c276, c277, c278, c279, c280, c281, c282, c283, c284, c285, c286, c287, c288, c289, c290, c291, c292, c293, c294, c295, c296, c297, c298, c299, c300, c301, c302, c303, c304, c305, c306, c307, c308, c309, c310, c311, c312, c313, c314, c315, c316, c317, c318, c319, c320, c321, c322, c323, c324, c325, c326, c327, c328, c329, c330, c331, c332, c333, c334, c335, c336, c337, c338, c339, c340, c341, c342, c343, c344, c345, c346, c347, c348, c349, c350, c351, c352, c353, c354, c355, c356, c357, c358, c359, c360, c361, c362, c363, c364, c365, c366, c367, c368, c369, c370, c371, c372, c373, c374, c375, c376, c377, c378, c379, c380, c381, c382, c383, c384, c385, c386, c387, c388, c389, c390, c391, c392, c393, c394, c395, c396, c397, c398, c399, c400, c401, c402, c403, c404, c405, c406, c407, c408, c409, c410, c411, c412, c413, c414, c415, c416, c417, c418, c419, c420, c421, c422, c423, c424, c425, c426, c427, c428, c429, c430, c431, c432, c433, c434, c435, c436, c437, c438, c439, c440, c441, c442, c443, c444, c445, c446, c447, c448, c449, c450, c451, c452, c453, c454, c455, c456, c457, c458, c459, c460, c461, c462, c463, c464, c465, c466, c467, c468, c469, c470, c471, c472, c473, c474, c475, c476, c477, c478, c479, c480, c481, c482, c483, c484, c485, c486, c487, c488, c489, c490, c491, c492, c493, c494, c495, c496, c497, c498, c499, c500, c501, c502, c503, c504, c505, c506, c507, c508, c509, c510, c511, c512, c513, c514, c515, c516, c517, c518, c519, c520, c521, c522, c523, c524, c525, c526, c527, c528, c529, c530, c531, c532, c533, c534, c535, c536, c537, c538, c539, c540, c541, c542, c543, c544, c545, c546, c547, c548, c549, c550, c551, c552, c553, c554, c555, c556, c557, c558, c559, c560, c561, c562, c563, c564, c565, c566, c567, c568, c569, c570, c571, c572, c573, c574, c575, c576, c577, c578, c579, c580, c581, c582, c583, c584, c585, c586, c587, c588, c589, c590, c591, c592, c593, c594, c595, c596, c597, c598, c599, c600, c601, c602, c603, c604, c605, c606, c607, c608, c609, c610, c611, c612, c613, c614, c615, c616, c617, c618, c619, c620, c621, c622, c623, c624, c625, c626, c627, c628, c629, c630, c631, c632, c633, c634, c635, c636, c637, c638, c639, c640, c641, c642, c643, c644, c645, c646, c647, c648, c649, c650, c651, c652, c653, c654, c655, c656, c657, c658, c659, c660, c661, c662, c663, c664], []⟩ wJ := by
  conv => arg 2; arg 1; whnf
  have HX : Hid (∀ (v24 v25 v153 v154 v155 v156 v157 v158 v159 v160 v161 v162 v163 v164 v165 v166 v167 v168 v169 v170 v171 v172 v173 v174 v175 v176 v177 v178 v179 v180 v181 v182 v183 v184 v185 v186 v187 v188 v189 v190 v191 v192 v193 v194 v195 v196 v197 v198 v199 v200 v201 v202 v203 v204 v205 v206 v207 v208 v209 v210 v211 v212 v213 v214 v215 v216 v217 v218 v219 v220 v221 v222 v223 v224 v225 v226 v227 v228 v229 v230 v231 v232 v233 v234 v235 v236 v237 v238 v239 v240 v241 v242 v243 v244 v245 v246 v247 v248 v249 v250 v251 v252 v253 : Value) (W' : World), R4 wI wJ nb h0 D kd N20 M21 S22 K23 nb W' → Q1 (.exit 6) ⟨#[c0, c1, c2, c3, c4, c5, c6, c7, c8, c9, c10, .slice (some ⟨b, o, none⟩) nb cap, .int .i64 ((nb : Nat) : Int), .slice (some ⟨S13, 0, none⟩) (nb + 1) (nb + 1), c14, c15, c16, c17, c18, c19, .slice (some ⟨N20, 0, none⟩) nb nb, .slice (some ⟨M21, 0, none⟩) nb nb, .slice (some ⟨S22, 0, none⟩) nb nb, .slice (some ⟨K23, 0, none⟩) nb nb, v24, v25, c26, c27, c28, c29, c30, c31, c32, c33, c34, c35, c36, c37, c38, c39, c40, c41, c42, c43, c44, c45, c46, c47, c48, c49, c50, c51, c52, c53, c54, c55, c56, c57, c58, c59, c60, c61, c62, c63, c64, c65, c66, c67, c68, c69, c70, c71, c72, c73, c74, c75, c76, c77, c78, c79, c80, c81, c82, c83, c84, c85, c86, c87, c88, c89, c90, c91, c92, c93, c94, c95, c96, c97, c98, c99, c100, c101, c102, c103, c104, c105, c106, c107, c108, c109, c110, c111, c112, c113, c114, c115, c116, c117, c118, c119, c120, c121, c122, c123, c124, c125, c126, c127, c128, c129, c130, c131, c132, c133, c134, c135, c136, c137, c138, c139, c140, c141, c142, c143, c144, c145, c146, c147, c148, c149, c150, c151, c152, v153, v154, v155, v156, v157, v158, v159, v160, v161, v162, v163, v164, v165, v166, v167, v168, v169, v170, v171, v172, v173, v174, v175, v176, v177, v178, v179, v180, v181, v182, v183, v184, v185, v186, v187, v188, v189, v190, v191, v192, v193, v194, v195, v196, v197, v198, v199, v200, v201, v202, v203, v204, v205, v206, v207, v208, v209, v210, v211, v212, v213, v214, v215, v216, v217, v218, v219, v220, v221, v222, v223, v224, v225, v226, v227, v228, v229, v230, v231, v232, v233, v234, v235, v236, v237, v238, v239, v240, v241, v242, v243, v244, v245, v246, v247, v248, v249, v250, v251, v252, v253, c254, c255, c256, c257, c258, c259, c260, c261, c262, c263, c264, c265, c266, c267, c268, c269, c270, c271, c272, c273, c274, c275, c276, c277, c278, c279, c280, c281, c282, c283, c284, c285, c286, c287, c288, c289, c290, c291, c292, c293, c294, c295, c296, c297, c298, c299, c300, c301, c302, c303, c304, c305, c306, c307, c308, c309, c310, c311, c312, c313, c314, c315, c316, c317, c318, c319, c320, c321, c322, c323, c324, c325, c326, c327, c328, c329, c330, c331, c332, c333, c334, c335, c336, c337, c338, c339, c340, c341, c342, c343, c344, c345, c346, c347, c348, c349, c350, c351, c352, c353, c354, c355, c356, c357, c358, c359, c360, c361, c362, c363, c364, c365, c366, c367, c368, c369, c370, c371, c372, c373, c374, c375, c376, c377, c378, c379, c380, c381, c382, c383, c384, c385, c386, c387, c388, c389, c390, c391, c392, c393, c394, c395, c396, c397, c398, c399, c400, c401, c402, c403, c404, c405, c406, c407, c408, c409, c410, c411, c412, c413, c414, c415, c416, c417, c418, c419, c420, c421, c422, c423, c424, c425, c426, c427, c428, c429, c430, c431, c432, c433, c434, c435, c436, c437, c438, c439, c440, c441, c442, c443, c444, c445, c446, c447, c448, c449, c450, c451, c452, c453, c454, c455, c456, c457, c458, c459, c460, c461, c462, c463, c464, c465, c466, c467, c468, c469, c470, c471, c472, c473, c474, c475, c476, c477, c478, c479, c480, c481, c482, c483, c484, c485, c486, c487, c488, c489, c490, c491, c492, c493, c494, c495, c496, c497, c498, c499, c500, c501, c502, c503, c504, c505, c506, c507, c508, c509, c510, c511, c512, c513, c514, c515, c516, c517, c518, c519, c520, c521, c522, c523, c524, c525, c526, c527, c528, c529, c530, c531, c532, c533, c534, c535, c536, c537, c538, c539, c540, c541, c542, c543, c544, c545, c546, c547, c548, c549, c550, c551, c552, c553, c554, c555, c556, c557, c558, c559, c560, c561, c562, c563, c564, c565, c566, c567, c568, c569, c570, c571, c572, c573, c574, c575, c576, c577, c578, c579, c580, c581, c582, c583, c584, c585, c586, c587, c588, c589, c590, c591, c592, c593, c594, c595, c596, c597, c598, c599, c600, c601, c602, c603, c604, c605, c606, c607, c608, c609, c610, c611, c612, c613, c614, c615, c616, c617, c618, c619, c620, c621, c622, c623, c624, c625, c626, c627, c628, c629, c630, c631, c632, c633, c634, c635, c636, c637, c638, c639, c640, c641, c642, c643, c644, c645, c646, c647, c648, c649, c650, c651, c652, c653, c654, c655, c656, c657, c658, c659, c660, c661, c662, c663, c664], []⟩ W') := hexit
  have HB : Hid (BAt wI b o nb D) := hB
  have HS : Hid (wI.rowIs S13 3 (nb + 1) (fun i => .int .i64 ((sumTo D.l i : Nat) : Int))) := hS
  have HJ : Hid (∀ i, i < nb → D.jn i ≤ 1048576) := hjn
  have H0 : Hid (R4 wI wJ nb h0 D kd N20 M21 S22 K23 0 wJ) := hr0
  clear hexit hB hS hjn hr0
  dsimp only
  go_loopw [24] (fun s24 wr => ∃ k : Nat, s24 = .int .i64 (k : Int) ∧ k ≤ nb ∧ Hid (R4 wI wJ nb h0 D kd N20 M21 S22 K23 k wr)) (fun s24 _ => nb - (intOf s24).toNat)
  case atStart => exact ⟨0, rfl, by omega, H0⟩
  case round =>
    obtain ⟨k, rfl, hk, hr⟩ := hrel
    by_cases hlt : k < nb
    · have hkn : (k : Int) < (nb : Int) := by omega
      obtain ⟨mq, q, sv, HR⟩ : ∃ mq q sv, Hid (R4r wI wJ nb h0 D kd N20 M21 S22 K23 k mq q sv wr) := hr.out
      have HBr : Hid (BAt wr b o nb D) := HB.out.below (Nat.le_refl _) HR.out.bel
      have eN := HR.out.rN.cell hlt
      have fN := HR.out.rN.frozen k
      have d1 := HBr.out.c1 k hlt
      go_upto_region 39 with fail
      obtain ⟨f0, hf0⟩ := HR.out.rK
      have hP0 : P4 wI wr N20 M21 S22 K23 nb (fun i => .int .i32 (if i < k then nextInt ((prg nb h0 D kd).nxo i) else 0)) (fun i => if i < k then .slice (mq i) (D.jn i) (D.jn i) else .slice none 0 0) (fun i => if i < k then sv i else .slice none 0 0) (fun j => if j < k * 11 then blkF (prg nb h0 D kd) q D.fi D.la (fun _ => false) j else f0 j) wr :=
        ⟨HR.out.bel, Nat.le_refl _, fun _ _ _ _ _ _ => rfl, HR.out.rN, HR.out.rM, HR.out.rS, hf0, hMS, h20.1, h21.1, h22.1, h23.1, by have := HR.out.sz; omega, by have := HR.out.sz; omega, by have := HR.out.sz; omega, by have := HR.out.sz; omega⟩
      have HP1 := hP0.setN k (.int .i32 (-1))
      have HP1 : Hid (P4 wI wr N20 M21 S22 K23 nb (fun j => if j = k then .int .i32 (-1) else .int .i32 (if j < k then nextInt ((prg nb h0 D kd).nxo j) else 0)) (fun i => if i < k then .slice (mq i) (D.jn i) (D.jn i) else .slice none 0 0) (fun i => if i < k then sv i else .slice none 0 0) (fun j => if j < k * 11 then blkF (prg nb h0 D kd) q D.fi D.la (fun _ => false) j else f0 j) (wr.setCell ⟨N20, k, none⟩ (.int .i32 (-1)))) := HP1
      clear hP0 hf0
      obtain ⟨W1, hW1⟩ : ∃ W1, W1 = wr.setCell ⟨N20, k, none⟩ (.int .i32 (-1)) := ⟨_, rfl⟩
      rw [← hW1] at HP1 ⊢
      clear hW1 eN fN d1 HBr
      have hnxb := HB.out.nxb k
      have HB1 : Hid (BAt W1 b o nb D) := HB.out.below (Nat.le_refl _) HP1.out.bel
      have d1 := HB1.out.c1 k hlt
      go_upto_if 166 with fail
      go_cut [167] from 161 to 178 (fun _ wx => Hid (P4 wI wr N20 M21 S22 K23 nb (fun j => .int .i32 (if j < k + 1 then nextInt ((prg nb h0 D kd).nxo j) else 0)) (fun i => if i < k then .slice (mq i) (D.jn i) (D.jn i) else .slice none 0 0) (fun i => if i < k then sv i else .slice none 0 0) (fun j => if j < k * 11 then blkF (prg nb h0 D kd) q D.fi D.la (fun _ => false) j else f0 j) wx))
      case first =>
        have eN := HP1.out.rN.cell hlt
        have fN := HP1.out.rN.frozen k
        by_cases hneg : D.nx k < 0
        · have hge : ¬ (0 : Int) ≤ D.nx k := by omega
          go_wp2_with fail
          go_meet
          case rel =>
            refine HP1.out.congrN fun i hi => ?_
            by_cases e : i = k
            · subst e
              rw [if_pos rfl, if_pos (by omega)]
              simp [prg, hneg, nextInt]
            · rw [if_neg e]
              by_cases h : i < k
              · rw [if_pos h, if_pos (by omega)]
              · rw [if_neg h, if_neg (by omega)]
        · obtain ⟨m, hm⟩ : ∃ m : Nat, D.nx k = (m : Int) := ⟨(D.nx k).toNat, by omega⟩
          have HMm : Hid (D.nx k = (m : Int)) := hm
          rw [hm] at d1 hnxb ⊢
          clear hm
          have hge : (0 : Int) ≤ (m : Int) := by omega
          have hml : m % nb < nb := Nat.mod_lt _ h0
          have hmod : ((m : Nat) : Int) % (nb : Int) = ((m % nb : Nat) : Int) := by simp
          have hwr : IntKind.i32.wrap (((m : Nat) : Int) % (nb : Int)) = ((m : Nat) : Int) % (nb : Int) := by
            rw [hmod, IntKind.wrap_i32]
            omega
          have HMo : Hid (((m : Nat) : Int) % (nb : Int) = ((m % nb : Nat) : Int)) := hmod
          clear hmod
          have hnb : ((nb : Int) == 0) = false := beq_eq_false_iff_ne.2 (by omega)
          have hm3 : (m : Int) ≤ 32767 := by omega
          go_wp2_with fail
          go_meet
          case rel =>
            refine (HP1.out.setN k _).congrN fun i hi => ?_
            by_cases e : i = k
            · subst e
              rw [if_pos rfl, if_pos (by omega)]
              have : ((prg nb h0 D kd).nxo i) = some ⟨m % nb, hml⟩ := by
                show (if D.nx i < 0 then none else some _) = _
                rw [if_neg (by omega)]
                congr 2
                rw [HMm.out]
                simp
              rw [this]
              simp only [nextInt]
              rw [← HMo.out]
            · rw [if_neg e]
              show (if i = k then Value.int .i32 (-1) else _) = _
              rw [if_neg e]
              by_cases h : i < k
              · rw [if_pos h, if_pos (by omega)]
              · rw [if_neg h, if_neg (by omega)]
      case rest =>
        clear HP1 d1 HB1
        have HP2 := hcut
        clear hcut
        have HB2 : Hid (BAt wc b o nb D) := HB.out.below (Nat.le_refl _) HP2.out.bel
        have d2 := HB2.out.c2 k hlt
        have eM := HP2.out.rM.cell hlt
        have fM := HP2.out.rM.frozen k
        have hjk := HJ.out k hlt
        go_wp2_with fail
        refine (jumps_any (D.jp k) (D.jn k) (D.jc k) nb (D.gj k) wc hjk h0 hn (HB2.out.jk k hlt)).mono ?_
        rintro e W3 ⟨mk', rfl, hj3⟩
        have HP3 : Hid (P4 wI wr N20 M21 S22 K23 nb (fun j => .int .i32 (if j < k + 1 then nextInt ((prg nb h0 D kd).nxo j) else 0)) (fun j => if j = k then .slice mk' (D.jn k) (D.jn k) else if j < k then .slice (mq j) (D.jn j) (D.jn j) else .slice none 0 0) (fun i => if i < k then sv i else .slice none 0 0) (fun j => if j < k * 11 then blkF (prg nb h0 D kd) q D.fi D.la (fun _ => false) j else f0 j) (W3.setCell ⟨M21, k, none⟩ (.slice mk' (D.jn k) (D.jn k)))) := (HP2.out.below hj3.out.2.2).setM k _
        have HJ3 : Hid (JRow (W3.setCell ⟨M21, k, none⟩ (.slice mk' (D.jn k) (D.jn k))) wr.heap.size mk' (D.jn k) (fun j => D.gj k j % nb)) := by
          rcases hj3.out.2.1 with h | ⟨g, h1, h2, h3⟩
          · exact Or.inl h
          · exact Or.inr ⟨g, h1, Nat.le_trans HP2.out.sz h2, h3.setOther (a := ⟨M21, k, none⟩) (by have := HP2.out.dist.2.2.2.2.2.2.1; have := HP2.out.sz; show g ≠ M21; omega) _⟩
        have eM3 : W3.cell? ⟨M21, k, none⟩ = some (if k < k then .slice (mq k) (D.jn k) (D.jn k) else .slice none 0 0) := (HP2.out.below hj3.out.2.2).rM.cell hlt
        have fM3 := (HP2.out.below hj3.out.2.2).rM.frozen k
        have hnn : Hid (mk' = none → D.jn k = 0) := fun e => by
          rcases hj3.out.2.1 with h | ⟨g, h1, _⟩
          · exact h.2
          · rw [h1] at e; cases e
        clear HP2 HB2 d2 eM fM hj3
        go_upto_region 42 with fail
        obtain ⟨W4, hW4⟩ : ∃ W4, W4 = W3.setCell ⟨M21, k, none⟩ (.slice mk' (D.jn k) (D.jn k)) := ⟨_, rfl⟩
        rw [← hW4] at HP3 HJ3 ⊢
        clear hW4 eM3 fM3
        have eN4 := HP3.out.rN.cell hlt
        rw [if_pos (by omega)] at eN4
        obtain ⟨z, hz⟩ : ∃ z, z = nextInt ((prg nb h0 D kd).nxo k) := ⟨_, rfl⟩
        rw [← hz] at eN4
        have HZ : Hid (z = nextInt ((prg nb h0 D kd).nxo k)) := hz
        clear hz
        go_upto_if 193 with fail
        obtain ⟨i0, hi0, hz0, hz1, hz2⟩ := info_parts info21
        go_cut [25] from 189 to 200 (fun s25 wx => ∃ v, s25 = v ∧ Hid (wx.ownsRow wr.heap.size 21 1 v ((prg nb h0 D kd).nxo k).toList.length (encBs ((prg nb h0 D kd).nxo k).toList)) ∧ Hid (P4 wI wr N20 M21 S22 K23 nb (fun j => .int .i32 (if j < k + 1 then nextInt ((prg nb h0 D kd).nxo j) else 0)) (fun j => if j = k then .slice mk' (D.jn k) (D.jn k) else if j < k then .slice (mq j) (D.jn j) (D.jn j) else .slice none 0 0) (fun i => if i < k then sv i else .slice none 0 0) (fun j => if j < k * 11 then blkF (prg nb h0 D kd) q D.fi D.la (fun _ => false) j else f0 j) wx ∧ JRow wx wr.heap.size mk' (D.jn k) (fun j => D.gj k j % nb) ∧ ∀ g', mk' = some ⟨g', 0, none⟩ → some g' ≠ v.ownBlock))
        case first =>
          cases hx : (prg nb h0 D kd).nxo k with
          | none =>
            obtain rfl : z = -1 := by have := HZ.out; rw [hx] at this; exact this
            go_wp2_with fail
            go_meet
            case rel => exact ⟨_, rfl, (by rw [hx]; exact World.ownsRow_nil _ _ _ _), HP3.out, HJ3.out, fun g' _ e => by cases e⟩
          | some y =>
            obtain ⟨yy, hyl⟩ := y
            obtain rfl : z = (yy : Int) := by have := HZ.out; rw [hx] at this; exact this
            have hge : (0 : Int) ≤ (yy : Int) := by omega
            have hz4 : wr.heap.size ≤ W4.heap.size := HP3.out.sz
            go_wp2_with (at_builtin; refine wpList_append_lies _ rfl _ _ 48 rfl wr.heap.size 21 i0 (.int .i32 0) 1 4 Yba.underlying48 hi0 hz0 hz1 hz2 rfl (by omega) (.slice none 0 0) 0 [] rfl (World.ownsRow_nil _ _ _ _) ⟨W4.heap.size, 0, none⟩ 1 1 [.int .i32 (yy : Int)] rfl rfl (cell_one_new _ _ _) (by simp [Value.oneCell']) (by omega) (by simp [maxLen]) (by omega) (by simp; omega) _ rfl ?_; intro g cp w1 hown hgrow hat hlt1)
            go_meet
            case rel =>
              refine ⟨_, rfl, (by rw [hx]; exact hown), HP3.out.grown (gb_trans (gb_alloc W4 _ none) hgrow) (fun r e => by cases e), ?_, fun g' e1 e2 => ?_⟩
              · rcases HJ3.out with h | ⟨g', h1, h2, h3⟩
                · exact Or.inl h
                · exact Or.inr ⟨g', h1, h2, row_grown h3 (gb_trans (gb_alloc W4 _ none) hgrow) (by simp)⟩
              · rcases HJ3.out with h | ⟨g2, h1, h2, h3⟩
                · rw [h.1] at e1; cases e1
                · rw [h1] at e1
                  injection e1 with e1
                  injection e1 with e1
                  have hl := h3.lt
                  simp [Value.ownBlock] at e2
                  rcases hat with e | e
                  · cases e
                  · simp at e; omega
        case rest =>
          obtain ⟨v1, rfl, HV1, HP4'⟩ := hcut
          clear HP3 HJ3 eN4 HZ
          have eM := HP4'.out.1.rM.cell hlt
          rw [if_pos rfl] at eM
          have HV2 : Hid (wc.ownsRow wr.heap.size 21 1 u25 ((prg nb h0 D kd).nxo k).toList.length (encBs ((prg nb h0 D kd).nxo k).toList)) := HV1
          clear HV1
          have hlen1 : ((prg nb h0 D kd).nxo k).toList.length ≤ 1 := by cases (prg nb h0 D kd).nxo k <;> simp
          obtain ⟨n1, hn1⟩ : ∃ n1, n1 = ((prg nb h0 D kd).nxo k).toList.length := ⟨_, rfl⟩
          rw [← hn1] at HV2 hlen1
          have HN1 : Hid (n1 = ((prg nb h0 D kd).nxo k).toList.length) := hn1
          clear hn1
          have hbw : wr.heap.size ≤ wc.heap.size := HP4'.out.1.sz
          have hS4 := HP4'.out.1.rS.cell hlt
          go_upto_region 46 with (at_builtin; refine wpList_append_js _ rfl _ _ rfl wr.heap.size wr.heap.size n1 (D.jn k) u25 (encBs ((prg nb h0 D kd).nxo k).toList) mk' (fun j => D.gj k j % nb) rfl HV2.out rfl HP4'.out.2.1 (by omega) hbw ?_; intro v2 w5 hown2 hgrow2)
          have HO2 : Hid (w5.ownsRow wr.heap.size 21 1 v2 ((prg nb h0 D kd).succ k).length (encBs ((prg nb h0 D kd).succ k))) := by
            have e1 : ((prg nb h0 D kd).succ k).length = n1 + D.jn k := by rw [HN1.out]; simp [Prg.succ, prg]
            have e2 : encBs ((prg nb h0 D kd).succ k) = encBs ((prg nb h0 D kd).nxo k).toList ++ (List.range (D.jn k)).map (fun j => Value.int .i32 ((D.gj k j % nb : Nat) : Int)) := by simp [Prg.succ, encBs, prg, List.map_map, Function.comp_def]
            show w5.ownsRow _ _ _ _ _ _
            rw [e1, e2]
            exact hown2
          have hbo : ∀ r, u25.ownBlock = some r → wr.heap.size ≤ r := fun r e => by
            rcases HV2.out.2 with ⟨rfl, _⟩ | ⟨g, cp, cur, rfl, hb, _⟩
            · cases e
            · simp [Value.ownBlock] at e; omega
          have HP5 : Hid (P4 wI wr N20 M21 S22 K23 nb (fun j => .int .i32 (if j < k + 1 then nextInt ((prg nb h0 D kd).nxo j) else 0)) (fun j => if j = k then .slice mk' (D.jn k) (D.jn k) else if j < k then .slice (mq j) (D.jn j) (D.jn j) else .slice none 0 0) (fun i => if i < k then sv i else .slice none 0 0) (fun j => if j < k * 11 then blkF (prg nb h0 D kd) q D.fi D.la (fun _ => false) j else f0 j) w5) := HP4'.out.1.grown hgrow2 hbo
          have HJ5 : Hid (JRow w5 wr.heap.size mk' (D.jn k) (fun j => D.gj k j % nb)) := by
            rcases HP4'.out.2.1 with h | ⟨g', h1, h2, h3⟩
            · exact Or.inl h
            · exact Or.inr ⟨g', h1, h2, row_grown h3 hgrow2 (HP4'.out.2.2 g' h1)⟩
          clear hown2 hgrow2 hbo HV2 HP4' hlen1 eM hS4 hbw
          obtain ⟨vp2, cp2, rfl⟩ := own21_form HO2.out
          obtain ⟨L2, hL2⟩ : ∃ L2, L2 = ((prg nb h0 D kd).succ k).length := ⟨_, rfl⟩
          rw [← hL2] at HO2 ⊢
          have HL2 : Hid (L2 = ((prg nb h0 D kd).succ k).length) := hL2
          clear hL2 HN1
          have eS := HP5.out.rS.cell hlt
          have fS := HP5.out.rS.frozen k
          go_upto_region 47 with fail
          have HP6 : Hid (P4 wI wr N20 M21 S22 K23 nb (fun j => .int .i32 (if j < k + 1 then nextInt ((prg nb h0 D kd).nxo j) else 0)) (fun j => if j = k then .slice mk' (D.jn k) (D.jn k) else if j < k then .slice (mq j) (D.jn j) (D.jn j) else .slice none 0 0) (fun j => if j = k then (.slice vp2 L2 cp2) else if j < k then sv j else .slice none 0 0) (fun j => if j < k * 11 then blkF (prg nb h0 D kd) q D.fi D.la (fun _ => false) j else f0 j) (w5.setCell ⟨S22, k, none⟩ (.slice vp2 L2 cp2))) := HP5.out.setS k (.slice vp2 L2 cp2)
          have HJ6 : Hid (JRow (w5.setCell ⟨S22, k, none⟩ (.slice vp2 L2 cp2)) wr.heap.size mk' (D.jn k) (fun j => D.gj k j % nb)) := by
            have := HP5.out.dist
            rcases HJ5.out with h | ⟨g', h1, h2, h3⟩
            · exact Or.inl h
            · exact Or.inr ⟨g', h1, h2, h3.setOther (a := ⟨S22, k, none⟩) (by show g' ≠ S22; omega) _⟩
          have HO6 : Hid ((w5.setCell ⟨S22, k, none⟩ (.slice vp2 L2 cp2)).ownsRow wr.heap.size 21 1 (.slice vp2 L2 cp2) L2 (encBs ((prg nb h0 D kd).succ k))) := by
            have := HP5.out.dist
            exact own21_keepB HO2.out (fun g hg _ => Below.heap_setCell _ _ _ _ (by show g ≠ S22; omega))
          obtain ⟨W7, hW7⟩ : ∃ W7, W7 = w5.setCell ⟨S22, k, none⟩ (.slice vp2 L2 cp2) := ⟨_, rfl⟩
          rw [← hW7] at HP6 HJ6 HO6 ⊢
          clear hW7 eS fS HP5 HJ5 HO2
          have HB7 : Hid (BAt W7 b o nb D) := HB.out.below (Nat.le_refl _) HP6.out.bel
          have HS7 : Hid (W7.rowIs S13 3 (nb + 1) (fun i => .int .i64 ((sumTo D.l i : Nat) : Int))) := HS.out.of_block (HP6.out.bel.block _ HS.out.lt)
          have s0 := HS7.out.cell (i := k) (by omega)
          have s1 := HS7.out.cell (i := k + 1) (by omega)
          have d2 := HB7.out.c2 k hlt
          have d3 := HB7.out.c3 k hlt
          have d4 := HB7.out.c4 k hlt
          have d5 := HB7.out.c5 k hlt
          have eN7 := HP6.out.rN.cell hlt
          rw [if_pos (by omega)] at eN7
          have hm1 : sumTo D.l k ≤ sumTo D.l nb := by have := sumTo_mono D.l k (nb - k); rwa [show k + (nb - k) = nb by omega] at this
          have hm2 : sumTo D.l (k + 1) ≤ sumTo D.l nb := by have := sumTo_mono D.l (k + 1) (nb - (k + 1)); rwa [show k + 1 + (nb - (k + 1)) = nb by omega] at this
          obtain ⟨z, hz⟩ : ∃ z, z = nextInt ((prg nb h0 D kd).nxo k) := ⟨_, rfl⟩
          rw [← hz] at eN7
          have HZ : Hid (z = nextInt ((prg nb h0 D kd).nxo k)) := hz
          obtain ⟨st0, hst0⟩ : ∃ st0, st0 = sumTo D.l k := ⟨_, rfl⟩
          obtain ⟨st1, hst1⟩ : ∃ st1, st1 = sumTo D.l (k + 1) := ⟨_, rfl⟩
          rw [← hst0] at s0 hm1
          rw [← hst1] at s1 hm2
          have HST : Hid (st0 = sumTo D.l k ∧ st1 = sumTo D.l (k + 1)) := ⟨hst0, hst1⟩
          clear hz hst0 hst1
          have a1 : (3 : Int) * (st0 : Int) ≤ 4294967295 := by omega
          have a2 : (0 : Int) ≤ 3 * (st0 : Int) := by omega
          have a3 : (3 : Int) * (st1 : Int) ≤ 4294967295 := by omega
          have a4 : (0 : Int) ≤ 3 * (st1 : Int) := by omega
          have b1 : (k : Int) < (nb : Int) + 1 := by omega
          have b2 : (k : Int) + 1 < (nb : Int) + 1 := by omega
          have HK7 : Hid (KAt W7 (D.jp k) (D.jn k) (D.gj k)) := HB7.out.jk k hlt
          refine Code.wp_mono NoPanic.imp ?_
          refine reg47 _ _ _ _ _ _ _ _ _ _ _ _ _ _ _ _ _ _ _ _ _ _ _ _ _ _ _ _ _ _ _ _ _ _ _ _ _ _ _ _ _ _ _ _ _ _ _ _ _ _ _ _ _ _ _ _ _ _ _ _ _ _ _ _ _ _ _ _ _ _ _ _ _ _ _ _ _ _ _ _ _ _ _ _ _ _ _ _ _ _ _ _ _ _ _ _ _ _ _ _ _ _ _ _ _ _ _ _ _ _ _ _ _ _ _ _ _ _ _ _ _ _ _ _ _ _ _ _ _ _ _ _ _ _ _ _ _ _ _ _ _ _ _ _ _ _ _ _ _ _ _ _ _ _ _ _ _ _ _ _ _ _ _ _ _ _ _ _ _ _ _ _ _ _ _ _ _ _ _ _ _ _ _ _ _ _ _ _ _ _ _ _ _ _ _ _ _ _ _ _ _ _ _ _ _ _ _ _ _ _ _ _ _ _ _ _ _ _ _ _ _ _ _ _ _ _ _ _ _ _ _ _ _ _ _ _ _ _ _ _ _ _ _ _ _ _ _ _ _ _ _ _ _ _ _ _ _ _ _ _ _ _ _ _ _ _ _ _ _ _ _ _ _ _ _ _ _ _ _ _ _ _ _ _ _ _ _ _ _ _ _ _ _ _ _ _ _ _ _ _ _ _ _ _ _ _ _ _ _ _ _ _ _ _ _ _ _ _ _ _ _ _ _ _ _ _ _ _ _ _ _ _ _ _ _ _ _ _ _ _ _ _ _ _ _ _ _ _ _ _ _ _ _ _ _ _ _ _ _ _ _ _ _ _ _ _ _ _ _ _ _ _ _ _ _ _ _ _ _ _ _ _ _ _ _ _ _ _ _ _ _ _ _ _ _ _ _ _ _ _ _ _ _ _ _ _ _ _ _ _ _ _ _ _ _ _ _ _ _ _ _ _ _ _ _ _ _ _ _ _ _ _ _ _ _ _ _ _ _ _ _ _ _ _ _ _ _ _ _ _ _ _ _ _ _ _ _ _ _ _ _ _ _ _ _ _ _ _ _ _ _ _ _ _ _ _ _ _ _ _ _ _ _ _ _ _ _ _ _ _ _ _ _ _ _ _ _ _ _ _ _ _ _ _ _ _ _ _ _ _ _ _ _ _ _ _ _ _ _ _ _ _ _ _ _ _ _ _ _ _ _ _ _ _ _ _ _ _ _ _ _ _ _ _ _ _ _ _ _ _ _ _ _ _ _ _ _ _ _ _ _ _ _ _ _ _ _ _ _ _ _ _ _ _ _ _ _ _ _ _ _ _ _ _ _ _ _ _ _ _ _ _ _ _ _ _ _ _ _ _ _ _ _ _ _ _ _ _ _ _ _ _ _ _ _ _ _ _ _ _ _ _ _ _ _ _ _ _ _ _ _ _ _ _ _ _ _ _ _ _ _ _ _ _ _ _ _ _ _ _ _ _ _ _ _ _ _ _ _ b o nb cap S13 N20 K23 k st0 st1 (D.jn k) (D.jc k) (D.jp k) (D.gj k) (D.fi k) (D.la k) z (D.ind k) _ W7 h0 hn hjk hlt s0 s1 d2 d3 d4 d5 eN7 HK7.out HP6.out.rK (by omega) (by omega) (row_ne HP6.out.rK HS7.out (by decide)) (by have := HP6.out.dist; have := HB.out.bl; omega) (row_ne HP6.out.rK HP6.out.rN (by decide)) _ ?_
          intro y211 y212 y213 y214 y215 y216 y217 y218 y219 y220 y221 y222 y223 y224 y225 y226 y227 y228 y229 y230 y231 y232 y233 y234 y235 y236 y237 y238 y239 y240 y241 y242 y243 y244 y245 y246 y247 y248 y249 y250 y251 y252 y253 q2 W8 hj8 hb8
          have HP8 : Hid (P4 wI wr N20 M21 S22 K23 nb _ _ _ _ (lay11 W8 K23 k st0 st1 (D.fi k) (D.la k) z q2 (D.jn k) (D.ind k))) := (HP6.out.below hb8).lay k st0 st1 (D.fi k) (D.la k) z q2 (D.jn k) (D.ind k)
          dsimp only
          go_wp2_with fail
          refine ⟨⟨k + 1, by simp, by omega, ?_⟩, by simp [intOf]; omega⟩
          have hdi := HP6.out.dist
          refine R4.next hlt HR.out HP8.out (fun j => ?_) ?_ ?_ ?_ h20.2 h21.2 h22.2 h23.2 (mk' := mk') (q2 := q2) (f0 := f0)
          · have := blk_lay (prg nb h0 D kd) q D.fi D.la f0 k q2 j
            have e1 : ((prg nb h0 D kd).js k).length = D.jn k := by simp [prg]
            rw [e1] at this
            rw [HZ.out, HST.out.1, HST.out.2]
            exact this
          · refine HJ6.out.keep fun g hg hl => ?_
            rw [lay11_heap _ _ _ _ _ _ _ _ _ _ _ (by omega)]
            exact hb8.block g hl
          · rcases hj8 with h | ⟨g, h1, h2, h3⟩
            · exact Or.inl h
            · exact Or.inr ⟨g, h1, Nat.le_trans HP6.out.sz h2, h3.of_block (lay11_heap _ _ _ _ _ _ _ _ _ _ _ (by have := HP6.out.sz; omega))⟩
          · rw [← HL2.out]
            refine own21_keepB HO6.out fun g hg hl => ?_
            rw [lay11_heap _ _ _ _ _ _ _ _ _ _ _ (by omega)]
            exact hb8.block g hl
    · obtain rfl : k = nb := by omega
      have hkn : ¬ (k : Int) < (k : Int) := by omega
      go_wp2_with fail
      exact HX.out _ _ _ _ _ _ _ _ _ _ _ _ _ _ _ _ _ _ _ _ _ _ _ _ _ _ _ _ _ _ _ _ _ _ _ _ _ _ _ _ _ _ _ _ _ _ _ _ _ _ _ _ _ _ _ _ _ _ _ _ _ _ _ _ _ _ _ _ _ _ _ _ _ _ _ _ _ _ _ _ _ _ _ _ _ _ _ _ _ _ _ _ _ _ _ _ _ _ _ _ _ _ _ wr hr.out

end Go.Proofs.Ybulkfqak
