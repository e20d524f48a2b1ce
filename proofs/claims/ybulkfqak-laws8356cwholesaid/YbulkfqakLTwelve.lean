import Derived.Test.YbulkfqakLPre
namespace Go.Proofs.Ybulkfqak
open Go.RowKit Go.Shelf

set_option maxRecDepth 1000000 in
set_option maxHeartbeats 4000000 in
theorem law12 (c0 c1 c2 c3 c4 c5 c7 c8 c9 c10 c14 c15 c16 c17 c18 c19 c22 c23 c24 c25 c26 c27 c28 c29 c31 c33 c34 c35 c36 c37 c38 c39 c40 c41 c42 c45 c46 c47 c48 c49 c50 c53 c54 c55 c56 c57 c58 c59 c60 c61 c62 c63 c64 c65 c66 c67 c68 c69 c70 c71 c72 c73 c74 c75 c76 c77 c78 c79 c80 c81 c82 c83 c84 c85 c86 c87 c88 c89 c90 c91 c92 c93 c94 c95 c96 c97 c98 c99 c100 c101 c102 c103 c104 c105 c106 c107 c108 c109 c110 c111 c112 c113 c114 c115 c116 c117 c118 c119 c120 c121 c122 c123 c124 c125 c126 c127 c128 c129 c130 c131 c132 c133 c134 c135 c136 c137 c138 c139 c140 c141 c142 c143 c144 c145 c146 c147 c148 c149 c150 c151 c152 c153 c154 c155 c156 c157 c158 c159 c160 c161 c162 c163 c164 c165 c166 c167 c168 c169 c170 c171 c172 c173 c174 c175 c176 c177 c178 c179 c180 c181 c182 c183 c184 c185 c186 c187 c188 c189 c190 c191 c192 c193 c194 c195 c196 c197 c198 c199 c200 c201 c202 c203 c204 c205 c206 c207 c208 c209 c210 c211 c212 c213 c214 c215 c216 c217 c218 c219 c220 c221 c222 c223 c224 c225 c226 c227 c228 c229 c230 c231 c232 c233 c234 c235 c236 c237 c238 c239 c240 c241 c242 c243 c244 c245 c246 c247 c248 c249 c250 c251 c252 c253 c254 c255 c256 c257 c258 c259 c260 c261 c262 c263 c264 c265 c266 c267 c268 c269 c270 c271 c272 c273 c274 c275 c276 c277 c278 c279 c280 c281 c282 c283 c284 c285 c286 c287 c288 c289 c290 c291 c292 c293 c294 c295 c296 c297 c298 c299 c300 c301 c302 c303 c304 c305 c306 c307 c308 c309 c310 c311 c312 c313 c314 c315 c316 c317 c318 c319 c320 c321 c322 c323 c324 c325 c326 c327 c328 c329 c330 c331 c332 c333 c334 c335 c336 c337 c338 c339 c340 c341 c342 c343 c344 c345 c346 c347 c348 c349 c350 c351 c352 c353 c354 c355 c356 c357 c358 c359 c360 c361 c362 c363 c364 c365 c366 c367 c368 c369 c370 c371 c372 c373 c374 c375 c376 c377 c378 c379 c380 c381 c382 c383 c384 c385 c386 c387 c388 c389 c390 c391 c392 c393 c394 c395 c396 c397 c398 c399 c400 c401 c402 c403 c404 c405 c406 c407 c408 c409 c410 c411 c412 c413 c414 c415 c416 c417 c418 c419 c420 c421 c422 c423 c424 c425 c426 c427 c428 c429 c430 c431 c432 c433 c434 c435 c436 c437 c438 c439 c440 c441 c442 c443 c444 c445 c446 c447 c448 c449 c450 c451 c452 c453 c454 c455 c456 c457 c458 c459 c460 c461 c462 c463 c464 c465 c466 c467 c468 c469 c470 c471 c472 c473 c474 c475 c476 c477 c478 c479 c480 c481 c482 c483 c484 c485 c486 c487 c488 c489 c490 c491 c492 c493 c494 c495 c496 c497 c498 c499 c500 c501 c502 c503 c504 c505 c506 c507 c508 c509 c510 c511 c512 c513 c514 c515 c516 c517 c518 c519 c520 c521 c522 c523 c524 c525 c526 c527 c528 c529 c530 c531 c532 c533 c534 c535 c536 c537 c538 c539 c540 c541 c542 c543 c544 : Value) (u6 u52 u545 u546 u547 u548 u549 u550 u551 u552 u553 u554 u555 u556 u557 u558 u559 u560 u561 u562 u563 u564 u565 u566 u567 u568 u569 u570 u571 u572 u573 u574 u575 u576 u577 u578 u579 u580 u581 u582 u583 u584 u585 u586 u587 u588 u589 u590 u591 u592 u593 u594 u595 u596 u597 u598 u599 u600 u601 u602 u603 u604 u605 u606 u607 u608 u609 u610 u611 u612 u613 u614 u615 u616 u617 u618 u619 u620 u621 u622 u623 u624 u625 u626 u627 u628 u629 u630 u631 u632 u633 u634 u635 u636 u637 u638 u639 u640 u641 u642 u643 u644 u645 u646 u647 u648 u649 u650 u651 u652 u653 u654 u655 u656 u657 u658 u659 u660 u661 u662 u663 u664 : Value) (b o nb cap S13 N20 M21 S32 F43 L44 C K : Nat) (p : Prg nb) (q mq : Nat → Option Addr) (fi la : Nat → Int) (sn : Nat → Bool) (D : BD) (w : World) (hn : nb ≤ 65536) (hst : ∀ i, i ≤ nb → p.st i ≤ 65536) (hjl : ∀ i, i < nb → (p.js i).length ≤ 1048576)
    (hB : BAt w b o nb D) (hind : ∀ i, D.ind i = p.ind i) (hC : w.cell? ⟨C, 2, none⟩ = some (.slice (some ⟨K, 0, none⟩) nb nb)) (rK : w.rowIs K 54 (nb * 11) (blkF p q fi la sn)) (rS : w.rowIs S13 3 (nb + 1) (fun i => .int .i64 ((p.st i : Nat) : Int)))
    (rN : w.rowIs N20 21 nb (fun i => .int .i32 (nextInt (p.nxo i)))) (rM : w.rowIs M21 48 nb (fun i => .slice (mq i) (p.js i).length (p.js i).length)) (r32 : w.rowIs S32 4 nb (fun i => .bool (sn i))) (rF : w.rowIs F43 21 nb (fun i => .int .i32 (fi i))) (rL : w.rowIs L44 21 nb (fun i => .int .i32 (la i)))
    (heq : ∀ i, i < nb → ∀ w1 : World, (∀ b : Nat, w1.heap[b]? = w.heap[b]?) → Calls Yba.prog 13 #[.slice (q i) (p.js i).length (p.js i).length, .slice (mq i) (p.js i).length (p.js i).length] w1 fun e w' => e = .returned (.bool true) ∧ ∃ m, w' = w1.drewN m) (Q1 : Exit → Act → World → Prop)
    (hexit : ∀ (v6 v51 v52 v545 v546 v547 v548 v549 v550 v551 v552 v553 v554 v555 v556 v557 v558 v559 v560 v561 v562 v563 v564 v565 v566 v567 v568 v569 v570 v571 v572 v573 v574 v575 v576 v577 v578 v579 v580 v581 v582 v583 v584 v585 v586 v587 v588 v589 v590 v591 v592 v593 v594 v595 v596 v597 v598 v599 v600 v601 v602 v603 v604 v605 v606 v607 v608 v609 v610 v611 v612 v613 v614 v615 v616 v617 v618 v619 v620 v621 v622 v623 v624 v625 v626 v627 v628 v629 v630 v631 v632 v633 v634 v635 v636 v637 v638 v639 v640 v641 v642 v643 v644 v645 v646 v647 v648 v649 v650 v651 v652 v653 v654 v655 v656 v657 v658 v659 v660 v661 v662 v663 v664 : Value) (nq : Nat), Q1 (.exit 22) ⟨#[c0, c1, c2, c3, c4, c5, v6, c7, c8, c9, c10, .slice (some ⟨b, o, none⟩) nb cap, .int .i64 ((nb : Nat) : Int), .slice (some ⟨S13, 0, none⟩) (nb + 1) (nb + 1), c14, c15, c16, c17, c18, c19, .slice (some ⟨N20, 0, none⟩) nb nb, .slice (some ⟨M21, 0, none⟩) nb nb, c22, c23, c24, c25, c26, c27, c28, c29, .pointer (some ⟨C, 0, none⟩), c31, .slice (some ⟨S32, 0, none⟩) nb nb, c33, c34, c35, c36, c37, c38, c39, c40, c41, c42, .slice (some ⟨F43, 0, none⟩) nb nb, .slice (some ⟨L44, 0, none⟩) nb nb, c45, c46, c47, c48, c49, c50, v51, v52, c53, c54, c55, c56, c57, c58, c59, c60, c61, c62, c63, c64, c65, c66, c67, c68, c69, c70, c71, c72, c73, c74, c75, c76, c77, c78, c79, c80, c81, c82, c83, c84, c85, c86, c87, c88, c89, c90, c91, c92, c93, c94, c95, c96, c97, c98, c99, c100, c101, c102, c103, c104, c105, c106, c107, c108, c109, c110, c111, c112, c113, c114, c115, c116, c117, c118, c119, c120, c121, c122, c123, c124, c125, c126, c127, c128, c129, c130, c131, c132, c133, c134, c135, c136, c137, c138, c139, c140, c141, c142, c143, c144, c145, c146, c147, c148, c149, c150, c151, c152, c153, c154, c155, c156, c157, c158, c159, c160, c161, c162, c163, c164, c165, c166, c167, c168, c169, c170, c171, c172, c173, c174, c175, c176, c177, c178, c179, c180, c181, c182, c183, c184, c185, c186, c187, c188, c189, c190, c191, c192, c193, c194, c195, c196, c197, c198, c199, c200, c201, c202, c203, c204, c205, c206, c207, c208, c209, c210, c211, c212, c213, c214, c215, c216, c217, c218, c219, c220, c221, c222, c223, c224, c225, c226, c227, c228, c229, c230, c231, c232, c233, c234, c235, c236, c237, c238, c239, c240, c241, c242, c243, c244, c245, c246, c247, c248, c249, c250, c251, c252, c253, c254, c255, c256, c257, c258, c259, c260, c261, c262, c263, c264, c265, c266, c267, c268, c269, c270, c271, c272, c273, c274, c275, c276, c277, c278, c279, c280, c281, c282, c283, c284, c285, c286, c287, c288, c289, c290, c291, c292, c293, c294, c295, c296, c297, c298, c299, c300, c301, c302, c303, c304, c305, c306, c307, c308, c309, c310, c311, c312, c313, c314, c315, c316, c317, c318, c319, c320, c321, c322, c323, c324, c325, c326, c327, c328, c329, c330, c331, c332, c333, c334, c335, c336, c337, c338, c339, c340, c341, c342, c343, c344, c345, c346, c347, c348, c349, c350, c351, c352, c353, c354, c355, c356, c357, c358, c359, c360, c361, c362, c363, c364, c365, c366, c367, c368, c369, c370, c371, c372, c373, c374, c375, c376, c377, c378, c379, c380, c381, c382, c383, c384, c385, c386, c387, c388, c389, c390, c391, c392, c393, c394, c395, c396, c397, c398, c399, c400, c401, c402, c403, c404, c405, c406, c407, c408, c409, c410, c411, c412, c413, c414, c415, c416, c417, c418, c419, c420, c421, c422, c423, c424, c425, c426, c427, c428, c429, c430, c431, c432, c433, c434, c435, c436, c437, c438, c439, c440, c441, c442, c443, c444, c445, c446, c447, c448, c449, c450, c451, c452, c453, c454, c455, c456, c457, c458, c459, c460, c461, c462, c463, c464, c465, c466, c467, c468, c469, c470, c471, c472, c473, c474, c475, c476, c477, c478, c479, c480, c481, c482, c483, c484, c485, c486, c487, c488, c489, c490, c491, c492, c493, c494, c495, c496, c497, c498, c499, c500, c501, c502, c503, c504, c505, c506, c507, c508, c509, c510, c511, c512, c513, c514, c515, c516, c517, c518, c519, c520, c521, c522, c523, c524, c525, c526, c527, c528, c529, c530, c531, c532, c533, c534, c535, c536, c537, c538, c539, c540, c541, c542, c543, c544, v545, v546, v547, v548, v549, v550, v551, v552, v553, v554, v555, v556, v557, v558, v559, v560, v561, v562, v563, v564, v565, v566, v567, v568, v569, v570, v571, v572, v573, v574, v575, v576, v577, v578, v579, v580, v581, v582, v583, v584, v585, v586, v587, v588, v589, v590, v591, v592, v593, v594, v595, v596, v597, v598, v599, v600, v601, v602, v603, v604, v605, v606, v607, v608, v609, v610, v611, v612, v613, v614, v615, v616, v617, v618, v619, v620, v621, v622, v623, v624, v625, v626, v627, v628, v629, v630, v631, v632, v633, v634, v635, v636, v637, v638, v639, v640, v641, v642, v643, v644, v645, v646, v647, v648, v649, v650, v651, v652, v653, v654, v655, v656, v657, v658, v659, v660, v661, v662, v663, v664], []⟩ (w.drewN nq)) :
    Code.wp Yba.prog (.loop (lp4 9)) (NoPanic Q1) ⟨#[c0, c1, c2, c3, c4, c5, u6, c7, c8, c9, c10, .slice (some ⟨b, o, none⟩) nb cap, .int .i64 ((nb : Nat) : Int), .slice (some ⟨S13, 0, none⟩) (nb + 1) (nb + 1), c14, c15, c16, c17, c18, c19, .slice (some ⟨N20, 0, none⟩) nb nb, .slice (some ⟨M21, 0, none⟩) nb nb, c22, c23, c24, c25, c26, c27, c28, c29, .pointer (some ⟨C, 0, none⟩), c31, .slice (some ⟨S32, 0, none⟩) nb nb, c33, c34, c35, c36, c37, c38, c39, c40, c41, c42, .slice (some ⟨F43, 0, none⟩) nb nb, .slice (some ⟨L44, 0, none⟩) nb nb, c45, c46, c47, c48, c49, c50, .int .i64 0, u52, c53, c54, c55, c56, c57, c58, c59, c60, c61, c62, c63, c64, c65, c66, c67, c68, c69, c70, c71, c72, c73, c74, c75, c76, c77, c78, c79, c80, c81, c82, c83, c84, c85, c86, c87, c88, c89, c90, c91, c92, c93, c94, c95, c96, c97, c98, c99, c100, c101, c102, c103, c104, c105, c106, c107, c108, c109, c110, c111, c112, c113, c114, c115, c116, c117, c118, c119, c120, c121, c122, c123, c124, c125, c126, c127, c128, c129, c130, c131, c132, c133, c134, c135, c136, c137, c138, c139, c140, c141, c142, c143, c144, c145, c146, c147, c148, c149, c150, c151, c152, c153, c154, c155, c156, c157, c158, c159, c160, c161, c162, c163, c164, c165, c166, c167, c168, c169, c170, c171, c172, c173, c174, c175, c176, c177, c178, c179, c180, c181, c182, c183, c184, c185, c186, c187, c188, c189, c190, c191, c192, c193, c194, c195, c196, c197, c198, c199, c200, c201, c202, c203, c204, c205, c206, c207, c208, c209, c210, c211, c212, c213, c214, c215, c216, c217, c218, c219, c220, c221, c222, c223, c224, c225, c226, c227, c228, c229, c230, c231, c232, c233, c234, c235, c236, c237, c238, c239, c240, c241, c242, c243, c244, c245, c246, c247, c248, c249, c250, c251, c252, c253, c254, c255, c256, c257, c258, c259, c260, c261, c262, c263, c264, c265, c266, c267, c268, c269, c270, c271, c272, c273, c274, c275, c276, c277, c278, c279, c280, c281, c282, c283, c284, c285, c286, c287, c288, c289, c290, c291, c292, c293, c294, c295, c296, c297, c298, c299, c300, c301, c302, c303, c304, c305, c306, c307, c308, c309, c310, c311, c312, c313, c314, c315, c316, c317, c318, c319, c320, c321, c322, c323, c324, c325, c326, c327, c328, c329, c330, c331, c332, c333, c334, c335, c336, c337, c338, c339, c340, c341, c342, c343, c344, c345, c346, c347, c348, c349, c350, c351, c352, c353, c354, c355, c356, c357, c358, c359, c360, c361, c362, c363, c364, c365, c366, c367, c368, c369, c370, c371, c372, c373, c374, c375, c376, c377, c378, c379, c380, c381, c382, c383, c384, c385, c386, c387, c388, c389, c390, c391, c392, c393, c394, c395, c396, c397, c398, c399, c400, c401, c402, c403, c404, c405, c406, c407, c408, c409, c410, c411, c412, c413, c414, c415, c416, c417, c418, c419, c420, c421, c422, c423, c424, c425, c426, c427, c428, c429, c430, c431, c432, c433, c434, c435, c436, c437, c438, c439, c440, c441, c442, c443, c444, c445, c446, c447, c448, c449, c450, c451, c452, c453, c454, c455, c456, c457, c458, c459, c460, c461, c462, c463, c464, c465, c466, c467, c468, c469, c470, c471, c472, c473, c474, c475, c476, c477, c478, c479, c480, c481, c482, c483, c484, c485, c486, c487, c488, c489, c490, c491, c492, c493, c494, c495, c496, c497, c498, c499, c500, c501, c502, c503, c504, c505, c506, c507, c508, c509, c510, c511, c512, c513, c514, c515, c516, c517, c518, c519, c520, c521, c522, c523, c524, c525, c526, c527, c528, c529, c530, c531, c532, c533, c534, c535, c536, c537, c538, c539, c540, c541, c542, c543, c544, u545, u546, u547, u548, u549, u550, u551, u552, u553, u554, u555, u556, u557, u558, u559, u560, u561, u562, u563, u564, u565, u566, u567, u568, u569, u570, u571, u572, u573, u574, u575, u576, u577, u578, u579, u580, u581, u582, u583, u584, u585, u586, u587, u588, u589, u590, u591, u592, u593, u594, u595, u596, u597, u598, u599, u600, u601, u602, u603, u604, u605, u606, u607, u608, u609, u610, u611, u612, u613, u614, u615, u616, u617, u618, u619, u620, u621, u622, u623, u624, u625, u626, u627, u628, u629, u630, u631, u632, u633, u634, u635, u636, u637, u638, u639, u640, u641, u642, u643, u644, u645, u646, u647, u648, u649, u650, u651, u652, u653, u654, u655, u656, u657, u658, u659, u660, u661, u662, u663, u664], []⟩ w := by
  conv => arg 2; arg 1; whnf
  have HX : Hid (∀ (v6 v51 v52 v545 v546 v547 v548 v549 v550 v551 v552 v553 v554 v555 v556 v557 v558 v559 v560 v561 v562 v563 v564 v565 v566 v567 v568 v569 v570 v571 v572 v573 v574 v575 v576 v577 v578 v579 v580 v581 v582 v583 v584 v585 v586 v587 v588 v589 v590 v591 v592 v593 v594 v595 v596 v597 v598 v599 v600 v601 v602 v603 v604 v605 v606 v607 v608 v609 v610 v611 v612 v613 v614 v615 v616 v617 v618 v619 v620 v621 v622 v623 v624 v625 v626 v627 v628 v629 v630 v631 v632 v633 v634 v635 v636 v637 v638 v639 v640 v641 v642 v643 v644 v645 v646 v647 v648 v649 v650 v651 v652 v653 v654 v655 v656 v657 v658 v659 v660 v661 v662 v663 v664 : Value) (nq : Nat), Q1 (.exit 22) ⟨#[c0, c1, c2, c3, c4, c5, v6, c7, c8, c9, c10, .slice (some ⟨b, o, none⟩) nb cap, .int .i64 ((nb : Nat) : Int), .slice (some ⟨S13, 0, none⟩) (nb + 1) (nb + 1), c14, c15, c16, c17, c18, c19, .slice (some ⟨N20, 0, none⟩) nb nb, .slice (some ⟨M21, 0, none⟩) nb nb, c22, c23, c24, c25, c26, c27, c28, c29, .pointer (some ⟨C, 0, none⟩), c31, .slice (some ⟨S32, 0, none⟩) nb nb, c33, c34, c35, c36, c37, c38, c39, c40, c41, c42, .slice (some ⟨F43, 0, none⟩) nb nb, .slice (some ⟨L44, 0, none⟩) nb nb, c45, c46, c47, c48, c49, c50, v51, v52, c53, c54, c55, c56, c57, c58, c59, c60, c61, c62, c63, c64, c65, c66, c67, c68, c69, c70, c71, c72, c73, c74, c75, c76, c77, c78, c79, c80, c81, c82, c83, c84, c85, c86, c87, c88, c89, c90, c91, c92, c93, c94, c95, c96, c97, c98, c99, c100, c101, c102, c103, c104, c105, c106, c107, c108, c109, c110, c111, c112, c113, c114, c115, c116, c117, c118, c119, c120, c121, c122, c123, c124, c125, c126, c127, c128, c129, c130, c131, c132, c133, c134, c135, c136, c137, c138, c139, c140, c141, c142, c143, c144, c145, c146, c147, c148, c149, c150, c151, c152, c153, c154, c155, c156, c157, c158, c159, c160, c161, c162, c163, c164, c165, c166, c167, c168, c169, c170, c171, c172, c173, c174, c175, c176, c177, c178, c179, c180, c181, c182, c183, c184, c185, c186, c187, c188, c189, c190, c191, c192, c193, c194, c195, c196, c197, c198, c199, c200, c201, c202, c203, c204, c205, c206, c207, c208, c209, c210, c211, c212, c213, c214, c215, c216, c217, c218, c219, c220, c221, c222, c223, c224, c225, c226, c227, c228, c229, c230, c231, c232, c233, c234, c235, c236, c237, c238, c239, c240, c241, c242, c243, c244, c245, c246, c247, c248, c249, c250, c251, c252, c253, c254, c255, c256, c257, c258, c259, c260, c261, c262, c263, c264, c265, c266, c267, c268, c269, c270, c271, c272, c273, c274, c275, c276, c277, c278, c279, c280, c281, c282, c283, c284, c285, c286, c287, c288, c289, c290, c291, c292, c293, c294, c295, c296, c297, c298, c299, c300, c301, c302, c303, c304, c305, c306, c307, c308, c309, c310, c311, c312, c313, c314, c315, c316, c317, c318, c319, c320, c321, c322, c323, c324, c325, c326, c327, c328, c329, c330, c331, c332, c333, c334, c335, c336, c337, c338, c339, c340, c341, c342, c343, c344, c345, c346, c347, c348, c349, c350, c351, c352, c353, c354, c355, c356, c357, c358, c359, c360, c361, c362, c363, c364, c365, c366, c367, c368, c369, c370, c371, c372, c373, c374, c375, c376, c377, c378, c379, c380, c381, c382, c383, c384, c385, c386, c387, c388, c389, c390, c391, c392, c393, c394, c395, c396, c397, c398, c399, c400, c401, c402, c403, c404, c405, c406, c407, c408, c409, c410, c411, c412, c413, c414, c415, c416, c417, c418, c419, c420, c421, c422, c423, c424, c425, c426, c427, c428, c429, c430, c431, c432, c433, c434, c435, c436, c437, c438, c439, c440, c441, c442, c443, c444, c445, c446, c447, c448, c449, c450, c451, c452, c453, c454, c455, c456, c457, c458, c459, c460, c461, c462, c463, c464, c465, c466, c467, c468, c469, c470, c471, c472, c473, c474, c475, c476, c477, c478, c479, c480, c481, c482, c483, c484, c485, c486, c487, c488, c489, c490, c491, c492, c493, c494, c495, c496, c497, c498, c499, c500, c501, c502, c503, c504, c505, c506, c507, c508, c509, c510, c511, c512, c513, c514, c515, c516, c517, c518, c519, c520, c521, c522, c523, c524, c525, c526, c527, c528, c529, c530, c531, c532, c533, c534, c535, c536, c537, c538, c539, c540, c541, c542, c543, c544, v545, v546, v547, v548, v549, v550, v551, v552, v553, v554, v555, v556, v557, v558, v559, v560, v561, v562, v563, v564, v565, v566, v567, v568, v569, v570, v571, v572, v573, v574, v575, v576, v577, v578, v579, v580, v581, v582, v583, v584, v585, v586, v587, v588, v589, v590, v591, v592, v593, v594, v595, v596, v597, v598, v599, v600, v601, v602, v603, v604, v605, v606, v607, v608, v609, v610, v611, v612, v613, v614, v615, v616, v617, v618, v619, v620, v621, v622, v623, v624, v625, v626, v627, v628, v629, v630, v631, v632, v633, v634, v635, v636, v637, v638, v639, v640, v641, v642, v643, v644, v645, v646, v647, v648, v649, v650, v651, v652, v653, v654, v655, v656, v657, v658, v659, v660, v661, v662, v663, v664], []⟩ (w.drewN nq)) := hexit
  have HB : Hid (BAt w b o nb D) := hB
  have HE : Hid (∀ i, i < nb → ∀ w1 : World, (∀ b : Nat, w1.heap[b]? = w.heap[b]?) → Calls Yba.prog 13 #[.slice (q i) (p.js i).length (p.js i).length, .slice (mq i) (p.js i).length (p.js i).length] w1 fun e w' => e = .returned (.bool true) ∧ ∃ m, w' = w1.drewN m) := heq
  have HR : Hid (w.rowIs K 54 (nb * 11) (blkF p q fi la sn) ∧ w.rowIs S13 3 (nb + 1) (fun i => .int .i64 ((p.st i : Nat) : Int)) ∧ w.rowIs N20 21 nb (fun i => .int .i32 (nextInt (p.nxo i))) ∧ w.rowIs M21 48 nb (fun i => .slice (mq i) (p.js i).length (p.js i).length) ∧ w.rowIs S32 4 nb (fun i => .bool (sn i)) ∧ w.rowIs F43 21 nb (fun i => .int .i32 (fi i)) ∧ w.rowIs L44 21 nb (fun i => .int .i32 (la i))) := ⟨rK, rS, rN, rM, r32, rF, rL⟩
  have HT : Hid ((∀ i, i ≤ nb → p.st i ≤ 65536) ∧ (∀ i, i < nb → (p.js i).length ≤ 1048576) ∧ ∀ i, D.ind i = p.ind i) := ⟨hst, hjl, hind⟩
  clear hexit hB heq rK rS rN rM r32 rF rL hst hjl hind
  dsimp only
  go_loopw [51] (fun s wr => ∃ k : Nat, s = .int .i64 (k : Int) ∧ k ≤ nb ∧ Hid (∃ m, wr = w.drewN m)) (fun s _ => nb - (intOf s).toNat)
  case atStart => exact ⟨0, rfl, by omega, ⟨0, rfl⟩⟩
  case round =>
    obtain ⟨k, rfl, hk, HW⟩ := hrel
    have tr : ∀ a, wr.cell? a = w.cell? a := by obtain ⟨m, rfl⟩ := HW.out; intro a; rfl
    have HHp : Hid (∀ b : Nat, wr.heap[b]? = w.heap[b]?) := by obtain ⟨m, rfl⟩ := HW.out; intro b; rfl
    have hC2 := (tr _).trans hC
    by_cases hlt : k < nb
    · have hkn : (k : Int) < (nb : Int) := by omega
      have q1 : (k : Int) < (nb : Int) + 1 := by omega
      have q2 : (k : Int) + 1 < (nb : Int) + 1 := by omega
      have a0 := HR.out.1.cell (i := k * 11) (by omega)
      have a1 := HR.out.1.cell (i := k * 11 + 1) (by omega)
      have a2 := HR.out.1.cell (i := k * 11 + 2) (by omega)
      have a3 := HR.out.1.cell (i := k * 11 + 3) (by omega)
      have a4 := HR.out.1.cell (i := k * 11 + 4) (by omega)
      have a5 := HR.out.1.cell (i := k * 11 + 5) (by omega)
      have a6 := HR.out.1.cell (i := k * 11 + 6) (by omega)
      have a7 := HR.out.1.cell (i := k * 11 + 7) (by omega)
      have a8 := HR.out.1.cell (i := k * 11 + 8) (by omega)
      have a9 := HR.out.1.cell (i := k * 11 + 9) (by omega)
      have a10 := HR.out.1.cell (i := k * 11 + 10) (by omega)
      rw [blk0] at a0
      rw [← tr] at a0
      rw [blk1] at a1
      rw [← tr] at a1
      rw [blk2] at a2
      rw [← tr] at a2
      rw [blk3] at a3
      rw [← tr] at a3
      rw [blk4] at a4
      rw [← tr] at a4
      rw [blk5] at a5
      rw [← tr] at a5
      rw [blk6] at a6
      rw [← tr] at a6
      rw [blk7] at a7
      rw [← tr] at a7
      rw [blk8] at a8
      rw [← tr] at a8
      rw [blk9] at a9
      rw [← tr] at a9
      rw [blk10] at a10
      rw [← tr] at a10
      have b0 := HR.out.2.1.cell (i := k) (by omega)
      have b1 := HR.out.2.1.cell (i := k + 1) (by omega)
      have b2 := HR.out.2.2.1.cell hlt
      have b3 := HR.out.2.2.2.1.cell hlt
      have b4 := HR.out.2.2.2.2.1.cell hlt
      have b5 := HR.out.2.2.2.2.2.1.cell hlt
      have b6 := HR.out.2.2.2.2.2.2.cell hlt
      have d3 := HB.out.c3 k hlt
      rw [HT.out.2.2] at d3
      rw [← tr] at d3
      rw [← tr] at b0
      rw [← tr] at b1
      rw [← tr] at b2
      rw [← tr] at b3
      rw [← tr] at b4
      rw [← tr] at b5
      rw [← tr] at b6
      have t0 := HT.out.1 k (by omega)
      have t1 := HT.out.1 (k + 1) (by omega)
      have t2 := HT.out.2.1 k hlt
      have HEk : Hid (∀ w1 : World, (∀ b : Nat, w1.heap[b]? = w.heap[b]?) → Calls Yba.prog 13 #[.slice (q k) (p.js k).length (p.js k).length, .slice (mq k) (p.js k).length (p.js k).length] w1 fun e w' => e = .returned (.bool true) ∧ ∃ m, w' = w1.drewN m) := HE.out k hlt
      clear tr hC
      generalize p.st k = x0 at *
      generalize p.st (k + 1) = x1 at *
      generalize nextInt (p.nxo k) = x2 at *
      generalize (p.js k).length = x3 at *
      generalize p.ind k = x4 at *
      generalize sn k = x5 at *
      generalize fi k = x6 at *
      generalize la k = x7 at *
      generalize q k = x8 at *
      generalize mq k = x9 at *
      have u1 : (3 : Int) * (x0 : Int) ≤ 4294967295 := by omega
      have u2 : (0 : Int) ≤ 3 * (x0 : Int) := by omega
      have u3 : (3 : Int) * (x1 : Int) ≤ 4294967295 := by omega
      have u4 : (0 : Int) ≤ 3 * (x1 : Int) := by omega
      have y1 : IntKind.i64.wrap (3 * (x0 : Int)) = 3 * (x0 : Int) := by rw [IntKind.wrap_i64]; omega
      have y2 : IntKind.i64.wrap (3 * (x1 : Int)) = 3 * (x1 : Int) := by rw [IntKind.wrap_i64]; omega
      have y3 : IntKind.u32.wrap (3 * (x0 : Int)) = 3 * (x0 : Int) := by rw [IntKind.wrap_u32]; omega
      have y4 : IntKind.u32.wrap (3 * (x1 : Int)) = 3 * (x1 : Int) := by rw [IntKind.wrap_u32]; omega
      have y5 : IntKind.i64.wrap ((k : Int) + 1) = (k : Int) + 1 := by rw [IntKind.wrap_i64]; omega
      have y6 : (0 : Int) ≤ (k : Int) + 1 := by omega
      have y7 : k + 1 < nb + 1 := by omega
      go_upto_region 122 with fail
      go_quiet ((go_at_call 13; exact Calls.quiet_of (HEk.out _ HHp.out)))
      go_upto_region 124 with fail
      go_quiet (fail)
      go_upto_region 126 with fail
      go_quiet (fail)
      go_wp2_with fail
      go_roundw
      case rel =>
        refine ⟨k + 1, by simp, by omega, ?_⟩
        obtain ⟨m, hm⟩ := HW.out
        rw [hm]
        exact ⟨_, World.drewN_drewN _ _ _⟩
      case measure => simp [intOf]; omega
    · obtain rfl : k = nb := by omega
      have hkn : ¬ (k : Int) < (k : Int) := by omega
      go_wp2_with fail
      obtain ⟨m, hm⟩ := HW.out
      rw [hm]
      exact HX.out _ _ _ _ _ _ _ _ _ _ _ _ _ _ _ _ _ _ _ _ _ _ _ _ _ _ _ _ _ _ _ _ _ _ _ _ _ _ _ _ _ _ _ _ _ _ _ _ _ _ _ _ _ _ _ _ _ _ _ _ _ _ _ _ _ _ _ _ _ _ _ _ _ _ _ _ _ _ _ _ _ _ _ _ _ _ _ _ _ _ _ _ _ _ _ _ _ _ _ _ _ _ _ _ _ _ _ _ _ _ _ _ _ _ _ _ _ _ _ _ _ _ _ m

end Go.Proofs.Ybulkfqak
