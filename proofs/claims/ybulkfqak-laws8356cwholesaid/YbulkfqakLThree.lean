import Derived.Test.YbulkfqakLBase
namespace Go.Proofs.Ybulkfqak
open Go.RowKit Go.Shelf

attribute [-simp] Yba.isAgg46
/-- the instructions as they are laid -/
def InstRow (W : World) (I N : Nat) (kd : Nat → Nat) (k : Nat) : Prop := (∃ c, W.heap[I]? = some (.cells c 46 (0, 0)) ∧ c.size = N * 26) ∧ ∀ i, i < k → W.rangeAt I (i * 26) (kindCells (kd i))
theorem InstRow.keep {W W' : World} {I N k : Nat} {kd : Nat → Nat} (h : InstRow W I N kd k) (e : W'.heap[I]? = W.heap[I]?) : InstRow W' I N kd k := by
  obtain ⟨⟨c, h1, h2⟩, h3⟩ := h
  exact ⟨⟨c, e.trans h1, h2⟩, fun i hi j v hv => (World.cell?_of_block (a := ⟨I, _, none⟩) e).trans (h3 i hi j v hv)⟩
theorem InstRow.lt {W : World} {I N k : Nat} {kd : Nat → Nat} (h : InstRow W I N kd k) : I < W.heap.size := by
  obtain ⟨⟨c, h1, _⟩, _⟩ := h
  exact (Array.getElem?_eq_some_iff.1 h1).1
theorem InstRow.ne {W : World} {I N k b n : Nat} {t : TypeId} {f : Nat → Value} {kd : Nat → Nat} (h : InstRow W I N kd k) (hb : W.rowIs b t n f) (ht : t ≠ 46) : b ≠ I := by
  intro e
  obtain ⟨⟨c, h1, _⟩, _⟩ := h
  obtain ⟨c', h2, _⟩ := hb
  rw [e, h1] at h2
  injection h2 with h2
  injection h2 with _ h2
  exact ht h2.symm
theorem kindCells_length (k : Nat) : (kindCells k).length = 26 := rfl
theorem kindCells_one (k : Nat) : (kindCells k).toArray.all (·.oneCell') = true := by simp [kindCells, instCells, Value.oneCell']
theorem InstRow.there {W : World} {I N k : Nat} {kd : Nat → Nat} (h : InstRow W I N kd k) {i : Nat} (hi : i < N) : W.there I (i * 26) 26 := by
  obtain ⟨⟨c, h1, h2⟩, _⟩ := h
  intro j hj
  have : i * 26 + j < c.size := by omega
  simp [World.cell?, World.frozen?, h1, this]
theorem InstRow.put {W : World} {I N k : Nat} {kd : Nat → Nat} (h : InstRow W I N kd k) (hk : k < N) : InstRow (W.setCells I (k * 26) (kindCells (kd k))) I N kd (k + 1) := by
  have ht := h.there hk
  obtain ⟨⟨c, h1, h2⟩, h3⟩ := h
  obtain ⟨c', h4, h5⟩ := block_sets I (kindCells (kd k)) (k * 26) W c h1
  refine ⟨⟨c', h4, by omega⟩, fun i hi => ?_⟩
  by_cases e : i = k
  · subst e
    exact World.rangeAt_setCells_same _ _ _ _ (by rw [kindCells_length]; exact ht)
  · refine World.rangeAt_setCells_apart (h3 i (by omega)) _ _ _ (Or.inr ?_)
    rw [kindCells_length, kindCells_length]
    omega
set_option maxRecDepth 1000000 in
set_option maxHeartbeats 4000000 in
theorem law3 (c1 c2 c3 c4 c5 c6 c7 c8 c9 c10 c11 c12 c13 c14 c20 c21 c22 c23 c24 c25 c26 c27 c28 c29 c30 c31 c32 c33 c34 c35 c36 c37 c38 c39 c40 c41 c42 c43 c44 c45 c46 c47 c48 c49 c50 c51 c52 c53 c54 c55 c56 c57 c58 c59 c60 c61 c62 c63 c64 c65 c66 c67 c68 c69 c70 c71 c72 c73 c74 c75 c76 c77 c78 c79 c80 c81 c82 c83 c84 c85 c86 c87 c88 c89 c90 c91 c92 c93 c94 c95 c96 c97 c98 c99 c100 c101 c102 c103 c104 c105 c106 c107 c108 c109 c110 c111 c112 c113 c114 c115 c116 c117 c118 c119 c145 c146 c147 c148 c149 c150 c151 c152 c153 c154 c155 c156 c157 c158 c159 c160 c161 c162 c163 c164 c165 c166 c167 c168 c169 c170 c171 c172 c173 c174 c175 c176 c177 c178 c179 c180 c181 c182 c183 c184 c185 c186 c187 c188 c189 c190 c191 c192 c193 c194 c195 c196 c197 c198 c199 c200 c201 c202 c203 c204 c205 c206 c207 c208 c209 c210 c211 c212 c213 c214 c215 c216 c217 c218 c219 c220 c221 c222 c223 c224 c225 c226 c227 c228 c229 c230 c231 c232 c233 c234 c235 c236 c237 c238 c239 c240 c241 c242 c243 c244 c245 c246 c247 c248 c249 c250 c251 c252 c253 c254 c255 c256 c257 c258 c259 c260 c261 c262 c263 c264 c265 c266 c267 c268 c269 c270 c271 c272 c273 c274 c275 c276 c277 c278 c279 c280 c281 c282 c283 c284 c285 c286 c287 c288 c289 c290 c291 c292 c293 c294 c295 c296 c297 c298 c299 c300 c301 c302 c303 c304 c305 c306 c307 c308 c309 c310 c311 c312 c313 c314 c315 c316 c317 c318 c319 c320 c321 c322 c323 c324 c325 c326 c327 c328 c329 c330 c331 c332 c333 c334 c335 c336 c337 c338 c339 c340 c341 c342 c343 c344 c345 c346 c347 c348 c349 c350 c351 c352 c353 c354 c355 c356 c357 c358 c359 c360 c361 c362 c363 c364 c365 c366 c367 c368 c369 c370 c371 c372 c373 c374 c375 c376 c377 c378 c379 c380 c381 c382 c383 c384 c385 c386 c387 c388 c389 c390 c391 c392 c393 c394 c395 c396 c397 c398 c399 c400 c401 c402 c403 c404 c405 c406 c407 c408 c409 c410 c411 c412 c413 c414 c415 c416 c417 c418 c419 c420 c421 c422 c423 c424 c425 c426 c427 c428 c429 c430 c431 c432 c433 c434 c435 c436 c437 c438 c439 c440 c441 c442 c443 c444 c445 c446 c447 c448 c449 c450 c451 c452 c453 c454 c455 c456 c457 c458 c459 c460 c461 c462 c463 c464 c465 c466 c467 c468 c469 c470 c471 c472 c473 c474 c475 c476 c477 c478 c479 c480 c481 c482 c483 c484 c485 c486 c487 c488 c489 c490 c491 c492 c493 c494 c495 c496 c497 c498 c499 c500 c501 c502 c503 c504 c505 c506 c507 c508 c509 c510 c511 c512 c513 c514 c515 c516 c517 c518 c519 c520 c521 c522 c523 c524 c525 c526 c527 c528 c529 c530 c531 c532 c533 c534 c535 c536 c537 c538 c539 c540 c541 c542 c543 c544 c545 c546 c547 c548 c549 c550 c551 c552 c553 c554 c555 c556 c557 c558 c559 c560 c561 c562 c563 c564 c565 c566 c567 c568 c569 c570 c571 c572 c573 c574 c575 c576 c577 c578 c579 c580 c581 c582 c583 c584 c585 c586 c587 c588 c589 c590 c591 c592 c593 c594 c595 c596 c597 c598 c599 c600 c601 c602 c603 c604 c605 c606 c607 c608 c609 c610 c611 c612 c613 c614 c615 c616 c617 c618 c619 c620 c621 c622 c623 c624 c625 c626 c627 c628 c629 c630 c631 c632 c633 c634 c635 c636 c637 c638 c639 c640 c641 c642 c643 c644 c645 c646 c647 c648 c649 c650 c651 c652 c653 c654 c655 c656 c657 c658 c659 c660 c661 c662 c663 c664 : Value) (u120 u121 u122 u123 u124 u125 u126 u127 u128 u129 u130 u131 u132 u133 u134 u135 u136 u137 u138 u139 u140 u141 u142 u143 u144 : Value) (kp : Option Addr) (kn kcap N K16 I17 O18 : Nat) (g : Nat → Nat) (wI w : World) (hkn : kn ≤ 9223372036854775807) (hN : N ≤ 65536) (hK : KAt wI kp kn g) (hw : Below wI.heap.size wI w) (h16 : wI.heap.size ≤ K16) (h17 : wI.heap.size ≤ I17) (h18 : wI.heap.size ≤ O18)
    (r16 : w.rowIs K16 3 N (fun _ => .int .i64 0)) (r17 : InstRow w I17 N (kindOf kn g) 0) (r18 : w.rowIs O18 40 N (fun _ => .int .u32 0)) (Q1 : Exit → Act → World → Prop)
    (hexit : ∀ (v19 v120 v121 v122 v123 v124 v125 v126 v127 v128 v129 v130 v131 v132 v133 v134 v135 v136 v137 v138 v139 v140 v141 v142 v143 v144 : Value) (W' : World), Below wI.heap.size wI W' → W'.rowIs K16 3 N (fun i => .int .i64 ((kindOf kn g i : Nat) : Int)) → InstRow W' I17 N (kindOf kn g) N → W'.rowIs O18 40 N (fun i => .int .u32 ((3 * i : Nat) : Int)) → Q1 (.exit 4) ⟨#[.slice kp kn kcap, c1, c2, c3, c4, c5, c6, c7, c8, c9, c10, c11, c12, c13, c14, .int .i64 ((N : Nat) : Int), .slice (some ⟨K16, 0, none⟩) N N, .slice (some ⟨I17, 0, none⟩) N N, .slice (some ⟨O18, 0, none⟩) N N, v19, c20, c21, c22, c23, c24, c25, c26, c27, c28, c29, c30, c31, c32, c33, c34, c35, c36, c37, c38, c39, c40, c41, c42, c43, c44, c45, c46, c47, c48, c49, c50, c51, c52, c53, c54, c55, c56, c57, c58, c59, c60, c61, c62, c63, c64, c65, c66, c67, c68, c69, c70, c71, c72, c73, c74, c75, c76, c77, c78, c79, c80, c81, c82, c83, c84, c85, c86, c87, c88, c89, c90, c91, c92, c93, c94, c95, c96, c97, c98, c99, c100, c101, c102, c103, c104, c105, c106, c107, c108, c109, c110, c111, c112, c113, c114, c115, c116, c117, c118, c119, v120, v121, v122, v123, v124, v125, v126, v127, v128, v129, v130, v131, v132, v133, v134, v135, v136, v137, v138, v139, v140, v141, v142, v143, v144, c145, c146, c147, c148, c149, c150, c151, c152, c153, c154, c155, c156, c157, c158, c159, c160, c161, c162, c163, c164, c165, c166, c167, c168, c169, c170, c171, c172, c173, c174, c175, c176, c177, c178, c179, c180, c181, c182, c183, c184, c185, c186, c187, c188, c189, c190, c191, c192, c193, c194, c195, c196, c197, c198, c199, c200, c201, c202, c203, c204, c205, c206, c207, c208, c209, c210, c211, c212, c213, c214, c215, c216, c217, c218, c219, c220, c221, c222, c223, c224, c225, c226, c227, c228, c229, c230, c231, c232, c233, c234, c235, c236, c237, c238, c239, c240, c241, c242, c243, c244, c245, c246, c247, c248, c249, c250, c251, c252, c253, c254, c255, c256, c257, c258, c259, c260, c261, c262, c263, c264, c265, c266, c267, c268, c269, c270, c271, c272, c273, c274, c275, c276, c277, c278, c279, c280, c281, c282, c283, c284, c285, c286, c287, c288, c289, c290, c291, c292, c293, c294, c295, c296, c297, c298, c299, c300, c301, c302, c303, c304, c305, c306, c307, c308, c309, c310, c311, c312, c313, c314, c315, c316, c317, c318, c319, c320, c321, c322, c323, c324, c325, c326, c327, c328, c329, c330, c331, c332, c333, c334, c335, c336, c337, c338, c339, c340, c341, c342, c343, c344, c345, c346, c347, c348, c349, c350, c351, c352, c353, c354, c355, c356, c357, c358, c359, c360, c361, c362, c363, c364, c365, c366, c367, c368, c369, c370, c371, c372, c373, c374, c375, c376, c377, c378, c379, c380, c381, c382, c383, c384, c385, c386, c387, c388, c389, c390, c391, c392, c393, c394, c395, c396, c397, c398, c399, c400, c401, c402, c403, c404, c405, c406, c407, c408, c409, c410, c411, c412, c413, c414, c415, c416, c417, c418, c419, c420, c421, c422, c423, c424, c425, c426, c427, c428, c429, c430, c431, c432, c433, c434, c435, c436, c437, c438, c439, c440, c441, c442, c443, c444, c445, c446, c447, c448, c449, c450, c451, c452, c453, c454, c455, c456, c457, c458, c459, c460, c461, c462, c463, c464, c465, c466, c467, c468, c469, c470, c471, c472, c473, c474, c475, c476, c477, c478, c479, c480, c481, c482, c483, c484, c485, c486, c487, c488, c489, c490, c491, c492, c493, c494, c495, c496, c497, c498, c499, c500, c501, c502, c503, c504, c505, c506, c507, c508, c509, c510, c511, c512, c513, c514, c515, c516, c517, c518, c519, c520, c521, c522, c523, c524, c525, c526, c527, c528, c529, c530, c531, c532, c533, c534, c535, c536, c537, c538, c539, c540, c541, c542, c543, c544, c545, c546, c547, c548, c549, c550, c551, c552, c553, c554, c555, c556, c557, c558, c559, c560, c561, c562, c563, c564, c565, c566, c567, c568, c569, c570, c571, c572, c573, c574, c575, c576, c577, c578, c579, c580, c581, c582, c583, c584, c585, c586, c587, c588, c589, c590, c591, c592, c593, c594, c595, c596, c597, c598, c599, c600, c601, c602, c603, c604, c605, c606, c607, c608, c609, c610, c611, c612, c613, c614, c615, c616, c617, c618, c619, c620, c621, c622, c623, c624, c625, c626, c627, c628, c629, c630, c631, c632, c633, c634, c635, c636, c637, c638, c639, c640, c641, c642, c643, c644, c645, c646, c647, c648, c649, c650, c651, c652, c653, c654, c655, c656, c657, c658, c659, c660, c661, c662, c663, c664], []⟩ W') :
    Code.wp Yba.prog (.loop (lp4 2)) (NoPanic Q1) ⟨#[.slice kp kn kcap, c1, c2, c3, c4, c5, c6, c7, c8, c9, c10, c11, c12, c13, c14, .int .i64 ((N : Nat) : Int), .slice (some ⟨K16, 0, none⟩) N N, .slice (some ⟨I17, 0, none⟩) N N, .slice (some ⟨O18, 0, none⟩) N N, .int .i64 0, c20, c21, c22, c23, c24, c25, c26, c27, c28, c29, c30, c31, c32, c33, c34, c35, c36, c37, c38, c39, c40, c41, c42, c43, c44, c45, c46, c47, c48, c49, c50, c51, c52, c53, c54, c55, c56, c57, c58, c59, c60, c61, c62, c63, c64, c65, c66, c67, c68, c69, c70, c71, c72, c73, c74, c75, c76, c77, c78, c79, c80, c81, c82, c83, c84, c85, c86, c87, c88, c89, c90, c91, c92, c93, c94, c95, c96, c97, c98, c99, c100, c101, c102, c103, c104, c105, c106, c107, c108, c109, c110, c111, c112, c113, c114, c115, c116, c117, c118, c119, u120, u121, u122, u123, u124, u125, u126, u127, u128, u129, u130, u131, u132, u133, u134, u135, u136, u137, u138, u139, u140, u141, u142, u143, u144, c145, c146, c147, c148, c149, c150, c151, c152, c153, c154, c155, c156, c157, c158, c159, c160, c161, c162, c163, c164, c165, c166, c167, c168, c169, c170, c171, c172, c173, c174, c175, c176, c177, c178, c179, c180, c181, c182, c183, c184, c185, c186, c187, c188, c189, c190, c191, c192, c193, c194, c195, c196, c197, c198, c199, c200, c201, c202, c203, c204, c205, c206, c207, c208, c209, c210, c211, c212, c213, c214, c215, c216, c217, c218, c219, c220, c221, c222, c223, c224, c225, c226, c227, c228, c229, c230, c231, c232, c233, c234, c235, c236, c237, c238, c239, c240, c241, c242, c243, c244, c245, c246, c247, c248, c249, c250, c251, c252, c253, c254, c255, c256, c257, c258, c259, c260, c261, c262, c263, c264, c265, c266, c267, c268, c269, c270, c271, c272, c273, c274, c275, c276, c277, c278, c279, c280, c281, c282, c283, c284, c285, c286, c287, c288, c289, c290, c291, c292, c293, c294, c295, c296, c297, c298, c299, c300, c301, c302, c303, c304, c305, c306, c307, c308, c309, c310, c311, c312, c313, c314, c315, c316, c317, c318, c319, c320, c321, c322, c323, c324, c325, c326, c327, c328, c329, c330, c331, c332, c333, c334, c335, c336, c337, c338, c339, c340, c341, c342, c343, c344, c345, c346, c347, c348, c349, c350, c351, c352, c353, c354, c355, c356, c357, c358, c359, c360, c361, c362, c363, c364, c365, c366, c367, c368, c369, c370, c371, c372, c373, c374, c375, c376, c377, c378, c379, c380, c381, c382, c383, c384, c385, c386, c387, c388, c389, c390, c391, c392, c393, c394, c395, c396, c397, c398, c399, c400, c401, c402, c403, c404, c405, c406, c407, c408, c409, c410, c411, c412, c413, c414, c415, c416, c417, c418, c419, c420, c421, c422, c423, c424, c425, c426, c427, c428, c429, c430, c431, c432, c433, c434, c435, c436, c437, c438, c439, c440, c441, c442, c443, c444, c445, c446, c447, c448, c449, c450, c451, c452, c453, c454, c455, c456, c457, c458, c459, c460, c461, c462, c463, c464, c465, c466, c467, c468, c469, c470, c471, c472, c473, c474, c475, c476, c477, c478, c479, c480, c481, c482, c483, c484, c485, c486, c487, c488, c489, c490, c491, c492, c493, c494, c495, c496, c497, c498, c499, c500, c501, c502, c503, c504, c505, c506, c507, c508, c509, c510, c511, c512, c513, c514, c515, c516, c517, c518, c519, c520, c521, c522, c523, c524, c525, c526, c527, c528, c529, c530, c531, c532, c533, c534, c535, c536, c537, c538, c539, c540, c541, c542, c543, c544, c545, c546, c547, c548, c549, c550, c551, c552, c553, c554, c555, c556, c557, c558, c559, c560, c561, c562, c563, c564, c565, c566, c567, c568, c569, c570, c571, c572, c573, c574, c575, c576, c577, c578, c579, c580, c581, c582, c583, c584, c585, c586, c587, c588, c589, c590, c591, c592, c593, c594, c595, c596, c597, c598, c599, c600, c601, c602, c603, c604, c605, c606, c607, c608, c609, c610, c611, c612, c613, c614, c615, c616, c617, c618, c619, c620, c621, c622, c623, c624, c625, c626, c627, c628, c629, c630, c631, c632, c633, c634, c635, c636, c637, c638, c639, c640, c641, c642, c643, c644, c645, c646, c647, c648, c649, c650, c651, c652, c653, c654, c655, c656, c657, c658, c659, c660, c661, c662, c663, c664], []⟩ w := by
  conv => arg 2; arg 1; whnf
  have HX : Hid (∀ (v19 v120 v121 v122 v123 v124 v125 v126 v127 v128 v129 v130 v131 v132 v133 v134 v135 v136 v137 v138 v139 v140 v141 v142 v143 v144 : Value) (W' : World), Below wI.heap.size wI W' → W'.rowIs K16 3 N (fun i => .int .i64 ((kindOf kn g i : Nat) : Int)) → InstRow W' I17 N (kindOf kn g) N → W'.rowIs O18 40 N (fun i => .int .u32 ((3 * i : Nat) : Int)) → Q1 (.exit 4) ⟨#[.slice kp kn kcap, c1, c2, c3, c4, c5, c6, c7, c8, c9, c10, c11, c12, c13, c14, .int .i64 ((N : Nat) : Int), .slice (some ⟨K16, 0, none⟩) N N, .slice (some ⟨I17, 0, none⟩) N N, .slice (some ⟨O18, 0, none⟩) N N, v19, c20, c21, c22, c23, c24, c25, c26, c27, c28, c29, c30, c31, c32, c33, c34, c35, c36, c37, c38, c39, c40, c41, c42, c43, c44, c45, c46, c47, c48, c49, c50, c51, c52, c53, c54, c55, c56, c57, c58, c59, c60, c61, c62, c63, c64, c65, c66, c67, c68, c69, c70, c71, c72, c73, c74, c75, c76, c77, c78, c79, c80, c81, c82, c83, c84, c85, c86, c87, c88, c89, c90, c91, c92, c93, c94, c95, c96, c97, c98, c99, c100, c101, c102, c103, c104, c105, c106, c107, c108, c109, c110, c111, c112, c113, c114, c115, c116, c117, c118, c119, v120, v121, v122, v123, v124, v125, v126, v127, v128, v129, v130, v131, v132, v133, v134, v135, v136, v137, v138, v139, v140, v141, v142, v143, v144, c145, c146, c147, c148, c149, c150, c151, c152, c153, c154, c155, c156, c157, c158, c159, c160, c161, c162, c163, c164, c165, c166, c167, c168, c169, c170, c171, c172, c173, c174, c175, c176, c177, c178, c179, c180, c181, c182, c183, c184, c185, c186, c187, c188, c189, c190, c191, c192, c193, c194, c195, c196, c197, c198, c199, c200, c201, c202, c203, c204, c205, c206, c207, c208, c209, c210, c211, c212, c213, c214, c215, c216, c217, c218, c219, c220, c221, c222, c223, c224, c225, c226, c227, c228, c229, c230, c231, c232, c233, c234, c235, c236, c237, c238, c239, c240, c241, c242, c243, c244, c245, c246, c247, c248, c249, c250, c251, c252, c253, c254, c255, c256, c257, c258, c259, c260, c261, c262, c263, c264, c265, c266, c267, c268, c269, c270, c271, c272, c273, c274, c275, c276, c277, c278, c279, c280, c281, c282, c283, c284, c285, c286, c287, c288, c289, c290, c291, c292, c293, c294, c295, c296, c297, c298, c299, c300, c301, c302, c303, c304, c305, c306, c307, c308, c309, c310, c311, c312, c313, c314, c315, c316, c317, c318, c319, c320, c321, c322, c323, c324, c325, c326, c327, c328, c329, c330, c331, c332, c333, c334, c335, c336, c337, c338, c339, c340, c341, c342, c343, c344, c345, c346, c347, c348, c349, c350, c351, c352, c353, c354, c355, c356, c357, c358, c359, c360, c361, c362, c363, c364, c365, c366, c367, c368, c369, c370, c371, c372, c373, c374, c375, c376, c377, c378, c379, c380, c381, c382, c383, c384, c385, c386, c387, c388, c389, c390, c391, c392, c393, c394, c395, c396, c397, c398, c399, c400, c401, c402, c403, c404, c405, c406, c407, c408, c409, c410, c411, c412, c413, c414, c415, c416, c417, c418, c419, c420, c421, c422, c423, c424, c425, c426, c427, c428, c429, c430, c431, c432, c433, c434, c435, c436, c437, c438, c439, c440, c441, c442, c443, c444, c445, c446, c447, c448, c449, c450, c451, c452, c453, c454, c455, c456, c457, c458, c459, c460, c461, c462, c463, c464, c465, c466, c467, c468, c469, c470, c471, c472, c473, c474, c475, c476, c477, c478, c479, c480, c481, c482, c483, c484, c485, c486, c487, c488, c489, c490, c491, c492, c493, c494, c495, c496, c497, c498, c499, c500, c501, c502, c503, c504, c505, c506, c507, c508, c509, c510, c511, c512, c513, c514, c515, c516, c517, c518, c519, c520, c521, c522, c523, c524, c525, c526, c527, c528, c529, c530, c531, c532, c533, c534, c535, c536, c537, c538, c539, c540, c541, c542, c543, c544, c545, c546, c547, c548, c549, c550, c551, c552, c553, c554, c555, c556, c557, c558, c559, c560, c561, c562, c563, c564, c565, c566, c567, c568, c569, c570, c571, c572, c573, c574, c575, c576, c577, c578, c579, c580, c581, c582, c583, c584, c585, c586, c587, c588, c589, c590, c591, c592, c593, c594, c595, c596, c597, c598, c599, c600, c601, c602, c603, c604, c605, c606, c607, c608, c609, c610, c611, c612, c613, c614, c615, c616, c617, c618, c619, c620, c621, c622, c623, c624, c625, c626, c627, c628, c629, c630, c631, c632, c633, c634, c635, c636, c637, c638, c639, c640, c641, c642, c643, c644, c645, c646, c647, c648, c649, c650, c651, c652, c653, c654, c655, c656, c657, c658, c659, c660, c661, c662, c663, c664], []⟩ W') := hexit
  have HK : Hid (KAt wI kp kn g) := hK
  have H0 : Hid (Below wI.heap.size wI w ∧ w.rowIs K16 3 N (fun i => .int .i64 (((if i < 0 then kindOf kn g i else 0) : Nat) : Int)) ∧ InstRow w I17 N (kindOf kn g) 0 ∧ w.rowIs O18 40 N (fun i => .int .u32 (((if i < 0 then 3 * i else 0) : Nat) : Int))) := ⟨hw, r16.congr fun i _ => by simp, r17, r18.congr fun i _ => by simp⟩
  clear hexit hK hw r16 r17 r18
  dsimp only
  go_loopw [19] (fun s19 wr => ∃ k : Nat, s19 = .int .i64 (k : Int) ∧ k ≤ N ∧ Hid (Below wI.heap.size wI wr ∧ wr.rowIs K16 3 N (fun i => .int .i64 (((if i < k then kindOf kn g i else 0) : Nat) : Int)) ∧ InstRow wr I17 N (kindOf kn g) k ∧ wr.rowIs O18 40 N (fun i => .int .u32 (((if i < k then 3 * i else 0) : Nat) : Int)))) (fun s19 _ => N - (intOf s19).toNat)
  case atStart => exact ⟨0, rfl, by omega, H0⟩
  case round =>
    obtain ⟨k, rfl, hk, hr⟩ := hrel
    by_cases hlt : k < N
    · have hkN : (k : Int) < (N : Int) := by omega
      have e16 := hr.out.2.1.cell (i := k) hlt
      have f16 := hr.out.2.1.frozen k
      have hq := kindOf_lt kn g k
      obtain ⟨kk, hkk⟩ : ∃ kk, kk = kindOf kn g k := ⟨_, rfl⟩
      have HKK : Hid (kk = kindOf kn g k) := hkk
      rw [← hkk] at hq
      clear hkk
      go_upto_region 28 with fail
      go_wp2_with fail
      refine (kind_any kp kn kcap g k wr hkn (by omega) (HK.out.below (Nat.le_refl _) hr.out.1)).mono ?_
      rintro e w1 ⟨rfl, rfl⟩
      rw [← HKK.out]
      go_upto_region 29 with fail
      have HR1 : Hid (Below wI.heap.size wI (w1.setCell ⟨K16, k, none⟩ (.int .i64 (kk : Int))) ∧ (w1.setCell ⟨K16, k, none⟩ (.int .i64 (kk : Int))).rowIs K16 3 N (fun i => .int .i64 (((if i < k + 1 then kindOf kn g i else 0) : Nat) : Int)) ∧ InstRow (w1.setCell ⟨K16, k, none⟩ (.int .i64 (kk : Int))) I17 N (kindOf kn g) k ∧ (w1.setCell ⟨K16, k, none⟩ (.int .i64 (kk : Int))).rowIs O18 40 N (fun i => .int .u32 (((if i < k then 3 * i else 0) : Nat) : Int))) := by
        obtain ⟨h1, h2, h3, h4⟩ := hr.out
        refine ⟨h1.setCell (p := ⟨K16, k, none⟩) h16 _, (h2.set k _).congr fun i hi => ?_, h3.keep (Below.heap_setCell _ _ _ _ (fun e => h3.ne h2 (by decide) e.symm)), h4.setOther (a := ⟨K16, k, none⟩) (fun e => row_ne h2 h4 (by decide) e.symm) _⟩
        by_cases e : i = k
        · subst e; rw [if_pos rfl, if_pos (by omega), HKK.out]
        · rw [if_neg e]
          by_cases h : i < k
          · rw [if_pos h, if_pos (by omega)]
          · rw [if_neg h, if_neg (by omega)]
      obtain ⟨w2, hw2⟩ : ∃ w2, w2 = w1.setCell ⟨K16, k, none⟩ (.int .i64 (kk : Int)) := ⟨_, rfl⟩
      rw [← hw2] at HR1 ⊢
      clear hw2 hr e16 f16
      have e2 := HR1.out.2.1.cell (i := k) hlt
      rw [if_pos (by omega), ← HKK.out] at e2
      go_wp2_with fail
      refine (inst_any kk w2 hq).mono ?_
      rintro e w3 ⟨rfl, hb3⟩
      have HR3 : Hid (Below wI.heap.size wI w3 ∧ w3.rowIs K16 3 N (fun i => .int .i64 (((if i < k + 1 then kindOf kn g i else 0) : Nat) : Int)) ∧ InstRow w3 I17 N (kindOf kn g) k ∧ w3.rowIs O18 40 N (fun i => .int .u32 (((if i < k then 3 * i else 0) : Nat) : Int))) := by
        obtain ⟨h1, h2, h3, h4⟩ := HR1.out
        exact ⟨h1.trans (hb3.mono h1.size), h2.of_block (hb3.block _ h2.lt), h3.keep (hb3.block _ h3.lt), h4.of_block (hb3.block _ h4.lt)⟩
      clear hb3 HR1 e2
      dsimp only
      iterate 5 go_step
      refine wp_store_mid 46 (.tmp 138) (.tmp 137) rfl I17 (k * 26) (kindCells kk).toArray rfl rfl (by simpa [kindCells_length] using HR3.out.2.2.1.there hlt) (by simpa [kindCells_length] using size46) (kindCells_one kk) ?_
      go_step
      have HR4 : Hid (Below wI.heap.size wI (w3.setCells I17 (k * 26) (kindCells kk).toArray.toList) ∧ (w3.setCells I17 (k * 26) (kindCells kk).toArray.toList).rowIs K16 3 N (fun i => .int .i64 (((if i < k + 1 then kindOf kn g i else 0) : Nat) : Int)) ∧ InstRow (w3.setCells I17 (k * 26) (kindCells kk).toArray.toList) I17 N (kindOf kn g) (k + 1) ∧ (w3.setCells I17 (k * 26) (kindCells kk).toArray.toList).rowIs O18 40 N (fun i => .int .u32 (((if i < k then 3 * i else 0) : Nat) : Int))) := by
        obtain ⟨h1, h2, h3, h4⟩ := HR3.out
        have g := gb_sets I17 (kindCells kk) (k * 26) w3
        have e : (kindCells kk).toArray.toList = kindCells kk := rfl
        rw [e]
        refine ⟨Below.setCells' I17 h17 _ _ _ h1, row_grown h2 g (fun e => by injection e with e; exact h3.ne h2 (by decide) e), ?_, row_grown h4 g (fun e => by injection e with e; exact h3.ne h4 (by decide) e)⟩
        rw [HKK.out]
        exact h3.put hlt
      obtain ⟨w4, hw4⟩ : ∃ w4, w4 = w3.setCells I17 (k * 26) (kindCells kk).toArray.toList := ⟨_, rfl⟩
      rw [← hw4] at HR4 ⊢
      clear hw4 HR3
      have e4 := HR4.out.2.2.2.cell (i := k) hlt
      have f4 := HR4.out.2.2.2.frozen k
      have u1 : (3 : Int) * (k : Int) ≤ 4294967295 := by omega
      have u2 : (0 : Int) ≤ 3 * (k : Int) := by omega
      go_wp2_with fail
      go_roundw
      case rel =>
        obtain ⟨h1, h2, h3, h4⟩ := HR4.out
        refine ⟨k + 1, by simp, by omega, h1.setCell (p := ⟨O18, k, none⟩) h18 _, h2.setOther (a := ⟨O18, k, none⟩) (row_ne h2 h4 (by decide)) _, h3.keep (Below.heap_setCell _ _ _ _ (fun e => h3.ne h4 (by decide) e.symm)), (h4.set k _).congr fun i hi => ?_⟩
        by_cases e : i = k
        · subst e; rw [if_pos rfl, if_pos (by omega)]; simp
        · rw [if_neg e]
          by_cases h : i < k
          · rw [if_pos h, if_pos (by omega)]
          · rw [if_neg h, if_neg (by omega)]
      case measure => simp [intOf]; omega
    · obtain rfl : k = N := by omega
      have hkN : ¬ (k : Int) < (k : Int) := by omega
      go_wp2_with fail
      exact HX.out _ _ _ _ _ _ _ _ _ _ _ _ _ _ _ _ _ _ _ _ _ _ _ _ _ _ wr hr.out.1 (hr.out.2.1.congr fun i hi => by rw [if_pos hi]) hr.out.2.2.1 (hr.out.2.2.2.congr fun i hi => by rw [if_pos hi])

end Go.Proofs.Ybulkfqak
