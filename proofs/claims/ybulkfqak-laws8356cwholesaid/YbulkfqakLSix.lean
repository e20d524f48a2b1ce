import Derived.Test.YbulkfqakLNext
import Derived.Deep.LoopGhost
namespace Go.Proofs.Ybulkfqak
open Go.RowKit Go.Shelf

theorem own21_cell {W : World} {B n : Nat} {v : Value} {xs : List Value} (h : W.ownsRow B 21 1 v n xs) (j : Nat) (hj : j < n) : ∃ g cap, v = .slice (some ⟨g, 0, none⟩) n cap ∧ g < W.heap.size ∧ W.cell? ⟨g, j, none⟩ = xs[j]? := by
  rcases h.2 with ⟨_, h0⟩ | ⟨g, cap, cur, rfl, hb, hg, h1, h2, h3, h4⟩
  · omega
  · refine ⟨g, cap, rfl, (Array.getElem?_eq_some_iff.1 hg).1, ?_⟩
    rw [← h4, List.getElem?_take_of_lt (by omega)]
    simp [World.cell?, hg]
/-- the model's walk: what lies -/
structure G6 (wI : World) (S32 D33 nb base : Nat) (s : St) (v : Value) (W : World) : Prop where
  bel : Below wI.heap.size wI W
  rS : W.rowIs S32 4 nb (fun i => .bool (s.seen i))
  rD : W.rowIs D33 2 nb (fun i => .int .i64 (s.delta i))
  own : W.ownsRow base 21 1 v s.stack.length (encS s.stack)
  dis : wI.heap.size ≤ S32 ∧ S32 < base ∧ wI.heap.size ≤ D33 ∧ D33 < base ∧ base ≤ W.heap.size
theorem G6.drewN {wI W : World} {S32 D33 nb base : Nat} {s : St} {v : Value} (h : G6 wI S32 D33 nb base s v W) (m : Nat) : G6 wI S32 D33 nb base s v (W.drewN m) :=
  ⟨below_drewN h.bel m, h.rS, h.rD, h.own, h.dis⟩
/-- a block is pushed -/
theorem G6.push {wI W W1 : World} {S32 D33 nb base x g' cap' : Nat} {d : Int} {s : St} {v : Value} (h : G6 wI S32 D33 nb base s v W)
    (gr : ((W.setCell ⟨S32, x, none⟩ (.bool true)).setCell ⟨D33, x, none⟩ (.int .i64 d)).grownBy W1 v.ownBlock)
    (ho : W1.ownsRow base 21 1 (.slice (some ⟨g', 0, none⟩) (s.stack.length + 1) cap') (s.stack.length + 1) (encS s.stack ++ [.int .i32 (x : Int)])) :
    G6 wI S32 D33 nb base { stack := s.stack ++ [x], seen := upd s.seen x true, delta := upd s.delta x d } (.slice (some ⟨g', 0, none⟩) (s.stack.length + 1) cap') W1 := by
  obtain ⟨d1, d2, d3, d4, d5⟩ := h.dis
  have hv : ∀ r, v.ownBlock = some r → base ≤ r := fun r e => by
    rcases h.own.2 with ⟨rfl, _⟩ | ⟨g, cp, cur, rfl, hb, _⟩
    · cases e
    · simp [Value.ownBlock] at e; omega
  have ne : ∀ {b}, b < base → some b ≠ v.ownBlock := fun hb e => by have := hv _ e.symm; omega
  have hSD : S32 ≠ D33 := row_ne h.rS h.rD (by decide)
  have r1 := ((h.rS.set x (.bool true)).setOther (a := ⟨D33, x, none⟩) hSD (.int .i64 d))
  have r2 := ((h.rD.setOther (a := ⟨S32, x, none⟩) (fun e => hSD e.symm) (.bool true)).set x (.int .i64 d))
  refine ⟨⟨gr.os.trans h.bel.os, gr.tape.trans h.bel.tape, gr.output.trans h.bel.output, ?_, fun k hk => ?_⟩, (row_grown r1 gr (ne d2)).congr fun i _ => ?_, (row_grown r2 gr (ne d4)).congr fun i _ => ?_, ?_, d1, d2, d3, d4, ?_⟩
  · have := gr.size; simp at this; have := h.bel.size; omega
  · have hk2 := h.bel.size
    rw [gr.block k (by simp; omega) (ne (by omega)), Below.heap_setCell _ _ _ _ (by show k ≠ D33; omega), Below.heap_setCell _ _ _ _ (by show k ≠ S32; omega)]
    exact h.bel.block k hk
  · show (if i = x then Value.bool true else .bool (s.seen i)) = .bool (upd s.seen x true i)
    unfold upd; split <;> rfl
  · show (if i = x then Value.int .i64 d else .int .i64 (s.delta i)) = .int .i64 (upd s.delta x d i)
    unfold upd; split <;> rfl
  · show W1.ownsRow base 21 1 _ (s.stack ++ [x]).length (encS (s.stack ++ [x]))
    rw [List.length_append, List.length_singleton]
    simpa [encS] using ho
  · have := gr.size; simp at this; omega

set_option maxRecDepth 1000000 in
set_option maxHeartbeats 4000000 in
theorem law6 (c0 c1 c2 c3 c4 c5 c6 c7 c8 c9 c10 c12 c14 c15 c17 c18 c19 c20 c21 c23 c24 c25 c26 c27 c28 c29 c30 c31 c39 c41 c42 c43 c44 c45 c46 c47 c48 c49 c50 c51 c52 c53 c54 c55 c56 c57 c58 c59 c60 c61 c62 c63 c64 c65 c66 c67 c68 c69 c70 c71 c72 c73 c74 c75 c76 c77 c78 c79 c80 c81 c82 c83 c84 c85 c86 c87 c88 c89 c90 c91 c92 c93 c94 c95 c96 c97 c98 c99 c100 c101 c102 c103 c104 c105 c106 c107 c108 c109 c110 c111 c112 c113 c114 c115 c116 c117 c118 c119 c120 c121 c122 c123 c124 c125 c126 c127 c128 c129 c130 c131 c132 c133 c134 c135 c136 c137 c138 c139 c140 c141 c142 c143 c144 c145 c146 c147 c148 c149 c150 c151 c152 c153 c154 c155 c156 c157 c158 c159 c160 c161 c162 c163 c164 c165 c166 c167 c168 c169 c170 c171 c172 c173 c174 c175 c176 c177 c178 c179 c180 c181 c182 c183 c184 c185 c186 c187 c188 c189 c190 c191 c192 c193 c194 c195 c196 c197 c198 c199 c200 c201 c202 c203 c204 c205 c206 c207 c208 c209 c210 c211 c212 c213 c214 c215 c216 c217 c218 c219 c220 c221 c222 c223 c224 c225 c226 c227 c228 c229 c230 c231 c232 c233 c234 c235 c236 c237 c238 c239 c240 c241 c242 c243 c244 c245 c246 c247 c248 c249 c250 c251 c252 c253 c254 c255 c256 c257 c258 c259 c260 c261 c262 c263 c264 c265 c266 c267 c268 c269 c270 c271 c272 c273 c274 c275 c276 c277 c278 c279 c280 c281 c282 c283 c284 c285 c286 c287 c288 c363 c364 c365 c366 c367 c368 c369 c370 c371 c372 c373 c374 c375 c376 c377 c378 c379 c380 c381 c382 c383 c384 c385 c386 c387 c388 c389 c390 c391 c392 c393 c394 c395 c396 c397 c398 c399 c400 c401 c402 c403 c404 c405 c406 c407 c408 c409 c410 c411 c412 c413 c414 c415 c416 c417 c418 c419 c420 c421 c422 c423 c424 c425 c426 c427 c428 c429 c430 c431 c432 c433 c434 c435 c436 c437 c438 c439 c440 c441 c442 c443 c444 c445 c446 c447 c448 c449 c450 c451 c452 c453 c454 c455 c456 c457 c458 c459 c460 c461 c462 c463 c464 c465 c466 c467 c468 c469 c470 c471 c472 c473 c474 c475 c476 c477 c478 c479 c480 c481 c482 c483 c484 c485 c486 c487 c488 c489 c490 c491 c492 c493 c494 c495 c496 c497 c498 c499 c500 c501 c502 c503 c504 c505 c506 c507 c508 c509 c510 c511 c512 c513 c514 c515 c516 c517 c518 c519 c520 c521 c522 c523 c524 c525 c526 c527 c528 c529 c530 c531 c532 c533 c534 c535 c536 c537 c538 c539 c540 c541 c542 c543 c544 c545 c546 c547 c548 c549 c550 c551 c552 c553 c554 c555 c556 c557 c558 c559 c560 c561 c562 c563 c564 c565 c566 c567 c568 c569 c570 c571 c572 c573 c574 c575 c576 c577 c578 c579 c580 c581 c582 c583 c584 c585 c586 c587 c588 c589 c590 c591 c592 c593 c594 c595 c596 c597 c598 c599 c600 c601 c602 c603 c604 c605 c606 c607 c608 c609 c610 c611 c612 c613 c614 c615 c616 c617 c618 c619 c620 c621 c622 c623 c624 c625 c626 c627 c628 c629 c630 c631 c632 c633 c634 c635 c636 c637 c638 c639 c640 c641 c642 c643 c644 c645 c646 c647 c648 c649 c650 c651 c652 c653 c654 c655 c656 c657 c658 c659 c660 c661 c662 c663 c664 : Value) (u36 u37 u38 u40 u289 u290 u291 u292 u293 u294 u295 u296 u297 u298 u299 u300 u301 u302 u303 u304 u305 u306 u307 u308 u309 u310 u311 u312 u313 u314 u315 u316 u317 u318 u319 u320 u321 u322 u323 u324 u325 u326 u327 u328 u329 u330 u331 u332 u333 u334 u335 u336 u337 u338 u339 u340 u341 u342 u343 u344 u345 u346 u347 u348 u349 u350 u351 u352 u353 u354 u355 u356 u357 u358 u359 u360 u361 u362 : Value) (b o nb cap S13 N K16 S22 S32 D33 B0 : Nat) (h0 : 0 < nb) (D : BD) (kd : Nat → Nat) (sv : Nat → Value) (v : Value) (base : Nat) (wI w : World) (hn : nb ≤ 65536) (hN : N ≤ 65536) (hB : BAt wI b o nb D) (hS : wI.rowIs S13 3 (nb + 1) (fun i => .int .i64 ((sumTo D.l i : Nat) : Int))) (hlN : sumTo D.l nb = N)
    (hK : wI.rowIs K16 3 N (fun i => .int .i64 ((kd i : Nat) : Int))) (hjn : ∀ i, i < nb → D.jn i ≤ 1048576) (hS22 : wI.rowIs S22 48 nb sv) (hsr : ∀ i, i < nb → wI.ownsRow B0 21 1 (sv i) ((prg nb h0 D kd).succ i).length (encBs ((prg nb h0 D kd).succ i)))
    (hg : G6 wI S32 D33 nb base s00 v w) (Q1 : Exit → Act → World → Prop) (hexit : ∀ (v34 v36 v37 v38 v40 v289 v290 v291 v292 v293 v294 v295 v296 v297 v298 v299 v300 v301 v302 v303 v304 v305 v306 v307 v308 v309 v310 v311 v312 v313 v314 v315 v316 v317 v318 v319 v320 v321 v322 v323 v324 v325 v326 v327 v328 v329 v330 v331 v332 v333 v334 v335 v336 v337 v338 v339 v340 v341 v342 v343 v344 v345 v346 v347 v348 v349 v350 v351 v352 v353 v354 v355 v356 v357 v358 v359 v360 v361 v362 : Value) (s : St) (ok : Bool) (W' : World), Below wI.heap.size wI W' → W'.rowIs S32 4 nb (fun i => .bool (s.seen i)) → W'.rowIs D33 2 nb (fun i => .int .i64 (s.delta i)) → Done (prg nb h0 D kd) s00 s ok → Q1 (.exit 10) ⟨#[c0, c1, c2, c3, c4, c5, c6, c7, c8, c9, c10, .slice (some ⟨b, o, none⟩) nb cap, c12, .slice (some ⟨S13, 0, none⟩) (nb + 1) (nb + 1), c14, c15, .slice (some ⟨K16, 0, none⟩) N N, c17, c18, c19, c20, c21, .slice (some ⟨S22, 0, none⟩) nb nb, c23, c24, c25, c26, c27, c28, c29, c30, c31, .slice (some ⟨S32, 0, none⟩) nb nb, .slice (some ⟨D33, 0, none⟩) nb nb, v34, .bool ok, v36, v37, v38, c39, v40, c41, c42, c43, c44, c45, c46, c47, c48, c49, c50, c51, c52, c53, c54, c55, c56, c57, c58, c59, c60, c61, c62, c63, c64, c65, c66, c67, c68, c69, c70, c71, c72, c73, c74, c75, c76, c77, c78, c79, c80, c81, c82, c83, c84, c85, c86, c87, c88, c89, c90, c91, c92, c93, c94, c95, c96, c97, c98, c99, c100, c101, c102, c103, c104, c105, c106, c107, c108, c109, c110, c111, c112, c113, c114, c115, c116, c117, c118, c119, c120, c121, c122, c123, c124, c125, c126, c127, c128, c129, c130, c131, c132, c133, c134, c135, c136, c137, c138, c139, c140, c141, c142, c143, c144, c145, c146, c147, c148, c149, c150, c151, c152, c153, c154, c155, c156, c157, c158, c159, c160, c161, c162, c163, c164, c165, c166, c167, c168, c169, c170, c171, c172, c173, c174, c175, c176, c177, c178, c179, c180, c181, c182, c183, c184, c185, c186, c187, c188, c189, c190, c191, c192, c193, c194, c195, c196, c197, c198, c199, c200, c201, c202, c203, c204, c205, c206, c207, c208, c209, c210, c211, c212, c213, c214, c215, c216, c217, c218, c219, c220, c221, c222, c223, c224, c225, c226, c227, c228, c229, c230, c231, c232, c233, c234, c235, c236, c237, c238, c239, c240, c241, c242, c243, c244, c245, c246, c247, c248, c249, c250, c251, c252, c253, c254, c255, c256, c257, c258, c259, c260, c261, c262, c263, c264, c265, c266, c267, c268, c269, c270, c271, c272, c273, c274, c275, c276, c277, c278, c279, c280, c281, c282, c283, c284, c285, c286, c287, c288, v289, v290, v291, v292, v293, v294, v295, v296, v297, v298, v299, v300, v301, v302, v303, v304, v305, v306, v307, v308, v309, v310, v311, v312, v313, v314, v315, v316, v317, v318, v319, v320, v321, v322, v323, v324, v325, v326, v327, v328, v329, v330, v331, v332, v333, v334, v335, v336, v337, v338, v339, v340, v341, v342, v343, v344, v345, v346, v347, v348, v349, v350, v351, v352, v353, v354, v355, v356, v357, v358, v359, v360, v361, v362, c363, c364, c365, c366, c367, c368, c369, c370, c371, c372, c373, c374, c375, c376, c377, c378, c379, c380, c381, c382, c383, c384, c385, c386, c387, c388, c389, c390, c391, c392, c393, c394, c395, c396, c397, c398, c399, c400, c401, c402, c403, c404, c405, c406, c407, c408, c409, c410, c411, c412, c413, c414, c415, c416, c417, c418, c419, c420, c421, c422, c423, c424, c425, c426, c427, c428, c429, c430, c431, c432, c433, c434, c435, c436, c437, c438, c439, c440, c441, c442, c443, c444, c445, c446, c447, c448, c449, c450, c451, c452, c453, c454, c455, c456, c457, c458, c459, c460, c461, c462, c463, c464, c465, c466, c467, c468, c469, c470, c471, c472, c473, c474, c475, c476, c477, c478, c479, c480, c481, c482, c483, c484, c485, c486, c487, c488, c489, c490, c491, c492, c493, c494, c495, c496, c497, c498, c499, c500, c501, c502, c503, c504, c505, c506, c507, c508, c509, c510, c511, c512, c513, c514, c515, c516, c517, c518, c519, c520, c521, c522, c523, c524, c525, c526, c527, c528, c529, c530, c531, c532, c533, c534, c535, c536, c537, c538, c539, c540, c541, c542, c543, c544, c545, c546, c547, c548, c549, c550, c551, c552, c553, c554, c555, c556, c557, c558, c559, c560, c561, c562, c563, c564, c565, c566, c567, c568, c569, c570, c571, c572, c573, c574, c575, c576, c577, c578, c579, c580, c581, c582, c583, c584, c585, c586, c587, c588, c589, c590, c591, c592, c593, c594, c595, c596, c597, c598, c599, c600, c601, c602, c603, c604, c605, c606, c607, c608, c609, c610, c611, c612, c613, c614, c615, c616, c617, c618, c619, c620, c621, c622, c623, c624, c625, c626, c627, c628, c629, c630, c631, c632, c633, c634, c635, c636, c637, c638, c639, c640, c641, c642, c643, c644, c645, c646, c647, c648, c649, c650, c651, c652, c653, c654, c655, c656, c657, c658, c659, c660, c661, c662, c663, c664], []⟩ W') :
    Code.wp Yba.prog (.loop (lp4 5)) (NoPanic Q1) ⟨#[c0, c1, c2, c3, c4, c5, c6, c7, c8, c9, c10, .slice (some ⟨b, o, none⟩) nb cap, c12, .slice (some ⟨S13, 0, none⟩) (nb + 1) (nb + 1), c14, c15, .slice (some ⟨K16, 0, none⟩) N N, c17, c18, c19, c20, c21, .slice (some ⟨S22, 0, none⟩) nb nb, c23, c24, c25, c26, c27, c28, c29, c30, c31, .slice (some ⟨S32, 0, none⟩) nb nb, .slice (some ⟨D33, 0, none⟩) nb nb, v, .bool true, u36, u37, u38, c39, u40, c41, c42, c43, c44, c45, c46, c47, c48, c49, c50, c51, c52, c53, c54, c55, c56, c57, c58, c59, c60, c61, c62, c63, c64, c65, c66, c67, c68, c69, c70, c71, c72, c73, c74, c75, c76, c77, c78, c79, c80, c81, c82, c83, c84, c85, c86, c87, c88, c89, c90, c91, c92, c93, c94, c95, c96, c97, c98, c99, c100, c101, c102, c103, c104, c105, c106, c107, c108, c109, c110, c111, c112, c113, c114, c115, c116, c117, c118, c119, c120, c121, c122, c123, c124, c125, c126, c127, c128, c129, c130, c131, c132, c133, c134, c135, c136, c137, c138, c139, c140, c141, c142, c143, c144, c145, c146, c147, c148, c149, c150, c151, c152, c153, c154, c155, c156, c157, c158, c159, c160, c161, c162, c163, c164, c165, c166, c167, c168, c169, c170, c171, c172, c173, c174, c175, c176, c177, c178, c179, c180, c181, c182, c183, c184, c185, c186, c187, c188, c189, c190, c191, c192, c193, c194, c195, c196, c197, c198, c199, c200, c201, c202, c203, c204, c205, c206, c207, c208, c209, c210, c211, c212, c213, c214, c215, c216, c217, c218, c219, c220, c221, c222, c223, c224, c225, c226, c227, c228, c229, c230, c231, c232, c233, c234, c235, c236, c237, c238, c239, c240, c241, c242, c243, c244, c245, c246, c247, c248, c249, c250, c251, c252, c253, c254, c255, c256, c257, c258, c259, c260, c261, c262, c263, c264, c265, c266, c267, c268, c269, c270, c271, c272, c273, c274, c275, c276, c277, c278, c279, c280, c281, c282, c283, c284, c285, c286, c287, c288, u289, u290, u291, u292, u293, u294, u295, u296, u297, u298, u299, u300, u301, u302, u303, u304, u305, u306, u307, u308, u309, u310, u311, u312, u313, u314, u315, u316, u317, u318, u319, u320, u321, u322, u323, u324, u325, u326, u327, u328, u329, u330, u331, u332, u333, u334, u335, u336, u337, u338, u339, u340, u341, u342, u343, u344, u345, u346, u347, u348, u349, u350, u351, u352, u353, u354, u355, u356, u357, u358, u359, u360, u361, u362, c363, c364, c365, c366, c367, c368, c369, c370, c371, c372, c373, c374, c375, c376, c377, c378, c379, c380, c381, c382, c383, c384, c385, c386, c387, c388, c389, c390, c391, c392, c393, c394, c395, c396, c397, c398, c399, c400, c401, c402, c403, c404, c405, c406, c407, c408, c409, c410, c411, c412, c413, c414, c415, c416, c417, c418, c419, c420, c421, c422, c423, c424, c425, c426, c427, c428, c429, c430, c431, c432, c433, c434, c435, c436, c437, c438, c439, c440, c441, c442, c443, c444, c445, c446, c447, c448, c449, c450, c451, c452, c453, c454, c455, c456, c457, c458, c459, c460, c461, c462, c463, c464, c465, c466, c467, c468, c469, c470, c471, c472, c473, c474, c475, c476, c477, c478, c479, c480, c481, c482, c483, c484, c485, c486, c487, c488, c489, c490, c491, c492, c493, c494, c495, c496, c497, c498, c499, c500, c501, c502, c503, c504, c505, c506, c507, c508, c509, c510, c511, c512, c513, c514, c515, c516, c517, c518, c519, c520, c521, c522, c523, c524, c525, c526, c527, c528, c529, c530, c531, c532, c533, c534, c535, c536, c537, c538, c539, c540, c541, c542, c543, c544, c545, c546, c547, c548, c549, c550, c551, c552, c553, c554, c555, c556, c557, c558, c559, c560, c561, c562, c563, c564, c565, c566, c567, c568, c569, c570, c571, c572, c573, c574, c575, c576, c577, c578, c579, c580, c581, c582, c583, c584, c585, c586, c587, c588, c589, c590, c591, c592, c593, c594, c595, c596, c597, c598, c599, c600, c601, c602, c603, c604, c605, c606, c607, c608, c609, c610, c611, c612, c613, c614, c615, c616, c617, c618, c619, c620, c621, c622, c623, c624, c625, c626, c627, c628, c629, c630, c631, c632, c633, c634, c635, c636, c637, c638, c639, c640, c641, c642, c643, c644, c645, c646, c647, c648, c649, c650, c651, c652, c653, c654, c655, c656, c657, c658, c659, c660, c661, c662, c663, c664], []⟩ w := by
  conv => arg 2; arg 1; whnf
  have HX : Hid (∀ (v34 v36 v37 v38 v40 v289 v290 v291 v292 v293 v294 v295 v296 v297 v298 v299 v300 v301 v302 v303 v304 v305 v306 v307 v308 v309 v310 v311 v312 v313 v314 v315 v316 v317 v318 v319 v320 v321 v322 v323 v324 v325 v326 v327 v328 v329 v330 v331 v332 v333 v334 v335 v336 v337 v338 v339 v340 v341 v342 v343 v344 v345 v346 v347 v348 v349 v350 v351 v352 v353 v354 v355 v356 v357 v358 v359 v360 v361 v362 : Value) (s : St) (ok : Bool) (W' : World), Below wI.heap.size wI W' → W'.rowIs S32 4 nb (fun i => .bool (s.seen i)) → W'.rowIs D33 2 nb (fun i => .int .i64 (s.delta i)) → Done (prg nb h0 D kd) s00 s ok → Q1 (.exit 10) ⟨#[c0, c1, c2, c3, c4, c5, c6, c7, c8, c9, c10, .slice (some ⟨b, o, none⟩) nb cap, c12, .slice (some ⟨S13, 0, none⟩) (nb + 1) (nb + 1), c14, c15, .slice (some ⟨K16, 0, none⟩) N N, c17, c18, c19, c20, c21, .slice (some ⟨S22, 0, none⟩) nb nb, c23, c24, c25, c26, c27, c28, c29, c30, c31, .slice (some ⟨S32, 0, none⟩) nb nb, .slice (some ⟨D33, 0, none⟩) nb nb, v34, .bool ok, v36, v37, v38, c39, v40, c41, c42, c43, c44, c45, c46, c47, c48, c49, c50, c51, c52, c53, c54, c55, c56, c57, c58, c59, c60, c61, c62, c63, c64, c65, c66, c67, c68, c69, c70, c71, c72, c73, c74, c75, c76, c77, c78, c79, c80, c81, c82, c83, c84, c85, c86, c87, c88, c89, c90, c91, c92, c93, c94, c95, c96, c97, c98, c99, c100, c101, c102, c103, c104, c105, c106, c107, c108, c109, c110, c111, c112, c113, c114, c115, c116, c117, c118, c119, c120, c121, c122, c123, c124, c125, c126, c127, c128, c129, c130, c131, c132, c133, c134, c135, c136, c137, c138, c139, c140, c141, c142, c143, c144, c145, c146, c147, c148, c149, c150, c151, c152, c153, c154, c155, c156, c157, c158, c159, c160, c161, c162, c163, c164, c165, c166, c167, c168, c169, c170, c171, c172, c173, c174, c175, c176, c177, c178, c179, c180, c181, c182, c183, c184, c185, c186, c187, c188, c189, c190, c191, c192, c193, c194, c195, c196, c197, c198, c199, c200, c201, c202, c203, c204, c205, c206, c207, c208, c209, c210, c211, c212, c213, c214, c215, c216, c217, c218, c219, c220, c221, c222, c223, c224, c225, c226, c227, c228, c229, c230, c231, c232, c233, c234, c235, c236, c237, c238, c239, c240, c241, c242, c243, c244, c245, c246, c247, c248, c249, c250, c251, c252, c253, c254, c255, c256, c257, c258, c259, c260, c261, c262, c263, c264, c265, c266, c267, c268, c269, c270, c271, c272, c273, c274, c275, c276, c277, c278, c279, c280, c281, c282, c283, c284, c285, c286, c287, c288, v289, v290, v291, v292, v293, v294, v295, v296, v297, v298, v299, v300, v301, v302, v303, v304, v305, v306, v307, v308, v309, v310, v311, v312, v313, v314, v315, v316, v317, v318, v319, v320, v321, v322, v323, v324, v325, v326, v327, v328, v329, v330, v331, v332, v333, v334, v335, v336, v337, v338, v339, v340, v341, v342, v343, v344, v345, v346, v347, v348, v349, v350, v351, v352, v353, v354, v355, v356, v357, v358, v359, v360, v361, v362, c363, c364, c365, c366, c367, c368, c369, c370, c371, c372, c373, c374, c375, c376, c377, c378, c379, c380, c381, c382, c383, c384, c385, c386, c387, c388, c389, c390, c391, c392, c393, c394, c395, c396, c397, c398, c399, c400, c401, c402, c403, c404, c405, c406, c407, c408, c409, c410, c411, c412, c413, c414, c415, c416, c417, c418, c419, c420, c421, c422, c423, c424, c425, c426, c427, c428, c429, c430, c431, c432, c433, c434, c435, c436, c437, c438, c439, c440, c441, c442, c443, c444, c445, c446, c447, c448, c449, c450, c451, c452, c453, c454, c455, c456, c457, c458, c459, c460, c461, c462, c463, c464, c465, c466, c467, c468, c469, c470, c471, c472, c473, c474, c475, c476, c477, c478, c479, c480, c481, c482, c483, c484, c485, c486, c487, c488, c489, c490, c491, c492, c493, c494, c495, c496, c497, c498, c499, c500, c501, c502, c503, c504, c505, c506, c507, c508, c509, c510, c511, c512, c513, c514, c515, c516, c517, c518, c519, c520, c521, c522, c523, c524, c525, c526, c527, c528, c529, c530, c531, c532, c533, c534, c535, c536, c537, c538, c539, c540, c541, c542, c543, c544, c545, c546, c547, c548, c549, c550, c551, c552, c553, c554, c555, c556, c557, c558, c559, c560, c561, c562, c563, c564, c565, c566, c567, c568, c569, c570, c571, c572, c573, c574, c575, c576, c577, c578, c579, c580, c581, c582, c583, c584, c585, c586, c587, c588, c589, c590, c591, c592, c593, c594, c595, c596, c597, c598, c599, c600, c601, c602, c603, c604, c605, c606, c607, c608, c609, c610, c611, c612, c613, c614, c615, c616, c617, c618, c619, c620, c621, c622, c623, c624, c625, c626, c627, c628, c629, c630, c631, c632, c633, c634, c635, c636, c637, c638, c639, c640, c641, c642, c643, c644, c645, c646, c647, c648, c649, c650, c651, c652, c653, c654, c655, c656, c657, c658, c659, c660, c661, c662, c663, c664], []⟩ W') := hexit
  have HB : Hid (BAt wI b o nb D) := hB
  have HS : Hid (wI.rowIs S13 3 (nb + 1) (fun i => .int .i64 ((sumTo D.l i : Nat) : Int))) := hS
  have HK : Hid (wI.rowIs K16 3 N (fun i => .int .i64 ((kd i : Nat) : Int))) := hK
  have H22 : Hid (wI.rowIs S22 48 nb sv ∧ ∀ i, i < nb → wI.ownsRow B0 21 1 (sv i) ((prg nb h0 D kd).succ i).length (encBs ((prg nb h0 D kd).succ i))) := ⟨hS22, hsr⟩
  have HJ : Hid (∀ i, i < nb → D.jn i ≤ 1048576) := hjn
  have H0 : Hid (G6 wI S32 D33 nb base s00 v w) := hg
  have HLN : Hid (sumTo D.l nb = N) := hlN
  clear hexit hB hS hK hS22 hsr hg hjn hlN
  dsimp only
  go_loopg [34, 35] (nb + 1) (fun g s34 s35 wr => ∃ (s : St) (ok : Bool), s35 = .bool ok ∧ Hid (G6 wI S32 D33 nb base s s34 wr) ∧ Hid ((ok = true ∧ ∃ t, g + t = nb + 1 ∧ Good nb s t ∧ ∀ r c, Done (prg nb h0 D kd) s r c → Done (prg nb h0 D kd) s00 r c) ∨ (ok = false ∧ Done (prg nb h0 D kd) s00 s false)))
  case atStart => exact ⟨s00, true, rfl, H0, Or.inl ⟨rfl, 0, rfl, good00 nb h0, fun r c h => h⟩⟩
  case round =>
    obtain ⟨s, ok, rfl, HG, HD⟩ := hrel
    rcases HD.out with ⟨rfl, t, ht, hgd, hdn⟩ | ⟨rfl, hdn⟩
    · have HGD : Hid (Good nb s t) := hgd
      have HDN : Hid (∀ r c, Done (prg nb h0 D kd) s r c → Done (prg nb h0 D kd) s00 r c) := hdn
      clear hgd hdn HD
      rcases List.eq_nil_or_concat s.stack with hs | ⟨l, i, hs⟩
      · have hown := HG.out.own
        rw [hs] at hown
        obtain ⟨vp, cp, rfl⟩ := own21_form hown
        clear hown
        simp only [List.length_nil]
        go_wp2_with fail
        exact HX.out _ _ _ _ _ _ _ _ _ _ _ _ _ _ _ _ _ _ _ _ _ _ _ _ _ _ _ _ _ _ _ _ _ _ _ _ _ _ _ _ _ _ _ _ _ _ _ _ _ _ _ _ _ _ _ _ _ _ _ _ _ _ _ _ _ _ _ _ _ _ _ _ _ _ _ _ _ _ _ s true wr HG.out.bel HG.out.rS HG.out.rD (HDN.out _ _ (Done.stop s hs))
      · rw [List.concat_eq_append] at hs
        have HHS : Hid (s.stack = l ++ [i]) := hs
        obtain ⟨hi, hsi⟩ := HGD.out.stk i (by rw [hs]; simp)
        have hown := HG.out.own
        rw [hs] at hown
        have e1 : (l ++ [i]).length = l.length + 1 := by simp
        rw [e1] at hown
        obtain ⟨vp, cp, rfl⟩ := own21_form hown
        obtain ⟨g, cp', hv, _, cI⟩ := own21_cell hown l.length (by omega)
        injection hv with hv1 hv2 hv3
        subst hv1
        subst hv3
        have hcI : wr.cell? ⟨g, l.length, none⟩ = some (.int .i32 (i : Int)) := by rw [cI]; simp [encS]
        obtain ⟨_, _, _, _, hcn, hcm, _⟩ := own21_at hown
        have HG1 : Hid (G6 wI S32 D33 nb base { s with stack := l } (.slice (some ⟨g, 0, none⟩) l.length cp) wr) := ⟨HG.out.bel, HG.out.rS, HG.out.rD, own_pop hown, HG.out.dis⟩
        have hll : l.length < 65536 := by have h1 := HGD.out.cnt; rw [hs] at h1; simp at h1; omega
        obtain ⟨m, hm⟩ : ∃ m, m = l.length := ⟨_, rfl⟩
        rw [← hm] at hcI HG1 hll hcn ⊢
        clear hm cI hown e1 hs HG
        have HBr : Hid (BAt wr b o nb D) := HB.out.below (Nat.le_refl _) HG1.out.bel
        have d3 := HBr.out.c3 i hi
        have hii : (i : Int) < (nb : Int) := by omega
        have hi1 : (i : Int) < (nb : Int) + 1 := by omega
        have hi2 : (i : Int) + 1 < (nb : Int) + 1 := by omega
        go_upto_if 310 with fail
        cases hind : D.ind i with
        | true =>
          rw [hind] at d3
          go_wp2_with fail
          exact HX.out _ _ _ _ _ _ _ _ _ _ _ _ _ _ _ _ _ _ _ _ _ _ _ _ _ _ _ _ _ _ _ _ _ _ _ _ _ _ _ _ _ _ _ _ _ _ _ _ _ _ _ _ _ _ _ _ _ _ _ _ _ _ _ _ _ _ _ _ _ _ _ _ _ _ _ _ _ _ _ { s with stack := l } false wr HG1.out.bel HG1.out.rS HG1.out.rD (HDN.out _ _ (Done.bad s l i _ HHS.out (by simp [Prg.step, prg, hind])))
        | false =>
          rw [hind] at d3
          have HS1 : Hid (wr.rowIs S13 3 (nb + 1) (fun i => .int .i64 ((sumTo D.l i : Nat) : Int))) := HS.out.of_block (HG1.out.bel.block _ HS.out.lt)
          have HK1 : Hid (wr.rowIs K16 3 N (fun i => .int .i64 ((kd i : Nat) : Int))) := HK.out.of_block (HG1.out.bel.block _ HK.out.lt)
          have c0 := HS1.out.cell (i := i) (by omega)
          have c1 := HS1.out.cell (i := i + 1) (by omega)
          have cD := HG1.out.rD.cell hi
          have hm1 : sumTo D.l i ≤ sumTo D.l (i + 1) := sumTo_mono D.l i 1
          have hm2 : sumTo D.l (i + 1) ≤ N := by have h1 := sumTo_mono D.l (i + 1) (nb - (i + 1)); rw [show i + 1 + (nb - (i + 1)) = nb by omega, HLN.out] at h1; exact h1
          obtain ⟨st0, hst0⟩ : ∃ st0, st0 = sumTo D.l i := ⟨_, rfl⟩
          obtain ⟨st1, hst1⟩ : ∃ st1, st1 = sumTo D.l (i + 1) := ⟨_, rfl⟩
          obtain ⟨dd, hdd⟩ : ∃ dd, dd = s.delta i := ⟨_, rfl⟩
          have hbd := HGD.out.bnd i hi hsi
          have hcnt := HGD.out.cnt
          simp only at cD
          rw [← hst0] at c0 hm1
          rw [← hst1] at c1 hm1 hm2
          rw [← hdd] at cD hbd
          have HST : Hid (st0 = sumTo D.l i ∧ st1 = sumTo D.l (i + 1) ∧ dd = s.delta i) := ⟨hst0, hst1, hdd⟩
          clear hst0 hst1 hdd
          obtain ⟨R, hR⟩ : ∃ R, R = runFrom kd st0 (st1 - st0) dd := ⟨_, rfl⟩
          have HR : Hid (R = runFrom kd st0 (st1 - st0) dd) := hR
          clear hR
          have HCR : Hid (∀ w', w'.rowIs K16 3 N (fun i => .int .i64 ((kd i : Nat) : Int)) → Calls Yba.prog 12 #[.slice (some ⟨K16, 0, none⟩) N N, .int .i64 (st0 : Int), .int .i64 (st1 : Int), .int .i64 dd] w' fun e w'' => e = .returned (.tuple #[.int .i64 R.1, .bool R.2]) ∧ w'' = w') := fun w' h => by
            rw [HR.out]
            exact crun_any K16 N st0 st1 kd dd w' h hm1 hm2 (by omega) (by omega) (by omega)
          have hw32 : IntKind.i32.wrap ((i : Int) + 1) = (i : Int) + 1 := by rw [IntKind.wrap_i32]; omega
          have hw33 : (i : Int) + 1 ≤ 2147483647 := by omega
          have hw34 : -2147483648 ≤ (i : Int) + 1 := by omega
          have hw35 : (0 : Int) ≤ (i : Int) + 1 := by omega
          have hw36 : (i : Int) + 1 < ((nb + 1 : Nat) : Int) := by omega
          have hw37 : i + 1 < nb + 1 := by omega
          go_upto_region 67 with fail
          go_cut [37, 38] from 311 to 328 (fun s37 s38 wx => s37 = .int .i64 R.1 ∧ s38 = .bool R.2 ∧ ∃ q, wx = wr.drewN q)
          case first =>
            go_quiet ((go_at_call 12; exact Calls.quiet_of_same (HCR.out _ HK1.out)))
            go_wp2_with fail
            go_meet
            case rel => exact ⟨rfl, rfl, _, rfl⟩
          case rest =>
            obtain ⟨rfl, rfl, nq, rfl⟩ := hcut
            have HG2 : Hid (G6 wI S32 D33 nb base { s with stack := l } (.slice (some ⟨g, 0, none⟩) m cp) (wr.drewN nq)) := HG1.out.drewN nq
            obtain ⟨W1, hW1⟩ : ∃ W1, W1 = wr.drewN nq := ⟨_, rfl⟩
            rw [← hW1] at HG2 ⊢
            clear hW1 HG1 HS1 HK1 HCR c0 c1 cD d3 HBr hcI
            have hrun : Hid ((prg nb h0 D kd).run i (s.delta i) = R) := by
              rw [HR.out, HST.out.1, HST.out.2.1, HST.out.2.2]; rfl
            obtain ⟨d, fine⟩ := R
            cases fine with
            | false =>
              go_wp2_with fail
              exact HX.out _ _ _ _ _ _ _ _ _ _ _ _ _ _ _ _ _ _ _ _ _ _ _ _ _ _ _ _ _ _ _ _ _ _ _ _ _ _ _ _ _ _ _ _ _ _ _ _ _ _ _ _ _ _ _ _ _ _ _ _ _ _ _ _ _ _ _ _ _ _ _ _ _ _ _ _ _ _ _ { s with stack := l } false W1 HG2.out.bel HG2.out.rS HG2.out.rD (HDN.out _ _ (Done.bad s l i _ HHS.out (by have := hrun.out; simp [Prg.step, this])))
            | true =>
              have hstep : Hid ((prg nb h0 D kd).step { s with stack := l } i = visit d { s with stack := l } ((prg nb h0 D kd).succ i)) := by
                have h1 := hrun.out
                have h2 : (prg nb h0 D kd).ind i = false := hind
                show (prg nb h0 D kd).step _ _ = _
                simp [Prg.step, h1, h2]
              have H22a : Hid (W1.rowIs S22 48 nb sv ∧ W1.ownsRow B0 21 1 (sv i) ((prg nb h0 D kd).succ i).length (encBs ((prg nb h0 D kd).succ i))) :=
                ⟨H22.out.1.of_block (HG2.out.bel.block _ H22.out.1.lt), own21_keep (H22.out.2 i hi) fun k hk => HG2.out.bel.block k (by
                  rcases (H22.out.2 i hi).2 with ⟨e, _⟩ | ⟨g2, cp2, cur2, e, _, hg2, _⟩
                  · rw [e] at hk; cases hk
                  · rw [e] at hk
                    simp [Value.ownBlock] at hk
                    subst hk
                    exact (Array.getElem?_eq_some_iff.1 hg2).1)⟩
              have c22 := H22a.out.1.cell hi
              obtain ⟨sp, scp, hsv⟩ := own21_form H22a.out.2
              rw [hsv] at c22
              obtain ⟨L, hL⟩ : ∃ L, L = ((prg nb h0 D kd).succ i).length := ⟨_, rfl⟩
              rw [← hL] at c22
              have HL : Hid (L = ((prg nb h0 D kd).succ i).length) := hL
              have HSV : Hid (sv i = .slice sp L scp) := by show _ = _; rw [hsv, hL]
              have hLb : L ≤ 1048577 := by
                have h1 := HJ.out i hi
                rw [hL]
                simp only [Prg.succ, List.length_append]
                have h2 : ((prg nb h0 D kd).nxo i).toList.length ≤ 1 := by cases (prg nb h0 D kd).nxo i <;> simp
                have h3 : ((prg nb h0 D kd).js i).length = D.jn i := by simp [prg]
                omega
              clear hL hsv
              go_upto_region 71 with fail
              have HVG : Hid (∀ j, j ≤ L → Good nb (visit d { s with stack := l } (((prg nb h0 D kd).succ i).take j)).1 (t + 1)) := fun j _ => by
                have hrb := runFrom_bound kd (st1 - st0) st0 dd
                have hRR := HR.out
                rw [← hRR] at hrb
                simp only at hrb
                exact Good.visit (by omega) (by omega) _ _ (HGD.out.pop HHS.out)
              go_loopw [34, 35, 336] (fun s34 s35 s336 wx => ∃ j : Nat, s336 = .int .i64 (j : Int) ∧ s35 = .bool true ∧ j ≤ L ∧ Hid (G6 wI S32 D33 nb base (visit d { s with stack := l } (((prg nb h0 D kd).succ i).take j)).1 s34 wx ∧ (visit d { s with stack := l } (((prg nb h0 D kd).succ i).take j)).2 = true)) (fun _ _ s336 _ => L - (intOf s336).toNat)
              case atStart => exact ⟨0, rfl, rfl, by omega, by simpa [visit] using HG2.out, by simp [visit]⟩
              case round =>
                obtain ⟨j, rfl, rfl, hj, hrj⟩ := hrel
                by_cases hjl : j < L
                · have hjn : (j : Int) < (L : Int) := by omega
                  obtain ⟨g2, cp2, hg2, hg2l, hc2⟩ := own21_cell (H22.out.2 i hi) j (by rw [← HL.out]; exact hjl)
                  have hspe : sp = some ⟨g2, 0, none⟩ := by
                    have h1 := HSV.out
                    rw [hg2] at h1
                    injection h1 with h1 _ _
                    exact h1.symm
                  subst hspe
                  have hjl' : j < ((prg nb h0 D kd).succ i).length := by rw [← HL.out]; exact hjl
                  obtain ⟨y, hy⟩ : ∃ y, ((prg nb h0 D kd).succ i)[j] = y := ⟨_, rfl⟩
                  have hcy : wr.cell? ⟨g2, j, none⟩ = some (.int .i32 ((y.1 : Nat) : Int)) := by
                    rw [hrj.out.1.bel.cell (p := ⟨g2, j, none⟩) hg2l, hc2]
                    simp only [encBs, List.getElem?_map, List.getElem?_eq_getElem hjl', hy, Option.map_some]
                  have htk : Hid (((prg nb h0 D kd).succ i).take (j + 1) = ((prg nb h0 D kd).succ i).take j ++ [y]) := by
                    show _ = _
                    rw [List.take_succ_eq_append_getElem hjl', hy]
                  have hyl := y.2
                  obtain ⟨s', hs'⟩ : ∃ s', s' = (visit d { s with stack := l } (((prg nb h0 D kd).succ i).take j)).1 := ⟨_, rfl⟩
                  have hsn : Hid (visit d { s with stack := l } (((prg nb h0 D kd).succ i).take (j + 1)) = visit1 d s' y.1) := by
                    show _ = _
                    rw [htk.out, hs']
                    exact visit_snoc d y _ _ hrj.out.2
                  have HGs : Hid (Good nb s' (t + 1)) := by rw [hs']; exact HVG.out j (by omega)
                  have HG3 : Hid (G6 wI S32 D33 nb base s' u34 wr) := by rw [hs']; exact hrj.out.1
                  obtain ⟨yy, hyy⟩ : ∃ yy, yy = y.1 := ⟨_, rfl⟩
                  rw [← hyy] at hcy hsn hyl
                  clear hs' hy hyy hrj hc2 hg2
                  have cS := HG3.out.rS.cell hyl
                  have fS := HG3.out.rS.frozen yy
                  have cD := HG3.out.rD.cell hyl
                  have fD := HG3.out.rD.frozen yy
                  obtain ⟨vp3, cp3, rfl⟩ := own21_form HG3.out.own
                  have hyi : (yy : Int) < (nb : Int) := by omega
                  obtain ⟨dd3, hdd3⟩ : ∃ dd3, dd3 = s'.delta yy := ⟨_, rfl⟩
                  rw [← hdd3] at cD
                  have HD3 : Hid (dd3 = s'.delta yy) := hdd3
                  clear hdd3
                  have hSD : S32 ≠ D33 := row_ne HG3.out.rS HG3.out.rD (by decide)
                  have hSl := HG3.out.rS.lt
                  have hDl := HG3.out.rD.lt
                  have hcn3 := HGs.out.cnt
                  by_cases hsee : s'.seen yy = false
                  · rw [hsee] at cS
                    obtain ⟨i0, hi0, hz0, hz1, hz2⟩ := info_parts info21
                    have hbs := HG3.out.dis.2.2.2.2
                    have hun := unseen_upd s'.seen yy hsee nb hyl
                    have HO3 : Hid (((wr.setCell ⟨S32, yy, none⟩ (.bool true)).setCell ⟨D33, yy, none⟩ (.int .i64 d)).ownsRow base 21 1 (.slice vp3 s'.stack.length cp3) s'.stack.length (encS s'.stack)) := by
                      have hdi := HG3.out.dis
                      exact own21_keepB HG3.out.own fun g hg _ => by rw [Below.heap_setCell _ _ _ _ (by show g ≠ D33; omega), Below.heap_setCell _ _ _ _ (by show g ≠ S32; omega)]
                    obtain ⟨ln, hln⟩ : ∃ ln, ln = s'.stack.length := ⟨_, rfl⟩
                    rw [← hln] at HO3 hcn3 ⊢
                    have HLN3 : Hid (ln = s'.stack.length) := hln
                    clear hln
                    go_wp2_with (at_builtin; refine wpList_append_lies _ rfl _ _ 48 rfl base 21 i0 (.int .i32 0) 1 4 Yba.underlying48 hi0 hz0 hz1 hz2 rfl (by omega) (.slice vp3 ln cp3) ln (encS s'.stack) rfl (HO3.out.alloc _) ⟨wr.heap.size, 0, none⟩ 1 1 [.int .i32 (yy : Int)] rfl rfl (by simpa using cell_one_new ((wr.setCell ⟨S32, yy, none⟩ (.bool true)).setCell ⟨D33, yy, none⟩ (.int .i64 d)) (.int .i32 (yy : Int)) 21) (by simp [Value.oneCell']) (by omega) (by simp [maxLen]; omega) (by omega) (by simp; omega) _ rfl ?_; intro g' cp' w1 hown' hgrow' hat' hlt')
                    go_roundw
                    case rel =>
                      have hv1 : visit1 d s' yy = ({ stack := s'.stack ++ [yy], seen := upd s'.seen yy true, delta := upd s'.delta yy d }, true) := by unfold visit1; rw [if_pos hsee]
                      refine ⟨j + 1, by simp, rfl, by omega, ?_⟩
                      rw [hsn.out, hv1]
                      have hgrow2 : (((wr.setCell ⟨S32, yy, none⟩ (.bool true)).setCell ⟨D33, yy, none⟩ (.int .i64 d)).alloc (.cells #[.int .i32 (yy : Int)] 21)).grownBy w1 (Value.slice vp3 s'.stack.length cp3).ownBlock := by rw [← HLN3.out]; exact hgrow'
                      have h1 := HG3.out.push (d := d) (gb_trans (gb_alloc _ _ _) hgrow2) (by rw [← HLN3.out]; exact hown')
                      rw [← HLN3.out] at h1
                      exact ⟨h1, rfl⟩
                    case measure => simp [intOf]; omega
                  · have hsee : s'.seen yy = true := by simpa using hsee
                    rw [hsee] at cS
                    by_cases hdl : dd3 = d
                    · subst hdl
                      go_wp2_with fail
                      go_roundw
                      case rel =>
                        have hv1 : visit1 dd3 s' yy = (s', true) := by unfold visit1; rw [if_neg (by rw [hsee]; decide), if_pos HD3.out.symm]
                        refine ⟨j + 1, by simp, rfl, by omega, ?_⟩
                        rw [hsn.out, hv1]
                        exact ⟨HG3.out, rfl⟩
                      case measure => simp [intOf]; omega
                    · have hne : (dd3 != d) = true := bne_iff_ne.2 hdl
                      have HNE : Hid ((dd3 != d) = true) := hne
                      clear hne
                      have HDL : Hid (¬ dd3 = d) := hdl
                      clear hdl hcn3 hSD hSl hDl HVG
                      go_upto_if 361 with fail
                      rw [HNE.out]
                      go_wp2_with fail
                      refine Handed.intro 0 ?measure ?_
                      case measure => omega
                      go_step
                      (repeat apply Exists.intro)
                      refine ⟨?rel, rfl⟩
                      case rel =>
                        have hv1 : visit1 d s' yy = (s', false) := by unfold visit1; rw [if_neg (by rw [hsee]; decide), if_neg (fun e => HDL.out (HD3.out.trans e))]
                        refine ⟨s', false, rfl, HG3, Or.inr ⟨rfl, HDN.out _ _ (Done.bad s l i s' HHS.out ?_)⟩⟩
                        rw [hstep.out]
                        have h1 := hsn.out
                        rw [hv1] at h1
                        have h2 := visit_stop d (((prg nb h0 D kd).succ i).drop (j + 1)) (((prg nb h0 D kd).succ i).take (j + 1)) { s with stack := l } (by rw [h1])
                        rw [List.take_append_drop] at h2
                        rw [h2, h1]
                · obtain rfl : j = L := by omega
                  have hjn : ¬ (j : Int) < (j : Int) := by omega
                  have hfull : ((prg nb h0 D kd).succ i).take j = (prg nb h0 D kd).succ i := by rw [HL.out]; simp
                  have HVF := HVG.out j (Nat.le_refl _)
                  rw [hfull] at hrj HVF
                  have HVF' : Hid (Good nb (visit d { s with stack := l } ((prg nb h0 D kd).succ i)).1 (t + 1)) := HVF
                  have HRJ := hrj
                  clear HVF hrj hfull
                  go_wp2_with fail
                  go_roundg (gk - 1)
                  case measure => omega
                  case rel =>
                    exact ⟨(visit d { s with stack := l } ((prg nb h0 D kd).succ i)).1, true, rfl, HRJ.out.1, Or.inl ⟨rfl, t + 1, by omega, HVF'.out, fun r c h => HDN.out r c (Done.go s l i _ r c HHS.out (by rw [hstep.out, ← HRJ.out.2]) h)⟩⟩
    · have hown := HG.out.own
      obtain ⟨vp, cp, rfl⟩ := own21_form hown
      have HDN : Hid (Done (prg nb h0 D kd) s00 s false) := hdn
      clear hown hdn HD
      go_wp2_with fail
      all_goals exact HX.out _ _ _ _ _ _ _ _ _ _ _ _ _ _ _ _ _ _ _ _ _ _ _ _ _ _ _ _ _ _ _ _ _ _ _ _ _ _ _ _ _ _ _ _ _ _ _ _ _ _ _ _ _ _ _ _ _ _ _ _ _ _ _ _ _ _ _ _ _ _ _ _ _ _ _ _ _ _ _ s false wr HG.out.bel HG.out.rS HG.out.rD HDN.out

end Go.Proofs.Ybulkfqak
