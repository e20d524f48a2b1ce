import Derived.Test.YbulkfqakLPre
namespace Go.Proofs.Ybulkfqak
open Go.RowKit Go.Shelf

theorem accFrom_succ (kd : Nat → Nat) (k c : Nat) (d : Int) : accFrom kd k (c + 1) d = if kd k = 1 then accCells ((3 * k : Nat) : Int) 2 (-8 - (d + 8)) (-8 - (d + 8) + 8) true ++ accFrom kd (k + 1) c (d + 8) else if kd k = 2 then accCells ((3 * k : Nat) : Int) 1 (-8 - d) (-8 - d + 8) false ++ accFrom kd (k + 1) c (d - 8) else if kd k = 3 then [] else accFrom kd (k + 1) c d := rfl
theorem accNum_succ (kd : Nat → Nat) (k c : Nat) : accNum kd k (c + 1) = if kd k = 1 then accNum kd (k + 1) c + 1 else if kd k = 2 then accNum kd (k + 1) c + 1 else if kd k = 3 then 0 else accNum kd (k + 1) c := rfl
/-- what the want loop lays -/
structure Q9 (wI : World) (base F L nb : Nat) (fF fL : Nat → Value) (n : Nat) (xs : List Value) (v : Value) (W : World) : Prop where
  bel : Below wI.heap.size wI W
  rF : W.rowIs F 21 nb fF
  rL : W.rowIs L 21 nb fL
  own : W.ownsRow base 60 7 v n xs
  dis : wI.heap.size ≤ F ∧ wI.heap.size ≤ base ∧ wI.heap.size ≤ L ∧ True ∧ base ≤ W.heap.size ∧ F ≠ L
section
variable {wI W W1 : World} {base F L nb : Nat} {fF fL : Nat → Value} {n n' : Nat} {xs xs' : List Value} {v v' : Value}
theorem Q9.setF (h : Q9 wI base F L nb fF fL n xs v W) (k : Nat) (u : Value) : Q9 wI base F L nb (fun i => if i = k then u else fF i) fL n xs v (W.setCell ⟨F, k, none⟩ u) := by
  obtain ⟨d1, d2, d3, d4, d5, d6⟩ := h.dis
  refine ⟨h.bel.setCell (p := ⟨F, k, none⟩) d1 _, h.rF.set k u, h.rL.setOther (a := ⟨F, k, none⟩) (fun e => d6 e.symm) _, own_kept h.own fun g hg => Below.heap_setCell _ _ _ _ (fun e => ?_), d1, d2, d3, d4, by simpa using d5, d6⟩
  exact own60_ne h.own h.rF (by decide) (by rw [hg, e])
theorem Q9.setL (h : Q9 wI base F L nb fF fL n xs v W) (k : Nat) (u : Value) : Q9 wI base F L nb fF (fun i => if i = k then u else fL i) n xs v (W.setCell ⟨L, k, none⟩ u) := by
  obtain ⟨d1, d2, d3, d4, d5, d6⟩ := h.dis
  refine ⟨h.bel.setCell (p := ⟨L, k, none⟩) d3 _, h.rF.setOther (a := ⟨L, k, none⟩) d6 _, h.rL.set k u, own_kept h.own fun g hg => Below.heap_setCell _ _ _ _ (fun e => ?_), d1, d2, d3, d4, by simpa using d5, d6⟩
  exact own60_ne h.own h.rL (by decide) (by rw [hg, e])
theorem Q9.app (h : Q9 wI base F L nb fF fL n xs v W) (g : W.grownBy W1 v.ownBlock) (ho : W1.ownsRow base 60 7 v' n' xs') : Q9 wI base F L nb fF fL n' xs' v' W1 := by
  obtain ⟨d1, d2, d3, d4, d5, d6⟩ := h.dis
  have ne : ∀ {b}, b < base → some b ≠ v.ownBlock := fun hb => own_ne h.own hb
  refine ⟨⟨g.os.trans h.bel.os, g.tape.trans h.bel.tape, g.output.trans h.bel.output, Nat.le_trans h.bel.size g.size, fun k hk => (g.block k (Nat.lt_of_lt_of_le hk h.bel.size) (ne (by omega))).trans (h.bel.block k hk)⟩, row_grown h.rF g (own60_ne h.own h.rF (by decide)), row_grown h.rL g (own60_ne h.own h.rL (by decide)), ho, d1, d2, d3, d4, Nat.le_trans d5 g.size, d6⟩
theorem Q9.congr (h : Q9 wI base F L nb fF fL n xs v W) {gF gL : Nat → Value} (e1 : ∀ i, i < nb → fF i = gF i) (e2 : ∀ i, i < nb → fL i = gL i) : Q9 wI base F L nb gF gL n xs v W := ⟨h.bel, h.rF.congr e1, h.rL.congr e2, h.own, h.dis⟩
end
def fF9 {nb : Nat} (p : Prg nb) (sn : Nat → Bool) (ok : Bool) (fi : Nat → Int) (n0 k : Nat) (i : Nat) : Value := .int .i32 (if i < k then (if ok = true then ((cntTo p sn n0 i : Nat) : Int) else fi i) else 0)
def fL9 {nb : Nat} (p : Prg nb) (sn : Nat → Bool) (ok : Bool) (la : Nat → Int) (n0 k : Nat) (i : Nat) : Value := .int .i32 (if i < k then (if ok = true then ((cntTo p sn n0 (i + 1) : Nat) : Int) else la i) else 0)
theorem fF9_next {nb : Nat} (p : Prg nb) (sn : Nat → Bool) (ok : Bool) (fi : Nat → Int) (n0 k i : Nat) : (if i = k then Value.int .i32 (if ok = true then ((cntTo p sn n0 k : Nat) : Int) else fi k) else fF9 p sn ok fi n0 k i) = fF9 p sn ok fi n0 (k + 1) i := by
  unfold fF9
  by_cases e : i = k
  · subst e; simp
  · rw [if_neg e]
    by_cases h : i < k
    · have h2 : i < k + 1 := by omega
      simp [h, h2]
    · have h2 : ¬ i < k + 1 := by omega
      simp only [if_neg h, if_neg h2]
theorem fL9_next {nb : Nat} (p : Prg nb) (sn : Nat → Bool) (ok : Bool) (la : Nat → Int) (n0 k i : Nat) : (if i = k then Value.int .i32 (if ok = true then ((cntTo p sn n0 (k + 1) : Nat) : Int) else la k) else fL9 p sn ok la n0 k i) = fL9 p sn ok la n0 (k + 1) i := by
  unfold fL9
  by_cases e : i = k
  · subst e; simp
  · rw [if_neg e]
    by_cases h : i < k
    · have h2 : i < k + 1 := by omega
      simp [h, h2]
    · have h2 : ¬ i < k + 1 := by omega
      simp only [if_neg h, if_neg h2]
def R9 (wI : World) {nb : Nat} (p : Prg nb) (sn : Nat → Bool) (dl : Nat → Int) (ok : Bool) (base F43 L44 : Nat) (fi la : Nat → Int) (n0 : Nat) (xs0 : List Value) (k : Nat) (v : Value) (W : World) : Prop :=
  Q9 wI base F43 L44 nb (fF9 p sn ok fi n0 k) (fL9 p sn ok la n0 k) (if ok = true then cntTo p sn n0 k else n0) (if ok = true then accTo p sn dl xs0 k else xs0) v W
set_option maxRecDepth 1000000 in
set_option maxHeartbeats 4000000 in
theorem law9 (c0 c1 c2 c3 c4 c5 c6 c7 c8 c9 c10 c14 c15 c17 c18 c19 c20 c21 c22 c23 c24 c25 c26 c27 c28 c29 c30 c31 c34 c36 c37 c38 c39 c40 c42 c50 c51 c52 c53 c54 c55 c56 c57 c58 c59 c60 c61 c62 c63 c64 c65 c66 c67 c68 c69 c70 c71 c72 c73 c74 c75 c76 c77 c78 c79 c80 c81 c82 c83 c84 c85 c86 c87 c88 c89 c90 c91 c92 c93 c94 c95 c96 c97 c98 c99 c100 c101 c102 c103 c104 c105 c106 c107 c108 c109 c110 c111 c112 c113 c114 c115 c116 c117 c118 c119 c120 c121 c122 c123 c124 c125 c126 c127 c128 c129 c130 c131 c132 c133 c134 c135 c136 c137 c138 c139 c140 c141 c142 c143 c144 c145 c146 c147 c148 c149 c150 c151 c152 c153 c154 c155 c156 c157 c158 c159 c160 c161 c162 c163 c164 c165 c166 c167 c168 c169 c170 c171 c172 c173 c174 c175 c176 c177 c178 c179 c180 c181 c182 c183 c184 c185 c186 c187 c188 c189 c190 c191 c192 c193 c194 c195 c196 c197 c198 c199 c200 c201 c202 c203 c204 c205 c206 c207 c208 c209 c210 c211 c212 c213 c214 c215 c216 c217 c218 c219 c220 c221 c222 c223 c224 c225 c226 c227 c228 c229 c230 c231 c232 c233 c234 c235 c236 c237 c238 c239 c240 c241 c242 c243 c244 c245 c246 c247 c248 c249 c250 c251 c252 c253 c254 c255 c256 c257 c258 c259 c260 c261 c262 c263 c264 c265 c266 c267 c268 c269 c270 c271 c272 c273 c274 c275 c276 c277 c278 c279 c280 c281 c282 c283 c284 c285 c286 c287 c288 c289 c290 c291 c292 c293 c294 c295 c296 c297 c298 c299 c300 c301 c302 c303 c304 c305 c306 c307 c308 c309 c310 c311 c312 c313 c314 c315 c316 c317 c318 c319 c320 c321 c322 c323 c324 c325 c326 c327 c328 c329 c330 c331 c332 c333 c334 c335 c336 c337 c338 c339 c340 c341 c342 c343 c344 c345 c346 c347 c348 c349 c350 c351 c352 c353 c354 c355 c356 c357 c358 c359 c360 c361 c362 c363 c364 c365 c366 c367 c368 c369 c370 c371 c372 c373 c374 c375 c376 c377 c378 c379 c380 c381 c382 c383 c487 c488 c489 c490 c491 c492 c493 c494 c495 c496 c497 c498 c499 c500 c501 c502 c503 c504 c505 c506 c507 c508 c509 c510 c511 c512 c513 c514 c515 c516 c517 c518 c519 c520 c521 c522 c523 c524 c525 c526 c527 c528 c529 c530 c531 c532 c533 c534 c535 c536 c537 c538 c539 c540 c541 c542 c543 c544 c545 c546 c547 c548 c549 c550 c551 c552 c553 c554 c555 c556 c557 c558 c559 c560 c561 c562 c563 c564 c565 c566 c567 c568 c569 c570 c571 c572 c573 c574 c575 c576 c577 c578 c579 c580 c581 c582 c583 c584 c585 c586 c587 c588 c589 c590 c591 c592 c593 c594 c595 c596 c597 c598 c599 c600 c601 c602 c603 c604 c605 c606 c607 c608 c609 c610 c611 c612 c613 c614 c615 c616 c617 c618 c619 c620 c621 c622 c623 c624 c625 c626 c627 c628 c629 c630 c631 c632 c633 c634 c635 c636 c637 c638 c639 c640 c641 c642 c643 c644 c645 c646 c647 c648 c649 c650 c651 c652 c653 c654 c655 c656 c657 c658 c659 c660 c661 c662 c663 c664 : Value) (u46 u47 u48 u49 u384 u385 u386 u387 u388 u389 u390 u391 u392 u393 u394 u395 u396 u397 u398 u399 u400 u401 u402 u403 u404 u405 u406 u407 u408 u409 u410 u411 u412 u413 u414 u415 u416 u417 u418 u419 u420 u421 u422 u423 u424 u425 u426 u427 u428 u429 u430 u431 u432 u433 u434 u435 u436 u437 u438 u439 u440 u441 u442 u443 u444 u445 u446 u447 u448 u449 u450 u451 u452 u453 u454 u455 u456 u457 u458 u459 u460 u461 u462 u463 u464 u465 u466 u467 u468 u469 u470 u471 u472 u473 u474 u475 u476 u477 u478 u479 u480 u481 u482 u483 u484 u485 u486 : Value) (b o nb cap S13 N K16 S32 D33 F43 L44 base : Nat) (p : Prg nb) (D : BD) (s : St) (ok : Bool) (fi la : Nat → Int) (n0 : Nat) (xs0 : List Value) (v : Value) (wI w : World) (hn : nb ≤ 65536) (hN : N ≤ 65536) (hn0 : n0 ≤ 7) (hB : BAt wI b o nb D) (hfi : ∀ i, D.fi i = fi i) (hla : ∀ i, D.la i = la i)
    (hS : wI.rowIs S13 3 (nb + 1) (fun i => .int .i64 ((p.st i : Nat) : Int))) (hmono : ∀ i, i < nb → p.st i ≤ p.st (i + 1)) (hst : ∀ i, i ≤ nb → p.st i ≤ N) (hK : wI.rowIs K16 3 N (fun i => .int .i64 ((p.kd i : Nat) : Int))) (hcnt : ∀ i, i ≤ nb → cntTo p s.seen n0 i ≤ n0 + p.st i)
    (hS32 : wI.rowIs S32 4 nb (fun i => .bool (s.seen i))) (hD33 : wI.rowIs D33 2 nb (fun i => .int .i64 (s.delta i))) (hbd : ∀ i, i < nb → s.seen i = true → -90000000000 ≤ s.delta i ∧ s.delta i ≤ 90000000000)
    (hr0 : R9 wI p s.seen s.delta ok base F43 L44 fi la n0 xs0 0 v w) (Q1 : Exit → Act → World → Prop) (hexit : ∀ (v45 v46 v47 v48 v49 v384 v385 v386 v387 v388 v389 v390 v391 v392 v393 v394 v395 v396 v397 v398 v399 v400 v401 v402 v403 v404 v405 v406 v407 v408 v409 v410 v411 v412 v413 v414 v415 v416 v417 v418 v419 v420 v421 v422 v423 v424 v425 v426 v427 v428 v429 v430 v431 v432 v433 v434 v435 v436 v437 v438 v439 v440 v441 v442 v443 v444 v445 v446 v447 v448 v449 v450 v451 v452 v453 v454 v455 v456 v457 v458 v459 v460 v461 v462 v463 v464 v465 v466 v467 v468 v469 v470 v471 v472 v473 v474 v475 v476 v477 v478 v479 v480 v481 v482 v483 v484 v485 v486 : Value) (v : Value) (W' : World), R9 wI p s.seen s.delta ok base F43 L44 fi la n0 xs0 nb v W' → Q1 (.exit 16) ⟨#[c0, c1, c2, c3, c4, c5, c6, c7, c8, c9, c10, .slice (some ⟨b, o, none⟩) nb cap, .int .i64 ((nb : Nat) : Int), .slice (some ⟨S13, 0, none⟩) (nb + 1) (nb + 1), c14, c15, .slice (some ⟨K16, 0, none⟩) N N, c17, c18, c19, c20, c21, c22, c23, c24, c25, c26, c27, c28, c29, c30, c31, .slice (some ⟨S32, 0, none⟩) nb nb, .slice (some ⟨D33, 0, none⟩) nb nb, c34, .bool ok, c36, c37, c38, c39, c40, v, c42, .slice (some ⟨F43, 0, none⟩) nb nb, .slice (some ⟨L44, 0, none⟩) nb nb, v45, v46, v47, v48, v49, c50, c51, c52, c53, c54, c55, c56, c57, c58, c59, c60, c61, c62, c63, c64, c65, c66, c67, c68, c69, c70, c71, c72, c73, c74, c75, c76, c77, c78, c79, c80, c81, c82, c83, c84, c85, c86, c87, c88, c89, c90, c91, c92, c93, c94, c95, c96, c97, c98, c99, c100, c101, c102, c103, c104, c105, c106, c107, c108, c109, c110, c111, c112, c113, c114, c115, c116, c117, c118, c119, c120, c121, c122, c123, c124, c125, c126, c127, c128, c129, c130, c131, c132, c133, c134, c135, c136, c137, c138, c139, c140, c141, c142, c143, c144, c145, c146, c147, c148, c149, c150, c151, c152, c153, c154, c155, c156, c157, c158, c159, c160, c161, c162, c163, c164, c165, c166, c167, c168, c169, c170, c171, c172, c173, c174, c175, c176, c177, c178, c179, c180, c181, c182, c183, c184, c185, c186, c187, c188, c189, c190, c191, c192, c193, c194, c195, c196, c197, c198, c199, c200, c201, c202, c203, c204, c205, c206, c207, c208, c209, c210, c211, c212, c213, c214, c215, c216, c217, c218, c219, c220, c221, c222, c223, c224, c225, c226, c227, c228, c229, c230, c231, c232, c233, c234, c235, c236, c237, c238, c239, c240, c241, c242, c243, c244, c245, c246, c247, c248, c249, c250, c251, c252, c253, c254, c255, c256, c257, c258, c259, c260, c261, c262, c263, c264, c265, c266, c267, c268, c269, c270, c271, c272, c273, c274, c275, c276, c277, c278, c279, c280, c281, c282, c283, c284, c285, c286, c287, c288, c289, c290, c291, c292, c293, c294, c295, c296, c297, c298, c299, c300, c301, c302, c303, c304, c305, c306, c307, c308, c309, c310, c311, c312, c313, c314, c315, c316, c317, c318, c319, c320, c321, c322, c323, c324, c325, c326, c327, c328, c329, c330, c331, c332, c333, c334, c335, c336, c337, c338, c339, c340, c341, c342, c343, c344, c345, c346, c347, c348, c349, c350, c351, c352, c353, c354, c355, c356, c357, c358, c359, c360, c361, c362, c363, c364, c365, c366, c367, c368, c369, c370, c371, c372, c373, c374, c375, c376, c377, c378, c379, c380, c381, c382, c383, v384, v385, v386, v387, v388, v389, v390, v391, v392, v393, v394, v395, v396, v397, v398, v399, v400, v401, v402, v403, v404, v405, v406, v407, v408, v409, v410, v411, v412, v413, v414, v415, v416, v417, v418, v419, v420, v421, v422, v423, v424, v425, v426, v427, v428, v429, v430, v431, v432, v433, v434, v435, v436, v437, v438, v439, v440, v441, v442, v443, v444, v445, v446, v447, v448, v449, v450, v451, v452, v453, v454, v455, v456, v457, v458, v459, v460, v461, v462, v463, v464, v465, v466, v467, v468, v469, v470, v471, v472, v473, v474, v475, v476, v477, v478, v479, v480, v481, v482, v483, v484, v485, v486, c487, c488, c489, c490, c491, c492, c493, c494, c495, c496, c497, c498, c499, c500, c501, c502, c503, c504, c505, c506, c507, c508, c509, c510, c511, c512, c513, c514, c515, c516, c517, c518, c519, c520, c521, c522, c523, c524, c525, c526, c527, c528, c529, c530, c531, c532, c533, c534, c535, c536, c537, c538, c539, c540, c541, c542, c543, c544, c545, c546, c547, c548, c549, c550, c551, c552, c553, c554, c555, c556, c557, c558, c559, c560, c561, c562, c563, c564, c565, c566, c567, c568, c569, c570, c571, c572, c573, c574, c575, c576, c577, c578, c579, c580, c581, c582, c583, c584, c585, c586, c587, c588, c589, c590, c591, c592, c593, c594, c595, c596, c597, c598, c599, c600, c601, c602, c603, c604, c605, c606, c607, c608, c609, c610, c611, c612, c613, c614, c615, c616, c617, c618, c619, c620, c621, c622, c623, c624, c625, c626, c627, c628, c629, c630, c631, c632, c633, c634, c635, c636, c637, c638, c639, c640, c641, c642, c643, c644, c645, c646, c647, c648, c649, c650, c651, c652, c653, c654, c655, c656, c657, c658, c659, c660, c661, c662, c663, c664], []⟩ W') :
    Code.wp Yba.prog (.loop (lp4 7)) (NoPanic Q1) ⟨#[c0, c1, c2, c3, c4, c5, c6, c7, c8, c9, c10, .slice (some ⟨b, o, none⟩) nb cap, .int .i64 ((nb : Nat) : Int), .slice (some ⟨S13, 0, none⟩) (nb + 1) (nb + 1), c14, c15, .slice (some ⟨K16, 0, none⟩) N N, c17, c18, c19, c20, c21, c22, c23, c24, c25, c26, c27, c28, c29, c30, c31, .slice (some ⟨S32, 0, none⟩) nb nb, .slice (some ⟨D33, 0, none⟩) nb nb, c34, .bool ok, c36, c37, c38, c39, c40, v, c42, .slice (some ⟨F43, 0, none⟩) nb nb, .slice (some ⟨L44, 0, none⟩) nb nb, .int .i64 0, u46, u47, u48, u49, c50, c51, c52, c53, c54, c55, c56, c57, c58, c59, c60, c61, c62, c63, c64, c65, c66, c67, c68, c69, c70, c71, c72, c73, c74, c75, c76, c77, c78, c79, c80, c81, c82, c83, c84, c85, c86, c87, c88, c89, c90, c91, c92, c93, c94, c95, c96, c97, c98, c99, c100, c101, c102, c103, c104, c105, c106, c107, c108, c109, c110, c111, c112, c113, c114, c115, c116, c117, c118, c119, c120, c121, c122, c123, c124, c125, c126, c127, c128, c129, c130, c131, c132, c133, c134, c135, c136, c137, c138, c139, c140, c141, c142, c143, c144, c145, c146, c147, c148, c149, c150, c151, c152, c153, c154, c155, c156, c157, c158, c159, c160, c161, c162, c163, c164, c165, c166, c167, c168, c169, c170, c171, c172, c173, c174, c175, c176, c177, c178, c179, c180, c181, c182, c183, c184, c185, c186, c187, c188, c189, c190, c191, c192, c193, c194, c195, c196, c197, c198, c199, c200, c201, c202, c203, c204, c205, c206, c207, c208, c209, c210, c211, c212, c213, c214, c215, c216, c217, c218, c219, c220, c221, c222, c223, c224, c225, c226, c227, c228, c229, c230, c231, c232, c233, c234, c235, c236, c237, c238, c239, c240, c241, c242, c243, c244, c245, c246, c247, c248, c249, c250, c251, c252, c253, c254, c255, c256, c257, c258, c259, c260, c261, c262, c263, c264, c265, c266, c267, c268, c269, c270, c271, c272, c273, c274, c275, c276, c277, c278, c279, c280, c281, c282, c283, c284, c285, c286, c287, c288, c289, c290, c291, c292, c293, c294, c295, c296, c297, c298, c299, c300, c301, c302, c303, c304, c305, c306, c307, c308, c309, c310, c311, c312, c313, c314, c315, c316, c317, c318, c319, c320, c321, c322, c323, c324, c325, c326, c327, c328, c329, c330, c331, c332, c333, c334, c335, c336, c337, c338, c339, c340, c341, c342, c343, c344, c345, c346, c347, c348, c349, c350, c351, c352, c353, c354, c355, c356, c357, c358, c359, c360, c361, c362, c363, c364, c365, c366, c367, c368, c369, c370, c371, c372, c373, c374, c375, c376, c377, c378, c379, c380, c381, c382, c383, u384, u385, u386, u387, u388, u389, u390, u391, u392, u393, u394, u395, u396, u397, u398, u399, u400, u401, u402, u403, u404, u405, u406, u407, u408, u409, u410, u411, u412, u413, u414, u415, u416, u417, u418, u419, u420, u421, u422, u423, u424, u425, u426, u427, u428, u429, u430, u431, u432, u433, u434, u435, u436, u437, u438, u439, u440, u441, u442, u443, u444, u445, u446, u447, u448, u449, u450, u451, u452, u453, u454, u455, u456, u457, u458, u459, u460, u461, u462, u463, u464, u465, u466, u467, u468, u469, u470, u471, u472, u473, u474, u475, u476, u477, u478, u479, u480, u481, u482, u483, u484, u485, u486, c487, c488, c489, c490, c491, c492, c493, c494, c495, c496, c497, c498, c499, c500, c501, c502, c503, c504, c505, c506, c507, c508, c509, c510, c511, c512, c513, c514, c515, c516, c517, c518, c519, c520, c521, c522, c523, c524, c525, c526, c527, c528, c529, c530, c531, c532, c533, c534, c535, c536, c537, c538, c539, c540, c541, c542, c543, c544, c545, c546, c547, c548, c549, c550, c551, c552, c553, c554, c555, c556, c557, c558, c559, c560, c561, c562, c563, c564, c565, c566, c567, c568, c569, c570, c571, c572, c573, c574, c575, c576, c577, c578, c579, c580, c581, c582, c583, c584, c585, c586, c587, c588, c589, c590, c591, c592, c593, c594, c595, c596, c597, c598, c599, c600, c601, c602, c603, c604, c605, c606, c607, c608, c609, c610, c611, c612, c613, c614, c615, c616, c617, c618, c619, c620, c621, c622, c623, c624, c625, c626, c627, c628, c629, c630, c631, c632, c633, c634, c635, c636, c637, c638, c639, c640, c641, c642, c643, c644, c645, c646, c647, c648, c649, c650, c651, c652, c653, c654, c655, c656, c657, c658, c659, c660, c661, c662, c663, c664], []⟩ w := by
  conv => arg 2; arg 1; whnf
  have HX : Hid (∀ (v45 v46 v47 v48 v49 v384 v385 v386 v387 v388 v389 v390 v391 v392 v393 v394 v395 v396 v397 v398 v399 v400 v401 v402 v403 v404 v405 v406 v407 v408 v409 v410 v411 v412 v413 v414 v415 v416 v417 v418 v419 v420 v421 v422 v423 v424 v425 v426 v427 v428 v429 v430 v431 v432 v433 v434 v435 v436 v437 v438 v439 v440 v441 v442 v443 v444 v445 v446 v447 v448 v449 v450 v451 v452 v453 v454 v455 v456 v457 v458 v459 v460 v461 v462 v463 v464 v465 v466 v467 v468 v469 v470 v471 v472 v473 v474 v475 v476 v477 v478 v479 v480 v481 v482 v483 v484 v485 v486 : Value) (v : Value) (W' : World), R9 wI p s.seen s.delta ok base F43 L44 fi la n0 xs0 nb v W' → Q1 (.exit 16) ⟨#[c0, c1, c2, c3, c4, c5, c6, c7, c8, c9, c10, .slice (some ⟨b, o, none⟩) nb cap, .int .i64 ((nb : Nat) : Int), .slice (some ⟨S13, 0, none⟩) (nb + 1) (nb + 1), c14, c15, .slice (some ⟨K16, 0, none⟩) N N, c17, c18, c19, c20, c21, c22, c23, c24, c25, c26, c27, c28, c29, c30, c31, .slice (some ⟨S32, 0, none⟩) nb nb, .slice (some ⟨D33, 0, none⟩) nb nb, c34, .bool ok, c36, c37, c38, c39, c40, v, c42, .slice (some ⟨F43, 0, none⟩) nb nb, .slice (some ⟨L44, 0, none⟩) nb nb, v45, v46, v47, v48, v49, c50, c51, c52, c53, c54, c55, c56, c57, c58, c59, c60, c61, c62, c63, c64, c65, c66, c67, c68, c69, c70, c71, c72, c73, c74, c75, c76, c77, c78, c79, c80, c81, c82, c83, c84, c85, c86, c87, c88, c89, c90, c91, c92, c93, c94, c95, c96, c97, c98, c99, c100, c101, c102, c103, c104, c105, c106, c107, c108, c109, c110, c111, c112, c113, c114, c115, c116, c117, c118, c119, c120, c121, c122, c123, c124, c125, c126, c127, c128, c129, c130, c131, c132, c133, c134, c135, c136, c137, c138, c139, c140, c141, c142, c143, c144, c145, c146, c147, c148, c149, c150, c151, c152, c153, c154, c155, c156, c157, c158, c159, c160, c161, c162, c163, c164, c165, c166, c167, c168, c169, c170, c171, c172, c173, c174, c175, c176, c177, c178, c179, c180, c181, c182, c183, c184, c185, c186, c187, c188, c189, c190, c191, c192, c193, c194, c195, c196, c197, c198, c199, c200, c201, c202, c203, c204, c205, c206, c207, c208, c209, c210, c211, c212, c213, c214, c215, c216, c217, c218, c219, c220, c221, c222, c223, c224, c225, c226, c227, c228, c229, c230, c231, c232, c233, c234, c235, c236, c237, c238, c239, c240, c241, c242, c243, c244, c245, c246, c247, c248, c249, c250, c251, c252, c253, c254, c255, c256, c257, c258, c259, c260, c261, c262, c263, c264, c265, c266, c267, c268, c269, c270, c271, c272, c273, c274, c275, c276, c277, c278, c279, c280, c281, c282, c283, c284, c285, c286, c287, c288, c289, c290, c291, c292, c293, c294, c295, c296, c297, c298, c299, c300, c301, c302, c303, c304, c305, c306, c307, c308, c309, c310, c311, c312, c313, c314, c315, c316, c317, c318, c319, c320, c321, c322, c323, c324, c325, c326, c327, c328, c329, c330, c331, c332, c333, c334, c335, c336, c337, c338, c339, c340, c341, c342, c343, c344, c345, c346, c347, c348, c349, c350, c351, c352, c353, c354, c355, c356, c357, c358, c359, c360, c361, c362, c363, c364, c365, c366, c367, c368, c369, c370, c371, c372, c373, c374, c375, c376, c377, c378, c379, c380, c381, c382, c383, v384, v385, v386, v387, v388, v389, v390, v391, v392, v393, v394, v395, v396, v397, v398, v399, v400, v401, v402, v403, v404, v405, v406, v407, v408, v409, v410, v411, v412, v413, v414, v415, v416, v417, v418, v419, v420, v421, v422, v423, v424, v425, v426, v427, v428, v429, v430, v431, v432, v433, v434, v435, v436, v437, v438, v439, v440, v441, v442, v443, v444, v445, v446, v447, v448, v449, v450, v451, v452, v453, v454, v455, v456, v457, v458, v459, v460, v461, v462, v463, v464, v465, v466, v467, v468, v469, v470, v471, v472, v473, v474, v475, v476, v477, v478, v479, v480, v481, v482, v483, v484, v485, v486, c487, c488, c489, c490, c491, c492, c493, c494, c495, c496, c497, c498, c499, c500, c501, c502, c503, c504, c505, c506, c507, c508, c509, c510, c511, c512, c513, c514, c515, c516, c517, c518, c519, c520, c521, c522, c523, c524, c525, c526, c527, c528, c529, c530, c531, c532, c533, c534, c535, c536, c537, c538, c539, c540, c541, c542, c543, c544, c545, c546, c547, c548, c549, c550, c551, c552, c553, c554, c555, c556, c557, c558, c559, c560, c561, c562, c563, c564, c565, c566, c567, c568, c569, c570, c571, c572, c573, c574, c575, c576, c577, c578, c579, c580, c581, c582, c583, c584, c585, c586, c587, c588, c589, c590, c591, c592, c593, c594, c595, c596, c597, c598, c599, c600, c601, c602, c603, c604, c605, c606, c607, c608, c609, c610, c611, c612, c613, c614, c615, c616, c617, c618, c619, c620, c621, c622, c623, c624, c625, c626, c627, c628, c629, c630, c631, c632, c633, c634, c635, c636, c637, c638, c639, c640, c641, c642, c643, c644, c645, c646, c647, c648, c649, c650, c651, c652, c653, c654, c655, c656, c657, c658, c659, c660, c661, c662, c663, c664], []⟩ W') := hexit
  have HB : Hid (BAt wI b o nb D) := hB
  have HS : Hid (wI.rowIs S13 3 (nb + 1) (fun i => .int .i64 ((p.st i : Nat) : Int))) := hS
  have HK : Hid (wI.rowIs K16 3 N (fun i => .int .i64 ((p.kd i : Nat) : Int))) := hK
  have H32 : Hid (wI.rowIs S32 4 nb (fun i => .bool (s.seen i)) ∧ wI.rowIs D33 2 nb (fun i => .int .i64 (s.delta i))) := ⟨hS32, hD33⟩
  have HC : Hid (∀ i, i ≤ nb → cntTo p s.seen n0 i ≤ n0 + p.st i) := hcnt
  have HM : Hid ((∀ i, i < nb → p.st i ≤ p.st (i + 1)) ∧ (∀ i, i ≤ nb → p.st i ≤ N) ∧ (∀ i, i < nb → s.seen i = true → -90000000000 ≤ s.delta i ∧ s.delta i ≤ 90000000000) ∧ (∀ i, D.fi i = fi i) ∧ ∀ i, D.la i = la i) := ⟨hmono, hst, hbd, hfi, hla⟩
  have H0 : Hid (R9 wI p s.seen s.delta ok base F43 L44 fi la n0 xs0 0 v w) := hr0
  clear hexit hB hS hK hS32 hD33 hcnt hmono hst hbd hfi hla hr0
  dsimp only
  go_loopw [41, 45] (fun s41 s45 wr => ∃ k : Nat, s45 = .int .i64 (k : Int) ∧ k ≤ nb ∧ Hid (R9 wI p s.seen s.delta ok base F43 L44 fi la n0 xs0 k s41 wr)) (fun _ s45 _ => nb - (intOf s45).toNat)
  case atStart => exact ⟨0, rfl, by omega, H0⟩
  case round =>
    obtain ⟨k, rfl, hk, hr⟩ := hrel
    by_cases hlt : k < nb
    · have hkn : (k : Int) < (nb : Int) := by omega
      have eF := hr.out.rF.cell hlt
      have gF := hr.out.rF.frozen k
      have eL := hr.out.rL.cell hlt
      have gL := hr.out.rL.frozen k
      have HBr : Hid (BAt wr b o nb D) := HB.out.below (Nat.le_refl _) hr.out.bel
      have d4 := HBr.out.c4 k hlt
      have d5 := HBr.out.c5 k hlt
      have hFL := hr.out.dis.2.2.2.2.2
      cases ok with
      | false =>
        go_wp2_with fail
        refine ⟨⟨k + 1, by simp, by omega, ?_⟩, by simp [intOf]; omega⟩
        refine ((hr.out.setF k (.int .i32 (D.fi k))).setL k (.int .i32 (D.la k))).congr (fun i _ => ?_) (fun i _ => ?_)
        · have := fF9_next p s.seen false fi n0 k i
          rw [HM.out.2.2.2.1]
          exact this
        · have := fL9_next p s.seen false la n0 k i
          rw [HM.out.2.2.2.2]
          exact this
      | true =>
        have hc1 := HC.out k (by omega)
        have hs1 := HM.out.2.1 k (by omega)
        have HR0 : Hid (Q9 wI base F43 L44 nb (fF9 p s.seen true fi n0 k) (fL9 p s.seen true la n0 k) (cntTo p s.seen n0 k) (accTo p s.seen s.delta xs0 k) u41 wr) := hr.out
        obtain ⟨c, hc⟩ : ∃ c, c = cntTo p s.seen n0 k := ⟨_, rfl⟩
        have HCC : Hid (c = cntTo p s.seen n0 k) := hc
        rw [← hc] at HR0 hc1
        obtain ⟨vp, cp, rfl⟩ := own60_form HR0.out.own
        clear hc hr eL gL d4 d5
        have i1 : (c : Int) ≤ 2147483647 := by omega
        have i2 : -2147483648 ≤ (c : Int) := by omega
        go_upto_region 96 with fail
        have HR1 : Hid (Q9 wI base F43 L44 nb (fF9 p s.seen true fi n0 (k + 1)) (fL9 p s.seen true la n0 k) c (accTo p s.seen s.delta xs0 k) (.slice vp c cp) (wr.setCell ⟨F43, k, none⟩ (.int .i32 (c : Int)))) := by
          refine (HR0.out.setF k (.int .i32 (c : Int))).congr (fun i _ => ?_) (fun _ _ => rfl)
          have := fF9_next p s.seen true fi n0 k i
          rw [← HCC.out] at this
          exact this
        obtain ⟨W1, hW1⟩ : ∃ W1, W1 = wr.setCell ⟨F43, k, none⟩ (.int .i32 (c : Int)) := ⟨_, rfl⟩
        rw [← hW1] at HR1 ⊢
        clear hW1 HR0 eF gF
        have c32 := (H32.out.1.of_block (HR1.out.bel.block _ H32.out.1.lt)).cell hlt
        have c33 := (H32.out.2.of_block (HR1.out.bel.block _ H32.out.2.lt)).cell hlt
        have c0 := (HS.out.of_block (HR1.out.bel.block _ HS.out.lt)).cell (i := k) (by omega)
        have c1 := (HS.out.of_block (HR1.out.bel.block _ HS.out.lt)).cell (i := k + 1) (by omega)
        have q1 : (k : Int) < (nb : Int) + 1 := by omega
        have q2 : (k : Int) + 1 < (nb : Int) + 1 := by omega
        go_upto_if 416 with fail
        go_cut [41, 46, 47, 48, 49] from 413 to 480 (fun s41 _ _ _ _ wx => Hid (Q9 wI base F43 L44 nb (fF9 p s.seen true fi n0 (k + 1)) (fL9 p s.seen true la n0 k) (cntTo p s.seen n0 (k + 1)) (accTo p s.seen s.delta xs0 (k + 1)) s41 wx))
        case first =>
          cases hsk : s.seen k with
          | false =>
            rw [hsk] at c32
            go_wp2_with fail
            go_meet
            case rel =>
              have e1 : cntTo p s.seen n0 (k + 1) = c := by unfold cntTo; rw [hsk, HCC.out]; rfl
              have e2 : accTo p s.seen s.delta xs0 (k + 1) = accTo p s.seen s.delta xs0 k := by conv => lhs; unfold accTo; rw [hsk]; simp
              rw [e1, e2]
              exact HR1
          | true =>
            rw [hsk] at c32
            obtain ⟨bd1, bd2⟩ := HM.out.2.2.1 k hlt hsk
            have hmo := HM.out.1 k hlt
            have hhi := HM.out.2.1 (k + 1) (by omega)
            obtain ⟨lo, hlo⟩ : ∃ lo, lo = p.st k := ⟨_, rfl⟩
            obtain ⟨hi', hhi'⟩ : ∃ hi', hi' = p.st (k + 1) := ⟨_, rfl⟩
            obtain ⟨dd, hdd⟩ : ∃ dd, dd = s.delta k := ⟨_, rfl⟩
            rw [← hlo] at c0 hmo hs1 hc1
            rw [← hhi'] at c1 hmo hhi
            rw [← hdd] at c33 bd1 bd2
            have HLO : Hid (lo = p.st k ∧ hi' = p.st (k + 1) ∧ dd = s.delta k) := ⟨hlo, hhi', hdd⟩
            clear hlo hhi' hdd
            obtain ⟨i0, hi0, hz0, hz1, hz2⟩ := info_parts info60
            go_upto_region 99 with fail
            go_loopw [41, 46, 47] (fun s41 s46 s47 wx => ∃ (j m : Nat) (dj : Int) (ys : List Value), s47 = .int .i64 (j : Int) ∧ s46 = .int .i64 dj ∧ lo ≤ j ∧ j ≤ hi' ∧ m ≤ j - lo ∧ dd - 8 * ((j - lo : Nat) : Int) ≤ dj ∧ dj ≤ dd + 8 * ((j - lo : Nat) : Int) ∧ Hid (accFrom p.kd lo (hi' - lo) dd = ys ++ accFrom p.kd j (hi' - j) dj ∧ accNum p.kd lo (hi' - lo) = m + accNum p.kd j (hi' - j)) ∧ Hid (Q9 wI base F43 L44 nb (fF9 p s.seen true fi n0 (k + 1)) (fL9 p s.seen true la n0 k) (c + m) (accTo p s.seen s.delta xs0 k ++ ys) s41 wx)) (fun _ _ s47 _ => hi' - (intOf s47).toNat)
            case atStart => exact ⟨lo, 0, dd, [], rfl, rfl, by omega, by omega, by omega, by omega, by omega, ⟨rfl, by omega⟩, (by show Q9 _ _ _ _ _ _ _ _ _ _ _; simpa using HR1.out)⟩
            case round =>
              obtain ⟨j, m, dj, ys, rfl, rfl, hj1, hj2, hm, hb1, hb2, HA, HRj⟩ := hrel
              have HFIN : Hid (∀ ys' m', accFrom p.kd lo (hi' - lo) dd = ys' → accNum p.kd lo (hi' - lo) = m' → cntTo p s.seen n0 (k + 1) = c + m' ∧ accTo p s.seen s.delta xs0 (k + 1) = accTo p s.seen s.delta xs0 k ++ ys') := fun ys' m' h1 h2 => by
                rw [HLO.out.1, HLO.out.2.1] at h1 h2
                rw [HLO.out.2.2] at h1
                refine ⟨?_, ?_⟩
                · conv => lhs; unfold cntTo; rw [hsk, ← HCC.out]; simp
                  rw [h2]
                · conv => lhs; unfold accTo; rw [hsk]; simp
                  rw [h1]
              have e0 := (HS.out.of_block (HRj.out.bel.block _ HS.out.lt)).cell (i := k + 1) (by omega)
              rw [← HLO.out.2.1] at e0
              obtain ⟨vp3, cp3, rfl⟩ := own60_form HRj.out.own
              obtain ⟨L3, hL3⟩ : ∃ L3, L3 = c + m := ⟨_, rfl⟩
              have hL3b : L3 ≤ 200000 := by omega
              rw [← hL3] at HRj ⊢
              have HL3 : Hid (L3 = c + m) := hL3
              clear hL3
              by_cases hjl : j < hi'
              · have hjn : (j : Int) < (hi' : Int) := by omega
                have hjN : (j : Int) < (N : Int) := by omega
                have ek := (HK.out.of_block (HRj.out.bel.block _ HK.out.lt)).cell (i := j) (by omega)
                have hbase := HRj.out.dis.2.2.2.2.1
                have u1 : (3 : Int) * (j : Int) ≤ 4294967295 := by omega
                have u2 : (0 : Int) ≤ 3 * (j : Int) := by omega
                have v1 : dj + 8 ≤ 9223372036854775807 := by omega
                have v2 : -9223372036854775808 ≤ dj - 8 := by omega
                have v3 : -8 - (dj + 8) + 8 ≤ 9223372036854775807 := by omega
                have v4 : -9223372036854775808 ≤ -8 - (dj + 8) := by omega
                have v5 : -8 - dj + 8 ≤ 9223372036854775807 := by omega
                have v6 : -9223372036854775808 ≤ -8 - dj := by omega
                have hstp : hi' - j = (hi' - (j + 1)) + 1 := by omega
                have HA' : Hid (accFrom p.kd lo (hi' - lo) dd = ys ++ accFrom p.kd j (hi' - (j + 1) + 1) dj ∧ accNum p.kd lo (hi' - lo) = m + accNum p.kd j (hi' - (j + 1) + 1)) := by rw [← hstp]; exact HA
                clear HA hstp
                by_cases h1 : p.kd j = 1
                · rw [h1] at ek
                  go_wp2_with (at_builtin; refine wpList_append_lies _ rfl _ _ 55 rfl base 60 i0 _ 7 48 Yba.underlying55 hi0 hz0 hz1 hz2 rfl (by omega) (.slice vp3 L3 cp3) L3 (accTo p s.seen s.delta xs0 k ++ ys) rfl (HRj.out.own.alloc _) ⟨wr.heap.size, 0, none⟩ 1 1 [.int .u32 (3 * (j : Int)), .int .u8 2, .int .u8 0, .int .i64 (-8 - (dj + 8)), .int .i64 (-8 - (dj + 8) + 8), .int .i64 0, .bool true] rfl rfl (World.news_of_block (heap_alloc_new _ _)) (by simp [Value.oneCell']) (by omega) (by simp [maxLen]; omega) (by omega) (by simp; omega) _ rfl ?_; intro g' cp' w1 hown' hgrow' hat' hlt')
                  refine ⟨⟨j + 1, m + 1, dj + 8, ys ++ accCells ((3 * j : Nat) : Int) 2 (-8 - (dj + 8)) (-8 - (dj + 8) + 8) true, by simp, rfl, by omega, by omega, by omega, by omega, by omega, ?_, ?_⟩, by simp [intOf]; omega⟩
                  · have hf := HA'.out
                    rw [accFrom_succ, accNum_succ] at hf
                    rw [if_pos h1, if_pos h1] at hf
                    refine ⟨?_, ?_⟩
                    · rw [hf.1, List.append_assoc]
                    · rw [hf.2]; omega
                  · have ho : w1.ownsRow base 60 7 (.slice (some ⟨g', 0, none⟩) (L3 + 1) cp') (c + (m + 1)) (accTo p s.seen s.delta xs0 k ++ (ys ++ accCells ((3 * j : Nat) : Int) 2 (-8 - (dj + 8)) (-8 - (dj + 8) + 8) true)) := by
                      have e1 : c + (m + 1) = L3 + 1 := by rw [HL3.out]; omega
                      have e2 : accCells ((3 * j : Nat) : Int) 2 (-8 - (dj + 8)) (-8 - (dj + 8) + 8) true = [.int .u32 (3 * (j : Int)), .int .u8 2, .int .u8 0, .int .i64 (-8 - (dj + 8)), .int .i64 (-8 - (dj + 8) + 8), .int .i64 0, .bool true] := by simp [accCells]
                      rw [e1, e2, ← List.append_assoc]
                      exact hown'
                    exact HRj.out.app (gb_trans (gb_alloc _ _ _) hgrow') ho
                · by_cases h2 : p.kd j = 2
                  · rw [h2] at ek
                    go_wp2_with (at_builtin; refine wpList_append_lies _ rfl _ _ 55 rfl base 60 i0 _ 7 48 Yba.underlying55 hi0 hz0 hz1 hz2 rfl (by omega) (.slice vp3 L3 cp3) L3 (accTo p s.seen s.delta xs0 k ++ ys) rfl (HRj.out.own.alloc _) ⟨wr.heap.size, 0, none⟩ 1 1 [.int .u32 (3 * (j : Int)), .int .u8 1, .int .u8 0, .int .i64 (-8 - dj), .int .i64 (-8 - dj + 8), .int .i64 0, .bool false] rfl rfl (World.news_of_block (heap_alloc_new _ _)) (by simp [Value.oneCell']) (by omega) (by simp [maxLen]; omega) (by omega) (by simp; omega) _ rfl ?_; intro g' cp' w1 hown' hgrow' hat' hlt')
                    refine ⟨⟨j + 1, m + 1, dj - 8, ys ++ accCells ((3 * j : Nat) : Int) 1 (-8 - dj) (-8 - dj + 8) false, by simp, rfl, by omega, by omega, by omega, by omega, by omega, ?_, ?_⟩, by simp [intOf]; omega⟩
                    · have hf := HA'.out
                      rw [accFrom_succ, accNum_succ] at hf
                      rw [if_neg h1, if_pos h2, if_neg h1, if_pos h2] at hf
                      refine ⟨?_, ?_⟩
                      · rw [hf.1, List.append_assoc]
                      · rw [hf.2]; omega
                    · have ho : w1.ownsRow base 60 7 (.slice (some ⟨g', 0, none⟩) (L3 + 1) cp') (c + (m + 1)) (accTo p s.seen s.delta xs0 k ++ (ys ++ accCells ((3 * j : Nat) : Int) 1 (-8 - dj) (-8 - dj + 8) false)) := by
                        have e1 : c + (m + 1) = L3 + 1 := by rw [HL3.out]; omega
                        have e2 : accCells ((3 * j : Nat) : Int) 1 (-8 - dj) (-8 - dj + 8) false = [.int .u32 (3 * (j : Int)), .int .u8 1, .int .u8 0, .int .i64 (-8 - dj), .int .i64 (-8 - dj + 8), .int .i64 0, .bool false] := by simp [accCells]
                        rw [e1, e2, ← List.append_assoc]
                        exact hown'
                      exact HRj.out.app (gb_trans (gb_alloc _ _ _) hgrow') ho
                  · by_cases h3 : p.kd j = 3
                    · rw [h3] at ek
                      go_wp2_with fail
                      go_meet
                      case rel =>
                        have hf := HA'.out
                        rw [accFrom_succ, accNum_succ] at hf
                        rw [if_neg h1, if_neg h2, if_pos h3, if_neg h1, if_neg h2, if_pos h3, List.append_nil, Nat.add_zero] at hf
                        obtain ⟨f1, f2⟩ := HFIN.out _ _ hf.1 hf.2
                        rw [f1, f2, ← HL3.out]
                        exact HRj
                    · have g1 : (((p.kd j : Nat) : Int) == 1) = false := beq_eq_false_iff_ne.2 (by omega)
                      have g2 : (((p.kd j : Nat) : Int) == 2) = false := beq_eq_false_iff_ne.2 (by omega)
                      have g3 : (((p.kd j : Nat) : Int) != 3) = true := bne_iff_ne.2 (by omega)
                      have g4 : (((p.kd j : Nat) : Int) == 3) = false := beq_eq_false_iff_ne.2 (by omega)
                      go_wp2_with fail
                      refine ⟨⟨j + 1, m, dj, ys, by simp, rfl, by omega, by omega, by omega, by omega, by omega, ?_, by rw [← HL3.out]; exact HRj⟩, by simp [intOf]; omega⟩
                      have hf := HA'.out
                      rw [accFrom_succ, accNum_succ] at hf
                      rw [if_neg h1, if_neg h2, if_neg h3, if_neg h1, if_neg h2, if_neg h3] at hf
                      exact hf
              · obtain rfl : j = hi' := by omega
                have hjn : ¬ (j : Int) < (j : Int) := by omega
                go_wp2_with fail
                go_meet
                case rel =>
                  have hf := HA.out
                  rw [show j - j = 0 by omega] at hf
                  simp only [accFrom, accNum, List.append_nil, Nat.add_zero] at hf
                  obtain ⟨f1, f2⟩ := HFIN.out _ _ hf.1 hf.2
                  rw [f1, f2, ← HL3.out]
                  exact HRj
        case rest =>
          have HR2 : Hid (Q9 wI base F43 L44 nb (fF9 p s.seen true fi n0 (k + 1)) (fL9 p s.seen true la n0 k) (cntTo p s.seen n0 (k + 1)) (accTo p s.seen s.delta xs0 (k + 1)) u41 wc) := hcut
          clear hcut HR1 c32 c33 c0 c1
          have hc2 := HC.out (k + 1) (by omega)
          have hs2 := HM.out.2.1 (k + 1) (by omega)
          obtain ⟨c', hc'⟩ : ∃ c', c' = cntTo p s.seen n0 (k + 1) := ⟨_, rfl⟩
          rw [← hc'] at HR2 hc2
          have HCC' : Hid (c' = cntTo p s.seen n0 (k + 1)) := hc'
          clear hc'
          obtain ⟨vp4, cp4, rfl⟩ := own60_form HR2.out.own
          have eL := HR2.out.rL.cell hlt
          have gL := HR2.out.rL.frozen k
          have i3 : (c' : Int) ≤ 2147483647 := by omega
          have i4 : -2147483648 ≤ (c' : Int) := by omega
          go_wp2_with fail
          refine ⟨⟨k + 1, by simp, by omega, ?_⟩, by simp [intOf]; omega⟩
          show Q9 _ _ _ _ _ _ _ (cntTo p s.seen n0 (k + 1)) _ _ _
          rw [← HCC'.out]
          refine (HR2.out.setL k (.int .i32 (c' : Int))).congr (fun _ _ => rfl) (fun i _ => ?_)
          have := fL9_next p s.seen true la n0 k i
          rw [← HCC'.out] at this
          exact this
    · obtain rfl : k = nb := by omega
      have hkn : ¬ (k : Int) < (k : Int) := by omega
      go_wp2_with fail
      exact HX.out _ _ _ _ _ _ _ _ _ _ _ _ _ _ _ _ _ _ _ _ _ _ _ _ _ _ _ _ _ _ _ _ _ _ _ _ _ _ _ _ _ _ _ _ _ _ _ _ _ _ _ _ _ _ _ _ _ _ _ _ _ _ _ _ _ _ _ _ _ _ _ _ _ _ _ _ _ _ _ _ _ _ _ _ _ _ _ _ _ _ _ _ _ _ _ _ _ _ _ _ _ _ _ _ _ _ _ _ _ wr hr.out

end Go.Proofs.Ybulkfqak
