import Derived.Test.YbulkfqakMFour
import Derived.Test.YbulkfqakLSix
namespace Go.Proofs.Ybulkfqak
open Go.RowKit Go.Shelf

/-- what lies when 'follow' is over -/
structure Pre6 (nb : Nat) (h0 : 0 < nb) (D : BD) (kd : Nat → Nat) (q mq : Nat → Option Addr) (sv : Nat → Value) (b o N S13 K16 N20 M21 S22 C K A29 base np : Nat) (s : St) (ok : Bool) (v : Value) (W : World) : Prop where
  hn : nb ≤ 65536
  hN : N ≤ 65536
  hlN : sumTo D.l nb = N
  hnp : np ≤ 7
  hjn : ∀ i, i < nb → D.jn i ≤ 1048576
  hcnt : ∀ i, i ≤ nb → cntTo (prg nb h0 D kd) s.seen np i ≤ np + (prg nb h0 D kd).st i
  hdone : Done (prg nb h0 D kd) s00 s ok
  hB : BAt W b o nb D
  rS : W.rowIs S13 3 (nb + 1) (fun i => .int .i64 ((sumTo D.l i : Nat) : Int))
  rKd : W.rowIs K16 3 N (fun i => .int .i64 ((kd i : Nat) : Int))
  rN : W.rowIs N20 21 nb (fun i => .int .i32 (nextInt ((prg nb h0 D kd).nxo i)))
  rM : W.rowIs M21 48 nb (fun i => .slice (mq i) (D.jn i) (D.jn i))
  r22 : W.rowIs S22 48 nb sv
  sr : ∀ i, i < nb → W.ownsRow 0 21 1 (sv i) ((prg nb h0 D kd).succ i).length (encBs ((prg nb h0 D kd).succ i))
  c0 : W.cell? ⟨C, 0, none⟩ = some (.pointer (some ⟨A29, 0, none⟩))
  c1 : W.cell? ⟨C, 1, none⟩ = some (.slice none 0 0)
  c2 : W.cell? ⟨C, 2, none⟩ = some (.slice (some ⟨K, 0, none⟩) nb nb)
  c4 : W.cell? ⟨C, 4, none⟩ = some (.slice none 0 0)
  rK : W.rowIs K 54 (nb * 11) (blkF (prg nb h0 D kd) q (if ok = true then fiTo (prg nb h0 D kd) s.seen np D.fi nb else D.fi) (if ok = true then laTo (prg nb h0 D kd) s.seen np D.la nb else D.la) s.seen)
  c3 : W.cell? ⟨C, 3, none⟩ = some v
  own : W.ownsRow base 60 7 v (if ok = true then cntTo (prg nb h0 D kd) s.seen np nb else np) (if ok = true then accTo (prg nb h0 D kd) s.seen s.delta (preL np) nb else preL np)
  je : ∀ i, i < nb → ∃ f, JRow W 0 (q i) (D.jn i) f ∧ JRow W 0 (mq i) (D.jn i) f
theorem sum_step {D : BD} (i : Nat) (h : ∀ i, D.l i < 256) : sumTo D.l (i + 1) - sumTo D.l i ≤ 65536 := by
  show sumTo D.l i + D.l i - sumTo D.l i ≤ 65536
  have := h i
  omega
theorem js_len (nb : Nat) (h0 : 0 < nb) (D : BD) (kd : Nat → Nat) (i : Nat) : ((prg nb h0 D kd).js i).length = D.jn i := by simp [prg]
theorem Pre6.fin {nb : Nat} {h0 : 0 < nb} {D : BD} {kd : Nat → Nat} {q mq : Nat → Option Addr} {sv : Nat → Value} {b o N S13 K16 N20 M21 S22 C K A29 base np : Nat} {s : St} {ok : Bool} {v : Value} {W W' : World} {S32 D33 : Nat}
    (h : Pre6 nb h0 D kd q mq sv b o N S13 K16 N20 M21 S22 C K A29 base np s ok v W) (k : Below W.heap.size W W') (r32 : W'.rowIs S32 4 nb (fun i => .bool (s.seen i))) (r33 : W'.rowIs D33 2 nb (fun i => .int .i64 (s.delta i))) :
    Fin4 nb (prg nb h0 D kd) q mq D b o N S13 K16 N20 M21 S32 D33 C K A29 base np s ok v W' := by
  refine ⟨h.hn, h0, h.hN, h.hnp, fun i hi => ?_, fun i _ => ?_, fun i hi => ?_, fun _ => rfl, h.hcnt, fun i hi hs => h.hdone.bnd h.hn h0 (fun i _ => sum_step i h.hB.lt) i hi hs, h.hB.below (Nat.le_refl _) k, row_bel h.rS k, row_bel h.rKd k, row_bel h.rN k, (row_bel h.rM k).congr fun i _ => ?_, r32, r33, cell_bel h.c0 k, cell_bel h.c1 k, cell_bel h.c2 k, cell_bel h.c4 k, row_bel h.rK k, cell_bel h.c3 k, own60_bel h.own k, fun i hi => ?_⟩
  · rw [← h.hlN]
    have := sumTo_mono D.l i (nb - i)
    rw [show i + (nb - i) = nb by omega] at this
    exact this
  · exact sumTo_mono D.l i 1
  · rw [js_len]; exact h.hjn i hi
  · rw [js_len]
  · rw [js_len]
    obtain ⟨f, h1, h2⟩ := h.je i hi
    exact ⟨f, jrow_bel h1 k, jrow_bel h2 k⟩
set_option maxRecDepth 1000000 in
set_option maxHeartbeats 4000000 in
theorem st57 (c0 c1 c2 c3 c4 c5 c6 c7 c8 c9 c10 c14 c15 c17 c18 c19 c23 c24 c25 c27 c28 c32 c33 c34 c35 c36 c37 c38 c39 c40 c41 c42 c43 c44 c45 c46 c47 c48 c49 c50 c51 c52 c53 c54 c55 c56 c57 c58 c59 c60 c61 c62 c63 c64 c65 c66 c67 c68 c69 c70 c71 c72 c73 c74 c75 c76 c77 c78 c79 c80 c81 c82 c83 c84 c85 c86 c87 c88 c89 c90 c91 c92 c93 c94 c95 c96 c97 c98 c99 c100 c101 c102 c103 c104 c105 c106 c107 c108 c109 c110 c111 c112 c113 c114 c115 c116 c117 c118 c119 c120 c121 c122 c123 c124 c125 c126 c127 c128 c129 c130 c131 c132 c133 c134 c135 c136 c137 c138 c139 c140 c141 c142 c143 c144 c145 c146 c147 c148 c149 c150 c151 c152 c153 c154 c155 c156 c157 c158 c159 c160 c161 c162 c163 c164 c165 c166 c167 c168 c169 c170 c171 c172 c173 c174 c175 c176 c177 c178 c179 c180 c181 c182 c183 c184 c185 c186 c187 c188 c189 c190 c191 c192 c193 c194 c195 c196 c197 c198 c199 c200 c201 c202 c203 c204 c205 c206 c207 c208 c209 c210 c211 c212 c213 c214 c215 c216 c217 c218 c219 c220 c221 c222 c223 c224 c225 c226 c227 c228 c229 c230 c231 c232 c233 c234 c235 c236 c237 c238 c239 c240 c241 c242 c243 c244 c245 c246 c247 c248 c249 c250 c251 c252 c253 c254 c255 c256 c257 c258 c259 c260 c261 c262 c263 c264 c265 c266 c267 c268 c269 c270 c271 c272 c273 c274 c275 c276 c277 c278 c279 c280 c281 c282 c283 c284 c285 c286 c287 c288 c289 c290 c291 c292 c293 c294 c295 c296 c297 c298 c299 c300 c301 c302 c303 c304 c305 c306 c307 c308 c309 c310 c311 c312 c313 c314 c315 c316 c317 c318 c319 c320 c321 c322 c323 c324 c325 c326 c327 c328 c329 c330 c331 c332 c333 c334 c335 c336 c337 c338 c339 c340 c341 c342 c343 c344 c345 c346 c347 c348 c349 c350 c351 c352 c353 c354 c355 c356 c357 c358 c359 c360 c361 c362 c363 c364 c365 c366 c367 c368 c369 c370 c371 c372 c373 c374 c375 c376 c377 c378 c379 c380 c381 c382 c383 c384 c385 c386 c387 c388 c389 c390 c391 c392 c393 c394 c395 c396 c397 c398 c399 c400 c401 c402 c403 c404 c405 c406 c407 c408 c409 c410 c411 c412 c413 c414 c415 c416 c417 c418 c419 c420 c421 c422 c423 c424 c425 c426 c427 c428 c429 c430 c431 c432 c433 c434 c435 c436 c437 c438 c439 c440 c441 c442 c443 c444 c445 c446 c447 c448 c449 c450 c451 c452 c453 c454 c455 c456 c457 c458 c459 c460 c461 c462 c463 c464 c465 c466 c467 c468 c469 c470 c471 c472 c473 c474 c475 c476 c477 c478 c479 c480 c481 c482 c483 c484 c485 c486 c487 c488 c489 c490 c491 c492 c493 c494 c495 c496 c497 c498 c499 c500 c501 c502 c503 c504 c505 c506 c507 c508 c509 c510 c511 c512 c513 c514 c515 c516 c517 c518 c519 c520 c521 c522 c523 c524 c525 c526 c527 c528 c529 c530 c531 c532 c533 c534 c535 c536 c537 c538 c539 c540 c541 c542 c543 c544 c545 c546 c547 c548 c549 c550 c551 c552 c553 c554 c555 c556 c557 c558 c559 c560 c561 c562 c563 c564 c565 c566 c567 c568 c569 c570 c571 c572 c573 c574 c575 c576 c577 c578 c579 c580 c581 c582 c583 c584 c585 c586 c587 c588 c589 c590 c591 c592 c593 c594 c595 c596 c597 c598 c599 c600 c601 c602 c603 c604 c605 c606 c607 c608 c609 c610 c611 c612 c613 c614 c615 c616 c617 c618 c619 c620 c621 c622 c623 c624 c625 c626 c627 c628 c629 c630 c631 c632 c633 c634 c635 c636 c637 c638 c639 c640 c641 c642 c643 c644 c645 c646 c647 c648 c649 c650 c651 c652 c653 c654 c655 c656 c657 c658 c659 c660 c661 c662 c663 c664 : Value) (nb : Nat) (h0 : 0 < nb) (D : BD) (kd : Nat → Nat) (q mq : Nat → Option Addr) (sv : Nat → Value) (b o cap N S13 K16 N20 M21 S22 C K A29 base np : Nat) (s : St) (ok : Bool) (v : Value) (w : World) (h : Pre6 nb h0 D kd q mq sv b o N S13 K16 N20 M21 S22 C K A29 base np s ok v w) (w0 : World) (Q : Exit → Act → World → Prop) (hret : ∀ (a : Act) (W : World), a.tmps[6]? = some (.bool true) → a.defers = [] → Below w0.heap.size w0 W → Q .ret a W) (hbel : Below w0.heap.size w0 w) :
    Code.wp Yba.prog (tl4 57) Q ⟨#[c0, c1, c2, c3, c4, c5, c6, c7, c8, c9, c10, .slice (some ⟨b, o, none⟩) nb cap, .int .i64 ((nb : Nat) : Int), .slice (some ⟨S13, 0, none⟩) (nb + 1) (nb + 1), c14, c15, .slice (some ⟨K16, 0, none⟩) N N, c17, c18, c19, .slice (some ⟨N20, 0, none⟩) nb nb, .slice (some ⟨M21, 0, none⟩) nb nb, .slice (some ⟨S22, 0, none⟩) nb nb, c23, c24, c25, .int .i64 ((np : Nat) : Int), c27, c28, .pointer (some ⟨A29, 0, none⟩), .pointer (some ⟨C, 0, none⟩), .bool ok, c32, c33, c34, c35, c36, c37, c38, c39, c40, c41, c42, c43, c44, c45, c46, c47, c48, c49, c50, c51, c52, c53, c54, c55, c56, c57, c58, c59, c60, c61, c62, c63, c64, c65, c66, c67, c68, c69, c70, c71, c72, c73, c74, c75, c76, c77, c78, c79, c80, c81, c82, c83, c84, c85, c86, c87, c88, c89, c90, c91, c92, c93, c94, c95, c96, c97, c98, c99, c100, c101, c102, c103, c104, c105, c106, c107, c108, c109, c110, c111, c112, c113, c114, c115, c116, c117, c118, c119, c120, c121, c122, c123, c124, c125, c126, c127, c128, c129, c130, c131, c132, c133, c134, c135, c136, c137, c138, c139, c140, c141, c142, c143, c144, c145, c146, c147, c148, c149, c150, c151, c152, c153, c154, c155, c156, c157, c158, c159, c160, c161, c162, c163, c164, c165, c166, c167, c168, c169, c170, c171, c172, c173, c174, c175, c176, c177, c178, c179, c180, c181, c182, c183, c184, c185, c186, c187, c188, c189, c190, c191, c192, c193, c194, c195, c196, c197, c198, c199, c200, c201, c202, c203, c204, c205, c206, c207, c208, c209, c210, c211, c212, c213, c214, c215, c216, c217, c218, c219, c220, c221, c222, c223, c224, c225, c226, c227, c228, c229, c230, c231, c232, c233, c234, c235, c236, c237, c238, c239, c240, c241, c242, c243, c244, c245, c246, c247, c248, c249, c250, c251, c252, c253, c254, c255, c256, c257, c258, c259, c260, c261, c262, c263, c264, c265, c266, c267, c268, c269, c270, c271, c272, c273, c274, c275, c276, c277, c278, c279, c280, c281, c282, c283, c284, c285, c286, c287, c288, c289, c290, c291, c292, c293, c294, c295, c296, c297, c298, c299, c300, c301, c302, c303, c304, c305, c306, c307, c308, c309, c310, c311, c312, c313, c314, c315, c316, c317, c318, c319, c320, c321, c322, c323, c324, c325, c326, c327, c328, c329, c330, c331, c332, c333, c334, c335, c336, c337, c338, c339, c340, c341, c342, c343, c344, c345, c346, c347, c348, c349, c350, c351, c352, c353, c354, c355, c356, c357, c358, c359, c360, c361, c362, c363, c364, c365, c366, c367, c368, c369, c370, c371, c372, c373, c374, c375, c376, c377, c378, c379, c380, c381, c382, c383, c384, c385, c386, c387, c388, c389, c390, c391, c392, c393, c394, c395, c396, c397, c398, c399, c400, c401, c402, c403, c404, c405, c406, c407, c408, c409, c410, c411, c412, c413, c414, c415, c416, c417, c418, c419, c420, c421, c422, c423, c424, c425, c426, c427, c428, c429, c430, c431, c432, c433, c434, c435, c436, c437, c438, c439, c440, c441, c442, c443, c444, c445, c446, c447, c448, c449, c450, c451, c452, c453, c454, c455, c456, c457, c458, c459, c460, c461, c462, c463, c464, c465, c466, c467, c468, c469, c470, c471, c472, c473, c474, c475, c476, c477, c478, c479, c480, c481, c482, c483, c484, c485, c486, c487, c488, c489, c490, c491, c492, c493, c494, c495, c496, c497, c498, c499, c500, c501, c502, c503, c504, c505, c506, c507, c508, c509, c510, c511, c512, c513, c514, c515, c516, c517, c518, c519, c520, c521, c522, c523, c524, c525, c526, c527, c528, c529, c530, c531, c532, c533, c534, c535, c536, c537, c538, c539, c540, c541, c542, c543, c544, c545, c546, c547, c548, c549, c550, c551, c552, c553, c554, c555, c556, c557, c558, c559, c560, c561, c562, c563, c564, c565, c566, c567, c568, c569, c570, c571, c572, c573, c574, c575, c576, c577, c578, c579, c580, c581, c582, c583, c584, c585, c586, c587, c588, c589, c590, c591, c592, c593, c594, c595, c596, c597, c598, c599, c600, c601, c602, c603, c604, c605, c606, c607, c608, c609, c610, c611, c612, c613, c614, c615, c616, c617, c618, c619, c620, c621, c622, c623, c624, c625, c626, c627, c628, c629, c630, c631, c632, c633, c634, c635, c636, c637, c638, c639, c640, c641, c642, c643, c644, c645, c646, c647, c648, c649, c650, c651, c652, c653, c654, c655, c656, c657, c658, c659, c660, c661, c662, c663, c664], []⟩ w := by
  conv => arg 2; whnf
  have hn := h.hn
  have hmk : ∀ w, (Instr.makeSlice 72 (.int .i64 (nb : Int)) (.int .i64 (nb : Int))).run Yba.prog w = .ok (.slice (some ⟨w.heap.size, 0, none⟩) nb nb) (w.alloc (.cells (madeCells #[.bool false] nb) 4)) := make72 nb (by omega)
  have hmk2 : ∀ w, (Instr.makeSlice 73 (.int .i64 (nb : Int)) (.int .i64 (nb : Int))).run Yba.prog w = .ok (.slice (some ⟨w.heap.size, 0, none⟩) nb nb) (w.alloc (.cells (madeCells #[.int .i64 0] nb) 2)) := make73 nb (by omega)
  have HR : Hid (∀ (a : Act) (W : World), a.tmps[6]? = some (.bool true) → a.defers = [] → Below w0.heap.size w0 W → Q .ret a W) := hret
  have HB : Hid (Below w0.heap.size w0 w) := hbel
  have HF : Hid (Pre6 nb h0 D kd q mq sv b o N S13 K16 N20 M21 S22 C K A29 base np s ok v w) := h
  clear hret hbel h
  go_upto_region 59 with fail
  clear hmk hmk2
  obtain ⟨w1, S32, D33, hw1, hS32, hD33, H1⟩ : ∃ w1 S32 D33, w1 = (w.alloc (.cells (madeCells #[.bool false] nb) 4)).alloc (.cells (madeCells #[.int .i64 0] nb) 2) ∧ S32 = w.heap.size ∧ D33 = w.heap.size + 1 ∧
      Hid (Below w.heap.size w w1 ∧ w1.rowIs S32 4 nb (fun _ => .bool false) ∧ w1.rowIs D33 2 nb (fun _ => .int .i64 0) ∧ w.heap.size ≤ S32 ∧ w.heap.size ≤ D33 ∧ S32 < w1.heap.size ∧ D33 < w1.heap.size) := by
    refine ⟨_, _, _, rfl, rfl, rfl, ?_⟩
    have r1 := (World.rowIs_made w (.bool false) nb 4)
    have r2 := (World.rowIs_made (w.alloc (.cells (madeCells #[.bool false] nb) 4)) (.int .i64 0) nb 2)
    have e : (w.alloc (.cells (madeCells #[.bool false] nb) 4)).heap.size = w.heap.size + 1 := by simp
    rw [e] at r2
    exact ⟨(Below.new w _).alloc (by simp) _, r1.alloc _, r2, Nat.le_refl _, by omega, by simp; omega, by simp⟩
  try simp only [World.alloc_size]
  rw [← hw1, ← hD33, ← hS32]
  clear hw1 hD33 hS32
  have c0 := H1.out.2.1.cell (i := 0) h0
  have f0 := H1.out.2.1.frozen 0
  have hnb0 : (0 : Int) < (nb : Int) := by omega
  go_upto_region 62 with fail
  clear c0 f0
  refine Code.wp_mono NoPanic.imp ?_
  refine law6 _ _ _ _ _ _ _ _ _ _ _ _ _ _ _ _ _ _ _ _ _ _ _ _ _ _ _ _ _ _ _ _ _ _ _ _ _ _ _ _ _ _ _ _ _ _ _ _ _ _ _ _ _ _ _ _ _ _ _ _ _ _ _ _ _ _ _ _ _ _ _ _ _ _ _ _ _ _ _ _ _ _ _ _ _ _ _ _ _ _ _ _ _ _ _ _ _ _ _ _ _ _ _ _ _ _ _ _ _ _ _ _ _ _ _ _ _ _ _ _ _ _ _ _ _ _ _ _ _ _ _ _ _ _ _ _ _ _ _ _ _ _ _ _ _ _ _ _ _ _ _ _ _ _ _ _ _ _ _ _ _ _ _ _ _ _ _ _ _ _ _ _ _ _ _ _ _ _ _ _ _ _ _ _ _ _ _ _ _ _ _ _ _ _ _ _ _ _ _ _ _ _ _ _ _ _ _ _ _ _ _ _ _ _ _ _ _ _ _ _ _ _ _ _ _ _ _ _ _ _ _ _ _ _ _ _ _ _ _ _ _ _ _ _ _ _ _ _ _ _ _ _ _ _ _ _ _ _ _ _ _ _ _ _ _ _ _ _ _ _ _ _ _ _ _ _ _ _ _ _ _ _ _ _ _ _ _ _ _ _ _ _ _ _ _ _ _ _ _ _ _ _ _ _ _ _ _ _ _ _ _ _ _ _ _ _ _ _ _ _ _ _ _ _ _ _ _ _ _ _ _ _ _ _ _ _ _ _ _ _ _ _ _ _ _ _ _ _ _ _ _ _ _ _ _ _ _ _ _ _ _ _ _ _ _ _ _ _ _ _ _ _ _ _ _ _ _ _ _ _ _ _ _ _ _ _ _ _ _ _ _ _ _ _ _ _ _ _ _ _ _ _ _ _ _ _ _ _ _ _ _ _ _ _ _ _ _ _ _ _ _ _ _ _ _ _ _ _ _ _ _ _ _ _ _ _ _ _ _ _ _ _ _ _ _ _ _ _ _ _ _ _ _ _ _ _ _ _ _ _ _ _ _ _ _ _ _ _ _ _ _ _ _ _ _ _ _ _ _ _ _ _ _ _ _ _ _ _ _ _ _ _ _ _ _ _ _ _ _ _ _ _ _ _ _ _ _ _ _ _ _ _ _ _ _ _ _ _ _ _ _ _ _ _ _ _ _ _ _ _ _ _ _ _ _ _ _ _ _ _ _ _ _ _ _ _ _ _ _ _ _ _ _ _ _ _ _ _ _ _ _ _ _ _ _ _ _ _ _ _ _ _ _ _ _ _ _ _ _ _ _ _ _ _ _ _ _ _ _ _ _ _ _ _ _ _ _ _ _ _ _ _ _ _ _ _ _ _ _ _ _ _ _ _ _ _ _ _ _ _ _ _ _ _ _ _ _ _ _ _ _ _ _ _ _ _ _ _ _ _ _ _ _ _ _ _ _ _ _ _ _ _ _ _ _ _ _ b o nb cap S13 N K16 S22 S32 D33 0 h0 D kd sv _ w1.heap.size w _ hn HF.out.hN HF.out.hB HF.out.rS HF.out.hlN HF.out.rKd HF.out.hjn HF.out.r22 HF.out.sr ?_ _ ?_
  · obtain ⟨a1, a2, a3, a4, a5, a6, a7⟩ := H1.out
    have hne : S32 ≠ D33 := row_ne a2 a3 (by decide)
    refine ⟨(a1.setCell (p := ⟨S32, 0, none⟩) a4 _).alloc (by simpa using a1.size) _, ?_, ?_, ?_, a4, a6, a5, a7, by simp⟩
    · refine ((a2.set 0 (.bool true)).alloc _).congr fun i _ => ?_
      by_cases e : i = 0 <;> simp [s00, upd, e]
    · exact ((a3.setOther (a := ⟨S32, 0, none⟩) (fun e => hne e.symm) _).alloc _).congr fun i _ => by simp [s00]
    · refine ⟨by simp [s00, encS], Or.inr ⟨w1.heap.size, 1, #[.int .i32 0], by simp [s00], Nat.le_refl _, ?_, by simp [s00], by simp [maxLen], by simp, by simp [s00, encS]⟩⟩
      exact alloc_at _ _ _ (by simp)
  · intro v34 v36 v37 v38 v40 v289 v290 v291 v292 v293 v294 v295 v296 v297 v298 v299 v300 v301 v302 v303 v304 v305 v306 v307 v308 v309 v310 v311 v312 v313 v314 v315 v316 v317 v318 v319 v320 v321 v322 v323 v324 v325 v326 v327 v328 v329 v330 v331 v332 v333 v334 v335 v336 v337 v338 v339 v340 v341 v342 v343 v344 v345 v346 v347 v348 v349 v350 v351 v352 v353 v354 v355 v356 v357 v358 v359 v360 v361 v362 s' ok' W' hb r1 r2 hd
    dsimp only
    obtain ⟨e1, e2⟩ := HF.out.hdone.det hd
    subst e1
    subst e2
    go_step
    go_step
    exact st80 _ _ _ _ _ _ _ _ _ _ _ _ _ _ _ _ _ _ _ _ _ _ _ _ _ _ _ _ _ _ _ _ _ _ _ _ _ _ _ _ _ _ _ _ _ _ _ _ _ _ _ _ _ _ _ _ _ _ _ _ _ _ _ _ _ _ _ _ _ _ _ _ _ _ _ _ _ _ _ _ _ _ _ _ _ _ _ _ _ _ _ _ _ _ _ _ _ _ _ _ _ _ _ _ _ _ _ _ _ _ _ _ _ _ _ _ _ _ _ _ _ _ _ _ _ _ _ _ _ _ _ _ _ _ _ _ _ _ _ _ _ _ _ _ _ _ _ _ _ _ _ _ _ _ _ _ _ _ _ _ _ _ _ _ _ _ _ _ _ _ _ _ _ _ _ _ _ _ _ _ _ _ _ _ _ _ _ _ _ _ _ _ _ _ _ _ _ _ _ _ _ _ _ _ _ _ _ _ _ _ _ _ _ _ _ _ _ _ _ _ _ _ _ _ _ _ _ _ _ _ _ _ _ _ _ _ _ _ _ _ _ _ _ _ _ _ _ _ _ _ _ _ _ _ _ _ _ _ _ _ _ _ _ _ _ _ _ _ _ _ _ _ _ _ _ _ _ _ _ _ _ _ _ _ _ _ _ _ _ _ _ _ _ _ _ _ _ _ _ _ _ _ _ _ _ _ _ _ _ _ _ _ _ _ _ _ _ _ _ _ _ _ _ _ _ _ _ _ _ _ _ _ _ _ _ _ _ _ _ _ _ _ _ _ _ _ _ _ _ _ _ _ _ _ _ _ _ _ _ _ _ _ _ _ _ _ _ _ _ _ _ _ _ _ _ _ _ _ _ _ _ _ _ _ _ _ _ _ _ _ _ _ _ _ _ _ _ _ _ _ _ _ _ _ _ _ _ _ _ _ _ _ _ _ _ _ _ _ _ _ _ _ _ _ _ _ _ _ _ _ _ _ _ _ _ _ _ _ _ _ _ _ _ _ _ _ _ _ _ _ _ _ _ _ _ _ _ _ _ _ _ _ _ _ _ _ _ _ _ _ _ _ _ _ _ _ _ _ _ _ _ _ _ _ _ _ _ _ _ _ _ _ _ _ _ _ _ _ _ _ _ _ _ _ _ _ _ _ _ _ _ _ _ _ _ _ _ _ _ _ _ _ _ _ _ _ _ _ _ _ _ _ _ _ _ _ _ _ _ _ _ _ _ _ _ _ _ _ _ _ _ _ _ _ _ _ _ _ _ _ _ _ _ _ _ _ _ _ _ _ _ _ _ _ _ _ _ _ _ _ _ _ _ _ _ _ _ _ _ _ _ _ _ _ _ _ _ _ _ _ _ _ _ _ _ _ _ _ _ _ _ _ _ _ _ _ _ _ _ _ _ _ _ _ _ _ _ _ _ _ _ _ _ _ _ _ _ _ _ _ _ _ _ _ _ _ _ _ _ _ _ _ nb (prg nb h0 D kd) q mq D b o cap N S13 K16 N20 M21 S32 D33 C K A29 base np s ok v W' (HF.out.fin hb r1 r2) w0 Q HR.out (bel_on HB.out hb HB.out.size)

end Go.Proofs.Ybulkfqak
