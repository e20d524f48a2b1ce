import Derived.Test.YbulkfqakMFive
namespace Go.Proofs.Ybulkfqak
open Go.RowKit Go.Shelf

/-- what lies ahead of 'follow' -/
structure Pre5 (nb : Nat) (h0 : 0 < nb) (D : BD) (kd : Nat → Nat) (q mq : Nat → Option Addr) (sv : Nat → Value) (b o N S13 K16 I17 O18 N20 M21 S22 K23 A27 np : Nat) (wB W : World) : Prop where
  hn : nb ≤ 65536
  hN : N ≤ 65536
  hlN : sumTo D.l nb = N
  hnp : np ≤ 7
  hjn : ∀ i, i < nb → D.jn i ≤ 1048576
  kd4 : ∀ k, kd k < 4
  hB : BAt wB b o nb D
  bel : Below wB.heap.size wB W
  kK : wB.heap.size ≤ K23
  kA : wB.heap.size ≤ A27
  rS : W.rowIs S13 3 (nb + 1) (fun i => .int .i64 ((sumTo D.l i : Nat) : Int))
  rKd : W.rowIs K16 3 N (fun i => .int .i64 ((kd i : Nat) : Int))
  rI : InstRow W I17 N kd N
  rO : W.rowIs O18 40 N (fun k => .int .u32 ((3 * k : Nat) : Int))
  rN : W.rowIs N20 21 nb (fun i => .int .i32 (nextInt ((prg nb h0 D kd).nxo i)))
  rM : W.rowIs M21 48 nb (fun i => .slice (mq i) (D.jn i) (D.jn i))
  r22 : W.rowIs S22 48 nb sv
  sr : ∀ i, i < nb → W.ownsRow 0 21 1 (sv i) ((prg nb h0 D kd).succ i).length (encBs ((prg nb h0 D kd).succ i))
  rK : W.rowIs K23 54 (nb * 11) (blkF (prg nb h0 D kd) q D.fi D.la (fun _ => false))
  rA : W.rowIs A27 60 (np * 7) (preF np)
  jm : ∀ i, i < nb → JRow W 0 (mq i) (D.jn i) (fun j => D.gj i j % nb)
  jq : ∀ i, i < nb → JRow W 0 (q i) (D.jn i) (fun j => D.gj i j % nb)
theorem inst_at {W : World} {I N : Nat} {kd : Nat → Nat} (h : InstRow W I N kd N) : InstsAt W I N kd := fun k hk => by
  have hr := h.2 k hk
  exact ⟨hr 12 _ rfl, hr 13 _ rfl, hr 14 _ rfl, hr 15 _ rfl, hr 16 _ rfl, hr 24 _ rfl⟩
theorem Pre5.ent {nb : Nat} {h0 : 0 < nb} {D : BD} {kd : Nat → Nat} {q mq : Nat → Option Addr} {sv : Nat → Value} {b o N S13 K16 I17 O18 N20 M21 S22 K23 A27 np : Nat} {wB W W1 : World} {A C : Nat}
    (h : Pre5 nb h0 D kd q mq sv b o N S13 K16 I17 O18 N20 M21 S22 K23 A27 np wB W) (k : Below W.heap.size W W1) (rA : ∃ n f, W1.rowIs A 65 n f) (ar : ArchAt W1 A) (rC : W1.rowIs C 70 5 (codeF A K23 nb (.slice (some ⟨A27, 0, none⟩) np np))) :
    Ent { b3 := 0, b4 := 0, b5 := 0, b6 := 0, b7 := 0, b11 := 0, b12 := 0, C := C, I := I17, O := O18, A := A, K := K23, F := 0, ST := 0, N := N, base := 0 } (prg nb h0 D kd) q D.fi D.la (.slice (some ⟨A27, 0, none⟩) np np) np (preL np) W1 := by
  have rA1 := row_bel h.rA k
  refine ⟨?_, ?_, row_bel h.rO k, rA, ar, rC, row_bel h.rK k, fun i hi => ?_, ⟨?_, ?_, own_made rA1 (Nat.zero_le _) h.hnp, ?_, ?_⟩, rfl, fun i _ => sumTo_mono D.l i 1, h.hlN, h.hN, h.hn, h0, h.kd4, fun i hi => ?_, h.hnp⟩
  · obtain ⟨⟨c, h1, h2⟩, _⟩ := h.rI
    refine ⟨fun j => (c[j]?).getD undef, c, (k.block I17 h.rI.lt).trans h1, h2, fun i hi => ?_⟩
    have hi2 : i < c.size := by rw [h2]; exact hi
    simp [hi2]
  · exact inst_at (h.rI.keep (k.block I17 h.rI.lt))
  · rcases jrow_bel (h.jq i hi) k with ⟨h1, h2⟩ | ⟨g, h1, _, h3⟩
    · exact Or.inl ⟨h1, List.eq_nil_of_length_eq_zero (by rw [js_len]; exact h2)⟩
    · refine Or.inr ⟨g, h1, ⟨_, by rw [js_len]; exact h3⟩, fun j hj => ?_⟩
      rw [h3.cell (i := j) (by rw [js_len] at hj; exact hj)]
      simp [prg]
  · exact rC.cell (i := 3) (by omega)
  · exact rC.frozen 3
  · intro e
    injection e with e
    exact row_ne rC rA1 (by decide) e
  · have := rC.lt
    show max 0 (C + 1) ≤ W1.heap.size
    omega
  · rw [js_len]; exact h.hjn i hi
theorem Pre5.out {nb : Nat} {h0 : 0 < nb} {D : BD} {kd : Nat → Nat} {q mq : Nat → Option Addr} {sv : Nat → Value} {b o N S13 K16 I17 O18 N20 M21 S22 K23 A27 np : Nat} {wB W W1 W2 : World} {A C : Nat} {v : Value} {ok : Bool} {s : St}
    (h : Pre5 nb h0 D kd q mq sv b o N S13 K16 I17 O18 N20 M21 S22 K23 A27 np wB W) (k : Below W.heap.size W W1) (hC : W.heap.size ≤ C) (he : Ent { b3 := 0, b4 := 0, b5 := 0, b6 := 0, b7 := 0, b11 := 0, b12 := 0, C := C, I := I17, O := O18, A := A, K := K23, F := 0, ST := 0, N := N, base := 0 } (prg nb h0 D kd) q D.fi D.la (.slice (some ⟨A27, 0, none⟩) np np) np (preL np) W1) (hd : Done (prg nb h0 D kd) s00 s ok)
    (hf : FEnd { b3 := 0, b4 := 0, b5 := 0, b6 := 0, b7 := 0, b11 := 0, b12 := 0, C := C, I := I17, O := O18, A := A, K := K23, F := 0, ST := 0, N := N, base := 0 } (prg nb h0 D kd) q W1 (.slice (some ⟨A27, 0, none⟩) np np) s.seen (if ok = true then fiTo (prg nb h0 D kd) s.seen np D.fi nb else D.fi) (if ok = true then laTo (prg nb h0 D kd) s.seen np D.la nb else D.la) (if ok = true then cntTo (prg nb h0 D kd) s.seen np nb else np) (if ok = true then accTo (prg nb h0 D kd) s.seen s.delta (preL np) nb else preL np) v W2) :
    Pre6 nb h0 D kd q mq sv b o N S13 K16 N20 M21 S22 C K23 A 0 np s ok v W2 ∧ Below wB.heap.size wB W2 := by
  have keep : ∀ {r t n f}, W.rowIs r t n f → t ≠ 54 → t ≠ 60 → W2.heap[r]? = W.heap[r]? := fun {r t n f} hr h1 h2 => by
    have hlt := hr.lt
    refine (hf.blk r (Nat.lt_of_lt_of_le hlt k.size) ?_ ?_ ?_).trans (k.block r hlt)
    · show r ≠ C
      omega
    · exact row_ne hr h.rK h1
    · intro e
      injection e with e
      exact row_ne hr h.rA h2 e
  have row : ∀ {r t n f}, W.rowIs r t n f → t ≠ 54 → t ≠ 60 → W2.rowIs r t n f := fun hr h1 h2 => hr.of_block (keep hr h1 h2)
  have hb2 : Below wB.heap.size wB W2 := by
    refine ⟨(hf.os.trans k.os).trans h.bel.os, (hf.tape.trans k.tape).trans h.bel.tape, (hf.output.trans k.output).trans h.bel.output, Nat.le_trans h.bel.size (Nat.le_trans k.size hf.size), fun i hi => ?_⟩
    have h1 := h.bel.size
    have h2 := h.kK
    have h3 := h.kA
    refine ((hf.blk i (Nat.lt_of_lt_of_le hi (Nat.le_trans h1 k.size)) ?_ ?_ ?_).trans (k.block i (by omega))).trans (h.bel.block i hi)
    · show i ≠ C
      omega
    · show i ≠ K23
      omega
    · intro e
      injection e with e
      have e : i = A27 := e
      omega
  have cC : ∀ j, j < 5 → j ≠ 3 → W2.cell? ⟨C, j, none⟩ = some (codeF A K23 nb (.slice (some ⟨A27, 0, none⟩) np np) j) := fun j hj h3 => (hf.code j h3).trans (he.rC.cell (i := j) hj)
  have jr : ∀ {q n f}, JRow W 0 q n f → JRow W2 0 q n f := fun hj => by
    rcases hj with hj | ⟨g, h1, h2, h3⟩
    · exact Or.inl hj
    · exact Or.inr ⟨g, h1, h2, row h3 (by decide) (by decide)⟩
  refine ⟨⟨h.hn, h.hN, h.hlN, h.hnp, h.hjn, fun i hi => cntTo_le he s.seen i hi, hd, h.hB.below (Nat.le_refl _) hb2, row h.rS (by decide) (by decide), row h.rKd (by decide) (by decide), row h.rN (by decide) (by decide), row h.rM (by decide) (by decide), row h.r22 (by decide) (by decide), fun i hi => ?_,
    cC 0 (by omega) (by omega), cC 1 (by omega) (by omega), cC 2 (by omega) (by omega), cC 4 (by omega) (by omega), hf.rK, hf.acc.cell, hf.acc.own, fun i hi => ⟨_, jr (h.jq i hi), jr (h.jm i hi)⟩⟩, hb2⟩
  obtain ⟨h1, h2⟩ := h.sr i hi
  refine ⟨h1, ?_⟩
  rcases h2 with h2 | ⟨g, cp, cur, e, hb, hg, h3⟩
  · exact Or.inl h2
  · refine Or.inr ⟨g, cp, cur, e, hb, (keep (t := 21) (n := cur.size) (f := fun j => (cur[j]?).getD undef) ⟨cur, hg, rfl, fun j hj => by simp [hj]⟩ (by decide) (by decide)).trans hg, h3⟩
set_option maxRecDepth 1000000 in
set_option maxHeartbeats 4000000 in
theorem st54 (c0 c1 c2 c3 c4 c5 c6 c7 c8 c9 c10 c14 c15 c19 c24 c25 c28 c29 c30 c31 c32 c33 c34 c35 c36 c37 c38 c39 c40 c41 c42 c43 c44 c45 c46 c47 c48 c49 c50 c51 c52 c53 c54 c55 c56 c57 c58 c59 c60 c61 c62 c63 c64 c65 c66 c67 c68 c69 c70 c71 c72 c73 c74 c75 c76 c77 c78 c79 c80 c81 c82 c83 c84 c85 c86 c87 c88 c89 c90 c91 c92 c93 c94 c95 c96 c97 c98 c99 c100 c101 c102 c103 c104 c105 c106 c107 c108 c109 c110 c111 c112 c113 c114 c115 c116 c117 c118 c119 c120 c121 c122 c123 c124 c125 c126 c127 c128 c129 c130 c131 c132 c133 c134 c135 c136 c137 c138 c139 c140 c141 c142 c143 c144 c145 c146 c147 c148 c149 c150 c151 c152 c153 c154 c155 c156 c157 c158 c159 c160 c161 c162 c163 c164 c165 c166 c167 c168 c169 c170 c171 c172 c173 c174 c175 c176 c177 c178 c179 c180 c181 c182 c183 c184 c185 c186 c187 c188 c189 c190 c191 c192 c193 c194 c195 c196 c197 c198 c199 c200 c201 c202 c203 c204 c205 c206 c207 c208 c209 c210 c211 c212 c213 c214 c215 c216 c217 c218 c219 c220 c221 c222 c223 c224 c225 c226 c227 c228 c229 c230 c231 c232 c233 c234 c235 c236 c237 c238 c239 c240 c241 c242 c243 c244 c245 c246 c247 c248 c249 c250 c251 c252 c253 c254 c255 c256 c257 c258 c259 c260 c261 c262 c263 c264 c265 c266 c267 c268 c269 c270 c271 c272 c273 c274 c275 c276 c277 c278 c279 c280 c281 c282 c283 c284 c285 c286 c287 c288 c289 c290 c291 c292 c293 c294 c295 c296 c297 c298 c299 c300 c301 c302 c303 c304 c305 c306 c307 c308 c309 c310 c311 c312 c313 c314 c315 c316 c317 c318 c319 c320 c321 c322 c323 c324 c325 c326 c327 c328 c329 c330 c331 c332 c333 c334 c335 c336 c337 c338 c339 c340 c341 c342 c343 c344 c345 c346 c347 c348 c349 c350 c351 c352 c353 c354 c355 c356 c357 c358 c359 c360 c361 c362 c363 c364 c365 c366 c367 c368 c369 c370 c371 c372 c373 c374 c375 c376 c377 c378 c379 c380 c381 c382 c383 c384 c385 c386 c387 c388 c389 c390 c391 c392 c393 c394 c395 c396 c397 c398 c399 c400 c401 c402 c403 c404 c405 c406 c407 c408 c409 c410 c411 c412 c413 c414 c415 c416 c417 c418 c419 c420 c421 c422 c423 c424 c425 c426 c427 c428 c429 c430 c431 c432 c433 c434 c435 c436 c437 c438 c439 c440 c441 c442 c443 c444 c445 c446 c447 c448 c449 c450 c451 c452 c453 c454 c455 c456 c457 c458 c459 c460 c461 c462 c463 c464 c465 c466 c467 c468 c469 c470 c471 c472 c473 c474 c475 c476 c477 c478 c479 c480 c481 c482 c483 c484 c485 c486 c487 c488 c489 c490 c491 c492 c493 c494 c495 c496 c497 c498 c499 c500 c501 c502 c503 c504 c505 c506 c507 c508 c509 c510 c511 c512 c513 c514 c515 c516 c517 c518 c519 c520 c521 c522 c523 c524 c525 c526 c527 c528 c529 c530 c531 c532 c533 c534 c535 c536 c537 c538 c539 c540 c541 c542 c543 c544 c545 c546 c547 c548 c549 c550 c551 c552 c553 c554 c555 c556 c557 c558 c559 c560 c561 c562 c563 c564 c565 c566 c567 c568 c569 c570 c571 c572 c573 c574 c575 c576 c577 c578 c579 c580 c581 c582 c583 c584 c585 c586 c587 c588 c589 c590 c591 c592 c593 c594 c595 c596 c597 c598 c599 c600 c601 c602 c603 c604 c605 c606 c607 c608 c609 c610 c611 c612 c613 c614 c615 c616 c617 c618 c619 c620 c621 c622 c623 c624 c625 c626 c627 c628 c629 c630 c631 c632 c633 c634 c635 c636 c637 c638 c639 c640 c641 c642 c643 c644 c645 c646 c647 c648 c649 c650 c651 c652 c653 c654 c655 c656 c657 c658 c659 c660 c661 c662 c663 c664 : Value) (nb : Nat) (h0 : 0 < nb) (D : BD) (kd : Nat → Nat) (q mq : Nat → Option Addr) (sv : Nat → Value) (b o cap N S13 K16 I17 O18 N20 M21 S22 K23 A27 np : Nat) (wB w : World) (h : Pre5 nb h0 D kd q mq sv b o N S13 K16 I17 O18 N20 M21 S22 K23 A27 np wB w) (w0 : World) (Q : Exit → Act → World → Prop) (hret : ∀ (a : Act) (W : World), a.tmps[6]? = some (.bool true) → a.defers = [] → Below w0.heap.size w0 W → Q .ret a W) (hbel : Below w0.heap.size w0 wB) :
    Code.wp Yba.prog (tl4 54) Q ⟨#[c0, c1, c2, c3, c4, c5, c6, c7, c8, c9, c10, .slice (some ⟨b, o, none⟩) nb cap, .int .i64 ((nb : Nat) : Int), .slice (some ⟨S13, 0, none⟩) (nb + 1) (nb + 1), c14, c15, .slice (some ⟨K16, 0, none⟩) N N, .slice (some ⟨I17, 0, none⟩) N N, .slice (some ⟨O18, 0, none⟩) N N, c19, .slice (some ⟨N20, 0, none⟩) nb nb, .slice (some ⟨M21, 0, none⟩) nb nb, .slice (some ⟨S22, 0, none⟩) nb nb, .slice (some ⟨K23, 0, none⟩) nb nb, c24, c25, .int .i64 ((np : Nat) : Int), .slice (some ⟨A27, 0, none⟩) np np, c28, c29, c30, c31, c32, c33, c34, c35, c36, c37, c38, c39, c40, c41, c42, c43, c44, c45, c46, c47, c48, c49, c50, c51, c52, c53, c54, c55, c56, c57, c58, c59, c60, c61, c62, c63, c64, c65, c66, c67, c68, c69, c70, c71, c72, c73, c74, c75, c76, c77, c78, c79, c80, c81, c82, c83, c84, c85, c86, c87, c88, c89, c90, c91, c92, c93, c94, c95, c96, c97, c98, c99, c100, c101, c102, c103, c104, c105, c106, c107, c108, c109, c110, c111, c112, c113, c114, c115, c116, c117, c118, c119, c120, c121, c122, c123, c124, c125, c126, c127, c128, c129, c130, c131, c132, c133, c134, c135, c136, c137, c138, c139, c140, c141, c142, c143, c144, c145, c146, c147, c148, c149, c150, c151, c152, c153, c154, c155, c156, c157, c158, c159, c160, c161, c162, c163, c164, c165, c166, c167, c168, c169, c170, c171, c172, c173, c174, c175, c176, c177, c178, c179, c180, c181, c182, c183, c184, c185, c186, c187, c188, c189, c190, c191, c192, c193, c194, c195, c196, c197, c198, c199, c200, c201, c202, c203, c204, c205, c206, c207, c208, c209, c210, c211, c212, c213, c214, c215, c216, c217, c218, c219, c220, c221, c222, c223, c224, c225, c226, c227, c228, c229, c230, c231, c232, c233, c234, c235, c236, c237, c238, c239, c240, c241, c242, c243, c244, c245, c246, c247, c248, c249, c250, c251, c252, c253, c254, c255, c256, c257, c258, c259, c260, c261, c262, c263, c264, c265, c266, c267, c268, c269, c270, c271, c272, c273, c274, c275, c276, c277, c278, c279, c280, c281, c282, c283, c284, c285, c286, c287, c288, c289, c290, c291, c292, c293, c294, c295, c296, c297, c298, c299, c300, c301, c302, c303, c304, c305, c306, c307, c308, c309, c310, c311, c312, c313, c314, c315, c316, c317, c318, c319, c320, c321, c322, c323, c324, c325, c326, c327, c328, c329, c330, c331, c332, c333, c334, c335, c336, c337, c338, c339, c340, c341, c342, c343, c344, c345, c346, c347, c348, c349, c350, c351, c352, c353, c354, c355, c356, c357, c358, c359, c360, c361, c362, c363, c364, c365, c366, c367, c368, c369, c370, c371, c372, c373, c374, c375, c376, c377, c378, c379, c380, c381, c382, c383, c384, c385, c386, c387, c388, c389, c390, c391, c392, c393, c394, c395, c396, c397, c398, c399, c400, c401, c402, c403, c404, c405, c406, c407, c408, c409, c410, c411, c412, c413, c414, c415, c416, c417, c418, c419, c420, c421, c422, c423, c424, c425, c426, c427, c428, c429, c430, c431, c432, c433, c434, c435, c436, c437, c438, c439, c440, c441, c442, c443, c444, c445, c446, c447, c448, c449, c450, c451, c452, c453, c454, c455, c456, c457, c458, c459, c460, c461, c462, c463, c464, c465, c466, c467, c468, c469, c470, c471, c472, c473, c474, c475, c476, c477, c478, c479, c480, c481, c482, c483, c484, c485, c486, c487, c488, c489, c490, c491, c492, c493, c494, c495, c496, c497, c498, c499, c500, c501, c502, c503, c504, c505, c506, c507, c508, c509, c510, c511, c512, c513, c514, c515, c516, c517, c518, c519, c520, c521, c522, c523, c524, c525, c526, c527, c528, c529, c530, c531, c532, c533, c534, c535, c536, c537, c538, c539, c540, c541, c542, c543, c544, c545, c546, c547, c548, c549, c550, c551, c552, c553, c554, c555, c556, c557, c558, c559, c560, c561, c562, c563, c564, c565, c566, c567, c568, c569, c570, c571, c572, c573, c574, c575, c576, c577, c578, c579, c580, c581, c582, c583, c584, c585, c586, c587, c588, c589, c590, c591, c592, c593, c594, c595, c596, c597, c598, c599, c600, c601, c602, c603, c604, c605, c606, c607, c608, c609, c610, c611, c612, c613, c614, c615, c616, c617, c618, c619, c620, c621, c622, c623, c624, c625, c626, c627, c628, c629, c630, c631, c632, c633, c634, c635, c636, c637, c638, c639, c640, c641, c642, c643, c644, c645, c646, c647, c648, c649, c650, c651, c652, c653, c654, c655, c656, c657, c658, c659, c660, c661, c662, c663, c664], []⟩ w := by
  conv => arg 2; whnf
  have HR : Hid (∀ (a : Act) (W : World), a.tmps[6]? = some (.bool true) → a.defers = [] → Below w0.heap.size w0 W → Q .ret a W) := hret
  have HB : Hid (Below w0.heap.size w0 wB) := hbel
  have HF : Hid (Pre5 nb h0 D kd q mq sv b o N S13 K16 I17 O18 N20 M21 S22 K23 A27 np wB w) := h
  clear hret hbel h
  go_upto_region 56 with fail
  obtain ⟨w1, A, C, hw1, hA, hC, H1⟩ : ∃ w1 A C, w1 = (w.alloc (.cells #[.nilFunc, .int .i8 4, .int .i64 8, .int .i64 8, .int .i8 5, .int .u32 0, .nilFunc] 65)).alloc (.cells #[.pointer (some ⟨w.heap.size, 0, none⟩), .slice none 0 0, .slice (some ⟨K23, 0, none⟩) nb nb, .slice (some ⟨A27, 0, none⟩) np np, .slice none 0 0] 70) ∧ A = w.heap.size ∧ C = w.heap.size + 1 ∧
      Hid (Below w.heap.size w w1 ∧ (∃ n f, w1.rowIs A 65 n f) ∧ ArchAt w1 A ∧ w1.rowIs C 70 5 (codeF A K23 nb (.slice (some ⟨A27, 0, none⟩) np np)) ∧ w.heap.size ≤ C) := by
    refine ⟨_, _, _, rfl, rfl, rfl, ?_⟩
    have rA := (row_any w #[.nilFunc, .int .i8 4, .int .i64 8, .int .i64 8, .int .i8 5, .int .u32 0, .nilFunc] 65).alloc (.cells #[.pointer (some ⟨w.heap.size, 0, none⟩), .slice none 0 0, .slice (some ⟨K23, 0, none⟩) nb nb, .slice (some ⟨A27, 0, none⟩) np np, .slice none 0 0] 70)
    refine ⟨(Below.new w _).alloc (by simp) _, ⟨_, _, rA⟩, ⟨rA.cell (i := 1) (by decide), rA.cell (i := 2) (by decide), rA.cell (i := 3) (by decide)⟩, ⟨_, alloc_at _ _ _ (by simp), rfl, fun i hi => ?_⟩, by omega⟩
    have hi5 : i = 0 ∨ i = 1 ∨ i = 2 ∨ i = 3 ∨ i = 4 := by omega
    rcases hi5 with rfl | rfl | rfl | rfl | rfl <;> rfl
  rw [← hw1, ← hC, ← hA]
  clear hw1 hA hC
  go_wp2_with fail
  have he := HF.out.ent H1.out.1 H1.out.2.1 H1.out.2.2.1 H1.out.2.2.2.1
  refine (follow_any he).mono ?_
  rintro e W' ⟨ok, s, rfl, hp⟩
  have hp := hp.out
  obtain ⟨hd, v, hp1, hp2⟩ := hp
  have hx := HF.out.out (ok := ok) (v := v) H1.out.1 H1.out.2.2.2.2 he hd (by
    cases ok
    · exact hp2 rfl
    · exact hp1 rfl)
  have HX : Hid (Pre6 nb h0 D kd q mq sv b o N S13 K16 N20 M21 S22 C K23 A 0 np s ok v W' ∧ Below wB.heap.size wB W') := hx
  clear hx hp1 hp2 hd he
  dsimp only
  iterate 7 go_step
  exact st57 _ _ _ _ _ _ _ _ _ _ _ _ _ _ _ _ _ _ _ _ _ _ _ _ _ _ _ _ _ _ _ _ _ _ _ _ _ _ _ _ _ _ _ _ _ _ _ _ _ _ _ _ _ _ _ _ _ _ _ _ _ _ _ _ _ _ _ _ _ _ _ _ _ _ _ _ _ _ _ _ _ _ _ _ _ _ _ _ _ _ _ _ _ _ _ _ _ _ _ _ _ _ _ _ _ _ _ _ _ _ _ _ _ _ _ _ _ _ _ _ _ _ _ _ _ _ _ _ _ _ _ _ _ _ _ _ _ _ _ _ _ _ _ _ _ _ _ _ _ _ _ _ _ _ _ _ _ _ _ _ _ _ _ _ _ _ _ _ _ _ _ _ _ _ _ _ _ _ _ _ _ _ _ _ _ _ _ _ _ _ _ _ _ _ _ _ _ _ _ _ _ _ _ _ _ _ _ _ _ _ _ _ _ _ _ _ _ _ _ _ _ _ _ _ _ _ _ _ _ _ _ _ _ _ _ _ _ _ _ _ _ _ _ _ _ _ _ _ _ _ _ _ _ _ _ _ _ _ _ _ _ _ _ _ _ _ _ _ _ _ _ _ _ _ _ _ _ _ _ _ _ _ _ _ _ _ _ _ _ _ _ _ _ _ _ _ _ _ _ _ _ _ _ _ _ _ _ _ _ _ _ _ _ _ _ _ _ _ _ _ _ _ _ _ _ _ _ _ _ _ _ _ _ _ _ _ _ _ _ _ _ _ _ _ _ _ _ _ _ _ _ _ _ _ _ _ _ _ _ _ _ _ _ _ _ _ _ _ _ _ _ _ _ _ _ _ _ _ _ _ _ _ _ _ _ _ _ _ _ _ _ _ _ _ _ _ _ _ _ _ _ _ _ _ _ _ _ _ _ _ _ _ _ _ _ _ _ _ _ _ _ _ _ _ _ _ _ _ _ _ _ _ _ _ _ _ _ _ _ _ _ _ _ _ _ _ _ _ _ _ _ _ _ _ _ _ _ _ _ _ _ _ _ _ _ _ _ _ _ _ _ _ _ _ _ _ _ _ _ _ _ _ _ _ _ _ _ _ _ _ _ _ _ _ _ _ _ _ _ _ _ _ _ _ _ _ _ _ _ _ _ _ _ _ _ _ _ _ _ _ _ _ _ _ _ _ _ _ _ _ _ _ _ _ _ _ _ _ _ _ _ _ _ _ _ _ _ _ _ _ _ _ _ _ _ _ _ _ _ _ _ _ _ _ _ _ _ _ _ _ _ _ _ _ _ _ _ _ _ _ _ _ _ _ _ _ _ _ _ _ _ _ _ _ _ _ _ _ _ _ _ _ _ _ _ _ _ _ _ _ _ _ _ _ _ _ _ _ _ _ _ _ _ _ _ _ _ _ _ _ _ _ _ _ _ _ _ _ _ _ _ _ _ _ _ _ _ _ _ _ _ _ _ _ nb h0 D kd q mq sv b o cap N S13 K16 N20 M21 S22 C K23 A 0 np s ok v W' HX.out.1 w0 Q HR.out (bel_on HB.out HX.out.2 HB.out.size)

end Go.Proofs.Ybulkfqak
