import Derived.Test.YbulkfqakLGround
import Derived.Test.YbulkfqakLSeven
namespace Go.Proofs.Ybulkfqak
open Go.RowKit Go.Shelf

theorem bel_on {B : Nat} {a b c : World} (h : Below B a b) (k : Below b.heap.size b c) (hB : B ≤ b.heap.size) : Below B a c := h.trans (k.mono hB)
theorem row_bel {W W' : World} {b : Nat} {t : TypeId} {n : Nat} {f : Nat → Value} (h : W.rowIs b t n f) (k : Below W.heap.size W W') : W'.rowIs b t n f := h.of_block (k.block b h.lt)
theorem cell_bel {W W' : World} {a : Addr} {v : Value} (h : W.cell? a = some v) (k : Below W.heap.size W W') : W'.cell? a = some v := (k.cell (World.block_lt_of_cell? W _ h)).trans h
theorem own60_bel {W W' : World} {base n : Nat} {v : Value} {xs : List Value} (h : W.ownsRow base 60 7 v n xs) (k : Below W.heap.size W W') : W'.ownsRow base 60 7 v n xs := own_kept h fun _ hj => k.block _ (own_lt h hj)
theorem own21_bel {W W' : World} {base n : Nat} {v : Value} {xs : List Value} (h : W.ownsRow base 21 1 v n xs) (k : Below W.heap.size W W') : W'.ownsRow base 21 1 v n xs := own21_keepB h fun g _ hg => k.block g hg
theorem jrow_bel {W W' : World} {B n : Nat} {q : Option Addr} {f : Nat → Nat} (h : JRow W B q n f) (k : Below W.heap.size W W') : JRow W' B q n f := h.keep fun g _ hg => k.block g hg
theorem own60_row {W : World} {base n : Nat} {v : Value} {xs : List Value} (h : W.ownsRow base 60 7 v n xs) : ∃ g vp cp, v = .slice vp n cp ∧ (0 < n → vp = some ⟨g, 0, none⟩) ∧ ∀ i, i < n * 7 → W.cell? ⟨g, i, none⟩ = some ((xs[i]?).getD undef) := by
  obtain ⟨hl, h⟩ := h
  rcases h with ⟨rfl, rfl⟩ | ⟨g, cap, cur, rfl, hb, hg, h1, h2, h3, h4⟩
  · exact ⟨0, none, 0, rfl, fun e => absurd e (by omega), fun i hi => absurd hi (by omega)⟩
  · refine ⟨g, _, cap, rfl, fun _ => rfl, fun i hi => ?_⟩
    have e : xs[i]? = cur[i]? := by
      rw [← h4, List.getElem?_take_of_lt hi]
      simp
    have hle : n * 7 ≤ cap * 7 := Nat.mul_le_mul_right 7 h1
    have hi2 : i < cur.size := by omega
    rw [e]
    simp [World.cell?, hg, hi2]

/-- what lies when 'follow' and the model are over -/
structure Fin4 (nb : Nat) (p : Prg nb) (q mq : Nat → Option Addr) (D : BD) (b o N S13 K16 N20 M21 S32 D33 C K A29 base np : Nat) (s : St) (ok : Bool) (v : Value) (W : World) : Prop where
  hn : nb ≤ 65536
  h0 : 0 < nb
  hN : N ≤ 65536
  hnp : np ≤ 7
  hst : ∀ i, i ≤ nb → p.st i ≤ N
  mono : ∀ i, i < nb → p.st i ≤ p.st (i + 1)
  hjl : ∀ i, i < nb → (p.js i).length ≤ 1048576
  hind : ∀ i, D.ind i = p.ind i
  hcnt : ∀ i, i ≤ nb → cntTo p s.seen np i ≤ np + p.st i
  hbd : ∀ i, i < nb → s.seen i = true → -90000000000 ≤ s.delta i ∧ s.delta i ≤ 90000000000
  hB : BAt W b o nb D
  rS : W.rowIs S13 3 (nb + 1) (fun i => .int .i64 ((p.st i : Nat) : Int))
  rKd : W.rowIs K16 3 N (fun i => .int .i64 ((p.kd i : Nat) : Int))
  rN : W.rowIs N20 21 nb (fun i => .int .i32 (nextInt (p.nxo i)))
  rM : W.rowIs M21 48 nb (fun i => .slice (mq i) (p.js i).length (p.js i).length)
  r32 : W.rowIs S32 4 nb (fun i => .bool (s.seen i))
  r33 : W.rowIs D33 2 nb (fun i => .int .i64 (s.delta i))
  c0 : W.cell? ⟨C, 0, none⟩ = some (.pointer (some ⟨A29, 0, none⟩))
  c1 : W.cell? ⟨C, 1, none⟩ = some (.slice none 0 0)
  c2 : W.cell? ⟨C, 2, none⟩ = some (.slice (some ⟨K, 0, none⟩) nb nb)
  c4 : W.cell? ⟨C, 4, none⟩ = some (.slice none 0 0)
  rK : W.rowIs K 54 (nb * 11) (blkF p q (if ok = true then fiTo p s.seen np D.fi nb else D.fi) (if ok = true then laTo p s.seen np D.la nb else D.la) s.seen)
  c3 : W.cell? ⟨C, 3, none⟩ = some v
  own : W.ownsRow base 60 7 v (if ok = true then cntTo p s.seen np nb else np) (if ok = true then accTo p s.seen s.delta (preL np) nb else preL np)
  je : ∀ i, i < nb → ∃ f, JRow W 0 (q i) (p.js i).length f ∧ JRow W 0 (mq i) (p.js i).length f
theorem Fin4.below {nb : Nat} {p : Prg nb} {q mq : Nat → Option Addr} {D : BD} {b o N S13 K16 N20 M21 S32 D33 C K A29 base np : Nat} {s : St} {ok : Bool} {v : Value} {W W' : World}
    (h : Fin4 nb p q mq D b o N S13 K16 N20 M21 S32 D33 C K A29 base np s ok v W) (k : Below W.heap.size W W') : Fin4 nb p q mq D b o N S13 K16 N20 M21 S32 D33 C K A29 base np s ok v W' :=
  ⟨h.hn, h.h0, h.hN, h.hnp, h.hst, h.mono, h.hjl, h.hind, h.hcnt, h.hbd, h.hB.below (Nat.le_refl _) k, row_bel h.rS k, row_bel h.rKd k, row_bel h.rN k, row_bel h.rM k, row_bel h.r32 k, row_bel h.r33 k, cell_bel h.c0 k, cell_bel h.c1 k, cell_bel h.c2 k, cell_bel h.c4 k, row_bel h.rK k, cell_bel h.c3 k, own60_bel h.own k,
    fun i hi => by obtain ⟨f, h1, h2⟩ := h.je i hi; exact ⟨f, jrow_bel h1 k, jrow_bel h2 k⟩⟩
end Go.Proofs.Ybulkfqak
