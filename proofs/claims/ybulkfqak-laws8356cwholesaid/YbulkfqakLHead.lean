import Derived.Test.YbulkfqakLThree
import Derived.Test.YbulkfqakLApp
import Derived.Test.YbulkfqakLReg
namespace Go.Proofs.Ybulkfqak
open Go.RowKit Go.Shelf

def prg (nb : Nat) (h0 : 0 < nb) (D : BD) (kd : Nat → Nat) : Prg nb where
  st := sumTo D.l
  kd := kd
  ind := D.ind
  nxo := fun i => if D.nx i < 0 then none else some ⟨(D.nx i).toNat % nb, Nat.mod_lt _ h0⟩
  js := fun i => (List.range (D.jn i)).map fun j => ⟨D.gj i j % nb, Nat.mod_lt _ h0⟩
def encBs {nb : Nat} (l : List (Bl nb)) : List Value := l.map fun x => .int .i32 ((x.1 : Nat) : Int)
/-- what the fourth loop has laid -/
structure R4r (wI wJ : World) (nb : Nat) (h0 : 0 < nb) (D : BD) (kd : Nat → Nat) (N20 M21 S22 K23 : Nat) (k : Nat) (mq q : Nat → Option Addr) (sv : Nat → Value) (W : World) : Prop where
  bel : Below wI.heap.size wI W
  rN : W.rowIs N20 21 nb (fun i => .int .i32 (if i < k then nextInt ((prg nb h0 D kd).nxo i) else 0))
  rM : W.rowIs M21 48 nb (fun i => if i < k then .slice (mq i) (D.jn i) (D.jn i) else .slice none 0 0)
  rS : W.rowIs S22 48 nb (fun i => if i < k then sv i else .slice none 0 0)
  rK : ∃ f0 : Nat → Value, W.rowIs K23 54 (nb * 11) (fun j => if j < k * 11 then blkF (prg nb h0 D kd) q D.fi D.la (fun _ => false) j else f0 j)
  jm : ∀ i, i < k → JRow W wJ.heap.size (mq i) (D.jn i) (fun j => D.gj i j % nb)
  jq : ∀ i, i < k → JRow W wJ.heap.size (q i) (D.jn i) (fun j => D.gj i j % nb)
  sr : ∀ i, i < k → W.ownsRow wJ.heap.size 21 1 (sv i) ((prg nb h0 D kd).succ i).length (encBs ((prg nb h0 D kd).succ i))
  sz : wJ.heap.size ≤ W.heap.size
def R4 (wI wJ : World) (nb : Nat) (h0 : 0 < nb) (D : BD) (kd : Nat → Nat) (N20 M21 S22 K23 : Nat) (k : Nat) (W : World) : Prop := ∃ mq q sv, R4r wI wJ nb h0 D kd N20 M21 S22 K23 k mq q sv W
theorem own21_form {W : World} {base n : Nat} {xs : List Value} {v : Value} (h : W.ownsRow base 21 1 v n xs) : ∃ vp cap, v = .slice vp n cap := by
  rcases h.2 with ⟨rfl, rfl⟩ | ⟨g, cap, cur, rfl, _⟩
  · exact ⟨none, 0, rfl⟩
  · exact ⟨_, cap, rfl⟩
theorem JRow.keep {W W' : World} {B n : Nat} {q : Option Addr} {f : Nat → Nat} (h : JRow W B q n f) (e : ∀ g, B ≤ g → g < W.heap.size → W'.heap[g]? = W.heap[g]?) : JRow W' B q n f := by
  rcases h with h | ⟨g, h1, h2, h3⟩
  · exact Or.inl h
  · exact Or.inr ⟨g, h1, h2, h3.of_block (e g h2 h3.lt)⟩
theorem own21_keepB {W W' : World} {B n : Nat} {v : Value} {xs : List Value} (h : W.ownsRow B 21 1 v n xs) (e : ∀ g, B ≤ g → g < W.heap.size → W'.heap[g]? = W.heap[g]?) : W'.ownsRow B 21 1 v n xs := by
  refine ⟨h.1, ?_⟩
  rcases h.2 with hl | ⟨g, cap, cur, rfl, hb, hg, hr⟩
  · exact Or.inl hl
  · exact Or.inr ⟨g, cap, cur, rfl, hb, (e g hb (Array.getElem?_eq_some_iff.1 hg).1).trans hg, hr⟩

/-- a round of the fourth loop: all but the four rows is as it was -/
structure P4 (wI wr : World) (N M S K nb : Nat) (fN fM fS fK : Nat → Value) (W : World) : Prop where
  bel : Below wI.heap.size wI W
  sz : wr.heap.size ≤ W.heap.size
  blk : ∀ b, b < wr.heap.size → b ≠ N → b ≠ M → b ≠ S → b ≠ K → W.heap[b]? = wr.heap[b]?
  rN : W.rowIs N 21 nb fN
  rM : W.rowIs M 48 nb fM
  rS : W.rowIs S 48 nb fS
  rK : W.rowIs K 54 (nb * 11) fK
  dist : M ≠ S ∧ wI.heap.size ≤ N ∧ wI.heap.size ≤ M ∧ wI.heap.size ≤ S ∧ wI.heap.size ≤ K ∧ N < wr.heap.size ∧ M < wr.heap.size ∧ S < wr.heap.size ∧ K < wr.heap.size
section
variable {wI wr : World} {N M S K nb : Nat} {fN fM fS fK : Nat → Value} {W W' : World}
theorem P4.grown (h : P4 wI wr N M S K nb fN fM fS fK W) {row : Option Nat} (g : W.grownBy W' row) (hr : ∀ r, row = some r → wr.heap.size ≤ r) : P4 wI wr N M S K nb fN fM fS fK W' := by
  obtain ⟨d0, d1, d2, d3, d4, d5, d6, d7, d8⟩ := h.dist
  have ne : ∀ {b : Nat}, b < wr.heap.size → some b ≠ row := fun hb e => by have := hr _ e.symm; omega
  refine ⟨⟨g.os.trans h.bel.os, g.tape.trans h.bel.tape, g.output.trans h.bel.output, Nat.le_trans h.bel.size g.size, fun k hk => (g.block k (Nat.lt_of_lt_of_le hk h.bel.size) (ne (by omega))).trans (h.bel.block k hk)⟩, Nat.le_trans h.sz g.size, fun b hb h1 h2 h3 h4 => (g.block b (Nat.lt_of_lt_of_le hb h.sz) (ne hb)).trans (h.blk b hb h1 h2 h3 h4), row_grown h.rN g (ne d5), row_grown h.rM g (ne d6), row_grown h.rS g (ne d7), row_grown h.rK g (ne d8), h.dist⟩
theorem P4.below (h : P4 wI wr N M S K nb fN fM fS fK W) (g : Below W.heap.size W W') : P4 wI wr N M S K nb fN fM fS fK W' := h.grown (gb_below g none) (fun r e => by cases e)
theorem P4.setN (h : P4 wI wr N M S K nb fN fM fS fK W) (k : Nat) (v : Value) : P4 wI wr N M S K nb (fun j => if j = k then v else fN j) fM fS fK (W.setCell ⟨N, k, none⟩ v) := by
  obtain ⟨d0, d1, d2, d3, d4, d5, d6, d7, d8⟩ := h.dist
  exact ⟨h.bel.setCell (p := ⟨N, k, none⟩) d1 _, by simpa using h.sz, fun b hb h1 h2 h3 h4 => (Below.heap_setCell _ _ _ _ h1).trans (h.blk b hb h1 h2 h3 h4), h.rN.set k v, h.rM.setOther (a := ⟨N, k, none⟩) (row_ne h.rM h.rN (by decide)) _, h.rS.setOther (a := ⟨N, k, none⟩) (row_ne h.rS h.rN (by decide)) _, h.rK.setOther (a := ⟨N, k, none⟩) (row_ne h.rK h.rN (by decide)) _, h.dist⟩
theorem P4.setM (h : P4 wI wr N M S K nb fN fM fS fK W) (k : Nat) (v : Value) : P4 wI wr N M S K nb fN (fun j => if j = k then v else fM j) fS fK (W.setCell ⟨M, k, none⟩ v) := by
  obtain ⟨d0, d1, d2, d3, d4, d5, d6, d7, d8⟩ := h.dist
  exact ⟨h.bel.setCell (p := ⟨M, k, none⟩) d2 _, by simpa using h.sz, fun b hb h1 h2 h3 h4 => (Below.heap_setCell _ _ _ _ h2).trans (h.blk b hb h1 h2 h3 h4), h.rN.setOther (a := ⟨M, k, none⟩) (row_ne h.rN h.rM (by decide)) _, h.rM.set k v, h.rS.setOther (a := ⟨M, k, none⟩) (fun e => d0 e.symm) _, h.rK.setOther (a := ⟨M, k, none⟩) (row_ne h.rK h.rM (by decide)) _, h.dist⟩
theorem P4.setS (h : P4 wI wr N M S K nb fN fM fS fK W) (k : Nat) (v : Value) : P4 wI wr N M S K nb fN fM (fun j => if j = k then v else fS j) fK (W.setCell ⟨S, k, none⟩ v) := by
  obtain ⟨d0, d1, d2, d3, d4, d5, d6, d7, d8⟩ := h.dist
  exact ⟨h.bel.setCell (p := ⟨S, k, none⟩) d3 _, by simpa using h.sz, fun b hb h1 h2 h3 h4 => (Below.heap_setCell _ _ _ _ h3).trans (h.blk b hb h1 h2 h3 h4), h.rN.setOther (a := ⟨S, k, none⟩) (row_ne h.rN h.rS (by decide)) _, h.rM.setOther (a := ⟨S, k, none⟩) d0 _, h.rS.set k v, h.rK.setOther (a := ⟨S, k, none⟩) (row_ne h.rK h.rS (by decide)) _, h.dist⟩
theorem P4.setK (h : P4 wI wr N M S K nb fN fM fS fK W) (k : Nat) (v : Value) : P4 wI wr N M S K nb fN fM fS (fun j => if j = k then v else fK j) (W.setCell ⟨K, k, none⟩ v) := by
  obtain ⟨d0, d1, d2, d3, d4, d5, d6, d7, d8⟩ := h.dist
  exact ⟨h.bel.setCell (p := ⟨K, k, none⟩) d4 _, by simpa using h.sz, fun b hb h1 h2 h3 h4 => (Below.heap_setCell _ _ _ _ h4).trans (h.blk b hb h1 h2 h3 h4), h.rN.setOther (a := ⟨K, k, none⟩) (row_ne h.rN h.rK (by decide)) _, h.rM.setOther (a := ⟨K, k, none⟩) (row_ne h.rM h.rK (by decide)) _, h.rS.setOther (a := ⟨K, k, none⟩) (row_ne h.rS h.rK (by decide)) _, h.rK.set k v, h.dist⟩
theorem P4.lay (h : P4 wI wr N M S K nb fN fM fS fK W) (k st0 st1 : Nat) (fi la z : Int) (q2 : Option Addr) (jn : Nat) (ind : Bool) :
    P4 wI wr N M S K nb fN fM fS (fun j => if j = k * 11 + 10 then .slice none 0 0 else if j = k * 11 + 9 then .bool false else if j = k * 11 + 8 then .bool false else if j = k * 11 + 7 then .bool ind else if j = k * 11 + 6 then .int .u8 0 else if j = k * 11 + 5 then .slice q2 jn jn else if j = k * 11 + 4 then .int .i32 z else if j = k * 11 + 3 then .int .i32 la else if j = k * 11 + 2 then .int .i32 fi else if j = k * 11 + 1 then .int .u32 (3 * (st1 : Int)) else if j = k * 11 then .int .u32 (3 * (st0 : Int)) else fK j) (lay11 W K k st0 st1 fi la z q2 jn ind) :=
  ((((((((((h.setK (k * 11) _).setK (k * 11 + 1) _).setK (k * 11 + 2) _).setK (k * 11 + 3) _).setK (k * 11 + 4) _).setK (k * 11 + 5) _).setK (k * 11 + 6) _).setK (k * 11 + 7) _).setK (k * 11 + 8) _).setK (k * 11 + 9) _).setK (k * 11 + 10) _
theorem lay11_heap (W : World) (K k st0 st1 : Nat) (fi la z : Int) (q2 : Option Addr) (jn : Nat) (ind : Bool) {b : Nat} (hb : b ≠ K) : (lay11 W K k st0 st1 fi la z q2 jn ind).heap[b]? = W.heap[b]? := by
  unfold lay11
  iterate 11 rw [Below.heap_setCell _ _ _ _ hb]
theorem P4.congrN (h : P4 wI wr N M S K nb fN fM fS fK W) {gN : Nat → Value} (e : ∀ i, i < nb → fN i = gN i) : P4 wI wr N M S K nb gN fM fS fK W := ⟨h.bel, h.sz, h.blk, h.rN.congr e, h.rM, h.rS, h.rK, h.dist⟩
end

theorem blk_lay {nb : Nat} (p : Prg nb) (q : Nat → Option Addr) (fi la : Nat → Int) (f0 : Nat → Value) (k : Nat) (q2 : Option Addr) (j : Nat) :
    (if j = k * 11 + 10 then Value.slice none 0 0 else if j = k * 11 + 9 then .bool false else if j = k * 11 + 8 then .bool false else if j = k * 11 + 7 then .bool (p.ind k) else if j = k * 11 + 6 then .int .u8 0 else if j = k * 11 + 5 then .slice q2 (p.js k).length (p.js k).length else if j = k * 11 + 4 then .int .i32 (nextInt (p.nxo k)) else if j = k * 11 + 3 then .int .i32 (la k) else if j = k * 11 + 2 then .int .i32 (fi k) else if j = k * 11 + 1 then .int .u32 (3 * (p.st (k + 1) : Int)) else if j = k * 11 then .int .u32 (3 * (p.st k : Int)) else if j < k * 11 then blkF p q fi la (fun _ => false) j else f0 j) =
    if j < (k + 1) * 11 then blkF p (upd q k q2) fi la (fun _ => false) j else f0 j := by
  by_cases h1 : j < k * 11
  · rw [if_neg (by omega), if_neg (by omega), if_neg (by omega), if_neg (by omega), if_neg (by omega), if_neg (by omega), if_neg (by omega), if_neg (by omega), if_neg (by omega), if_neg (by omega), if_neg (by omega), if_pos h1, if_pos (by omega)]
    unfold blkF
    split <;> try rfl
    rw [upd_other _ _ (by omega)]
  · by_cases h2 : j < (k + 1) * 11
    · rw [if_pos h2]
      obtain ⟨c, rfl⟩ : ∃ c, j = k * 11 + c := ⟨j - k * 11, by omega⟩
      have hc : c = 0 ∨ c = 1 ∨ c = 2 ∨ c = 3 ∨ c = 4 ∨ c = 5 ∨ c = 6 ∨ c = 7 ∨ c = 8 ∨ c = 9 ∨ c = 10 := by omega
      rcases hc with rfl | rfl | rfl | rfl | rfl | rfl | rfl | rfl | rfl | rfl | rfl
      · have e := blk0 p (upd q k q2) fi la (fun _ => false) k
        simp [e]
      · have e := blk1 p (upd q k q2) fi la (fun _ => false) k
        simp [e]
      · have e := blk2 p (upd q k q2) fi la (fun _ => false) k
        simp [e]
      · have e := blk3 p (upd q k q2) fi la (fun _ => false) k
        simp [e]
      · have e := blk4 p (upd q k q2) fi la (fun _ => false) k
        simp [e]
      · have e := blk5 p (upd q k q2) fi la (fun _ => false) k
        simp [e, upd_same]
      · have e := blk6 p (upd q k q2) fi la (fun _ => false) k
        simp [e]
      · have e := blk7 p (upd q k q2) fi la (fun _ => false) k
        simp [e]
      · have e := blk8 p (upd q k q2) fi la (fun _ => false) k
        simp [e]
      · have e := blk9 p (upd q k q2) fi la (fun _ => false) k
        simp [e]
      · have e := blk10 p (upd q k q2) fi la (fun _ => false) k
        simp [e]
    · rw [if_neg (by omega), if_neg (by omega), if_neg (by omega), if_neg (by omega), if_neg (by omega), if_neg (by omega), if_neg (by omega), if_neg (by omega), if_neg (by omega), if_neg (by omega), if_neg (by omega), if_neg h1, if_neg h2]

end Go.Proofs.Ybulkfqak
