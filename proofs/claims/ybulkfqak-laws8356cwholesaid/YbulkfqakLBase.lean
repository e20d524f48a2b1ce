import Derived.Test.YbulkfqakQFollow
import Derived.Test.YbulkfqakQEq
import Derived.Test.YbulkfqakQInst
namespace Go.Proofs.Ybulkfqak
open Go.RowKit Go.Shelf

noncomputable def lp4 (k : Nat) : Code := (((Yba.f4.body.map loopsOf).getD [])[k]?).getD .skip

/-- the blocks that came in, as plain data -/
structure BD where
  l : Nat → Nat
  nx : Nat → Int
  jp : Nat → Option Addr
  jn : Nat → Nat
  jc : Nat → Nat
  gj : Nat → Nat → Nat
  ind : Nat → Bool
  fi : Nat → Int
  la : Nat → Int
structure BAt (w : World) (b o n : Nat) (D : BD) : Prop where
  c0 : ∀ i, i < n → w.cell? ⟨b, o + i * 6, none⟩ = some (.int .u8 ((D.l i : Nat) : Int))
  c1 : ∀ i, i < n → w.cell? ⟨b, o + i * 6 + 1, none⟩ = some (.int .i16 (D.nx i))
  c2 : ∀ i, i < n → w.cell? ⟨b, o + i * 6 + 2, none⟩ = some (.slice (D.jp i) (D.jn i) (D.jc i))
  c3 : ∀ i, i < n → w.cell? ⟨b, o + i * 6 + 3, none⟩ = some (.bool (D.ind i))
  c4 : ∀ i, i < n → w.cell? ⟨b, o + i * 6 + 4, none⟩ = some (.int .i32 (D.fi i))
  c5 : ∀ i, i < n → w.cell? ⟨b, o + i * 6 + 5, none⟩ = some (.int .i32 (D.la i))
  lt : ∀ i, D.l i < 256
  nxb : ∀ i, -32768 ≤ D.nx i ∧ D.nx i ≤ 32767
  jk : ∀ i, i < n → KAt w (D.jp i) (D.jn i) (D.gj i)
  bl : b < w.heap.size
theorem BAt.below {w w' : World} {b o n B : Nat} {D : BD} (h : BAt w b o n D) (hB : w.heap.size ≤ B) (k : Below B w w') : BAt w' b o n D := by
  have hc : ∀ j v, w.cell? ⟨b, j, none⟩ = some v → w'.cell? ⟨b, j, none⟩ = some v := fun j v e => (k.cell (p := ⟨b, j, none⟩) (Nat.lt_of_lt_of_le h.bl hB)).trans e
  exact ⟨fun i hi => hc _ _ (h.c0 i hi), fun i hi => hc _ _ (h.c1 i hi), fun i hi => hc _ _ (h.c2 i hi), fun i hi => hc _ _ (h.c3 i hi), fun i hi => hc _ _ (h.c4 i hi), fun i hi => hc _ _ (h.c5 i hi), h.lt, h.nxb, fun i hi => (h.jk i hi).below hB k, Nat.lt_of_lt_of_le h.bl k.size⟩
def sumTo (f : Nat → Nat) : Nat → Nat
  | 0 => 0
  | k + 1 => sumTo f k + f k
theorem sumTo_le {f : Nat → Nat} {B : Nat} : ∀ (k : Nat), (∀ i, i < k → f i ≤ B) → sumTo f k ≤ k * B
  | 0, _ => by simp [sumTo]
  | k + 1, h => by
    have h1 := sumTo_le k (fun i hi => h i (by omega))
    have h2 := h k (by omega)
    show sumTo f k + f k ≤ (k + 1) * B
    rw [Nat.succ_mul]
    omega
theorem sumTo_mono (f : Nat → Nat) (a : Nat) : ∀ (d : Nat), sumTo f a ≤ sumTo f (a + d)
  | 0 => Nat.le_refl _
  | d + 1 => by
    have := sumTo_mono f a d
    show _ ≤ sumTo f (a + d) + f (a + d)
    omega
end Go.Proofs.Ybulkfqak
