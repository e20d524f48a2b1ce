import Derived.Test.YbulkfqakLHead
namespace Go.Proofs.Ybulkfqak
open Go.RowKit Go.Shelf

theorem JRow.base {W : World} {B B' n : Nat} {q : Option Addr} {f : Nat → Nat} (h : JRow W B q n f) (hB : B' ≤ B) : JRow W B' q n f := by
  rcases h with h | ⟨g, h1, h2, h3⟩
  · exact Or.inl h
  · exact Or.inr ⟨g, h1, Nat.le_trans hB h2, h3⟩
theorem own21_base {W : World} {B B' n : Nat} {v : Value} {xs : List Value} (h : W.ownsRow B 21 1 v n xs) (hB : B' ≤ B) : W.ownsRow B' 21 1 v n xs := by
  refine ⟨h.1, ?_⟩
  rcases h.2 with hl | ⟨g, cap, cur, rfl, hb, hr⟩
  · exact Or.inl hl
  · exact Or.inr ⟨g, cap, cur, rfl, Nat.le_trans hB hb, hr⟩
theorem R4.next {wI wJ wr W : World} {nb : Nat} {h0 : 0 < nb} {D : BD} {kd : Nat → Nat} {N M S K k : Nat} {mq q : Nat → Option Addr} {sv : Nat → Value} {mk' q2 : Option Addr} {v2 : Value} {fK f0 : Nat → Value} (hlt : k < nb)
    (HR : R4r wI wJ nb h0 D kd N M S K k mq q sv wr)
    (HP : P4 wI wr N M S K nb (fun j => .int .i32 (if j < k + 1 then nextInt ((prg nb h0 D kd).nxo j) else 0)) (fun j => if j = k then .slice mk' (D.jn k) (D.jn k) else if j < k then .slice (mq j) (D.jn j) (D.jn j) else .slice none 0 0) (fun j => if j = k then v2 else if j < k then sv j else .slice none 0 0) fK W)
    (hK : ∀ j, fK j = if j < (k + 1) * 11 then blkF (prg nb h0 D kd) (upd q k q2) D.fi D.la (fun _ => false) j else f0 j)
    (hm : JRow W wr.heap.size mk' (D.jn k) (fun j => D.gj k j % nb)) (hq : JRow W wr.heap.size q2 (D.jn k) (fun j => D.gj k j % nb)) (hs : W.ownsRow wr.heap.size 21 1 v2 ((prg nb h0 D kd).succ k).length (encBs ((prg nb h0 D kd).succ k)))
    (hN : N < wJ.heap.size) (hM : M < wJ.heap.size) (hS : S < wJ.heap.size) (hKl : K < wJ.heap.size) : R4 wI wJ nb h0 D kd N M S K (k + 1) W := by
  have kept : ∀ g, wJ.heap.size ≤ g → g < wr.heap.size → W.heap[g]? = wr.heap[g]? := fun g h1 h2 => HP.blk g h2 (by omega) (by omega) (by omega) (by omega)
  refine ⟨upd mq k mk', upd q k q2, upd sv k v2, HP.bel, HP.rN, HP.rM.congr fun i _ => ?_, HP.rS.congr fun i _ => ?_, ⟨f0, HP.rK.congr fun j _ => hK j⟩, fun i hi => ?_, fun i hi => ?_, fun i hi => ?_, Nat.le_trans HR.sz HP.sz⟩
  · by_cases e : i = k
    · subst e; rw [if_pos rfl, if_pos (by omega), upd_same]
    · rw [if_neg e, upd_other _ _ e]
      by_cases h : i < k
      · rw [if_pos h, if_pos (by omega)]
      · rw [if_neg h, if_neg (by omega)]
  · by_cases e : i = k
    · subst e; rw [if_pos rfl, if_pos (by omega), upd_same]
    · rw [if_neg e, upd_other _ _ e]
      by_cases h : i < k
      · rw [if_pos h, if_pos (by omega)]
      · rw [if_neg h, if_neg (by omega)]
  · by_cases e : i = k
    · subst e; rw [upd_same]; exact hm.base HR.sz
    · rw [upd_other _ _ e]; exact (HR.jm i (by omega)).keep kept
  · by_cases e : i = k
    · subst e; rw [upd_same]; exact hq.base HR.sz
    · rw [upd_other _ _ e]; exact (HR.jq i (by omega)).keep kept
  · by_cases e : i = k
    · subst e; rw [upd_same]; exact own21_base hs HR.sz
    · rw [upd_other _ _ e]; exact own21_keepB (HR.sr i (by omega)) kept
end Go.Proofs.Ybulkfqak
