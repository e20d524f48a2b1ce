import Derived.Test.YbulkfqakQJoin
import Derived.Deep.AppendLies
import Derived.Deep.RegionLaw
import Derived.Deep.RegionHeld3
namespace Go.Proofs.Ybulkfqak
open Go.RowKit

theorem info60 : (Yba.prog.info? 60).map (fun i => (i.zero, i.size, i.bytes)) = some (some (.agg #[.int .u32 0, .int .u8 0, .int .u8 0, .int .i64 0, .int .i64 0, .int .i64 0, .bool false]), 7, 48) := by kernel_rfl
/-- a reading or a writing of the frame -/
def accCells (off use lo hi : Int) (sure : Bool) : List Value := [.int .u32 off, .int .u8 use, .int .u8 0, .int .i64 lo, .int .i64 hi, .int .i64 0, .bool sure]

/-- the code's readings and writings as they lie -/
structure Acc (w : World) (C base n : Nat) (xs : List Value) (v : Value) : Prop where
  cell : w.cell? ⟨C, 3, none⟩ = some v
  fr : w.frozen? ⟨C, 3, none⟩ = false
  own : w.ownsRow base 60 7 v n xs
  lt : some C ≠ v.ownBlock
  ble : max base (C + 1) ≤ w.heap.size

/-- what turns where a reading or a writing is put on -/
structure Grew (C : Nat) (w : World) (v : Value) (w' : World) (v' : Value) : Prop where
  os : w'.os = w.os
  tape : w'.tape = w.tape
  output : w'.output = w.output
  size : w.heap.size ≤ w'.heap.size
  block : ∀ k, k < w.heap.size → k ≠ C → some k ≠ v.ownBlock → w'.heap[k]? = w.heap[k]?
  code : ∀ j, j ≠ 3 → w'.cell? ⟨C, j, none⟩ = w.cell? ⟨C, j, none⟩
  at' : v'.ownBlock = v.ownBlock ∨ ∃ g, v'.ownBlock = some g ∧ w.heap.size ≤ g

theorem own_ne {w : World} {base n C : Nat} {xs : List Value} {v : Value} (h : w.ownsRow base 60 7 v n xs) (hC : C < base) : some C ≠ v.ownBlock := by
  rcases h.2 with ⟨rfl, _⟩ | ⟨g, cap, cur, rfl, hb, _⟩
  · intro e; cases e
  · intro e; simp [Value.ownBlock] at e; omega
theorem Acc.ne {w : World} {C base n : Nat} {xs : List Value} {v : Value} (h : Acc w C base n xs v) : some C ≠ v.ownBlock := h.lt
theorem Acc.clt {w : World} {C base n : Nat} {xs : List Value} {v : Value} (h : Acc w C base n xs v) : C < w.heap.size := by have := h.ble; omega
theorem heap_aad {w : World} {a b : Obj} {k : Nat} (hk : k < w.heap.size) : ((w.alloc a).alloc b).drew.heap[k]? = w.heap[k]? := (Below.heap_alloc _ _ _ (by simp; omega)).trans (Below.heap_alloc _ _ _ hk)
theorem cell_aad {w : World} {a b : Obj} {C j : Nat} {v : Value} (hC : C < w.heap.size) (h : w.cell? ⟨C, j, none⟩ = some v) : ((w.alloc a).alloc b).drew.cell? ⟨C, j, none⟩ = some v := by
  rw [← h]; exact World.cell?_of_block (heap_aad hC)
theorem frozen_aad {w : World} {a b : Obj} {C j : Nat} {v : Bool} (hC : C < w.heap.size) (h : w.frozen? ⟨C, j, none⟩ = v) : ((w.alloc a).alloc b).drew.frozen? ⟨C, j, none⟩ = v := by
  rw [← h]; exact World.frozen?_of_block (heap_aad hC)
theorem own_aad {w : World} {base n : Nat} {xs : List Value} {v : Value} {a b : Obj} (h : w.ownsRow base 60 7 v n xs) : ((w.alloc a).alloc b).drew.ownsRow base 60 7 v n xs := (h.alloc a).alloc b
theorem new_aad (w : World) (a b : Obj) : ((w.alloc a).alloc b).drew.heap[w.heap.size + 1]? = some b := alloc_at _ _ _ (by simp)

theorem own_kept {w w' : World} {base n : Nat} {xs : List Value} {v : Value} (h : w.ownsRow base 60 7 v n xs) (hk : ∀ k, v.ownBlock = some k → w'.heap[k]? = w.heap[k]?) : w'.ownsRow base 60 7 v n xs := by
  refine ⟨h.1, ?_⟩
  rcases h.2 with hl | ⟨g, cap, cur, rfl, hb, hg, hr⟩
  · exact Or.inl hl
  · exact Or.inr ⟨g, cap, cur, rfl, hb, (hk g rfl).trans hg, hr⟩
theorem own_lt {w : World} {base n : Nat} {xs : List Value} {v : Value} (h : w.ownsRow base 60 7 v n xs) {k : Nat} (hk : v.ownBlock = some k) : k < w.heap.size := by
  rcases h.2 with ⟨rfl, _⟩ | ⟨g, cap, cur, rfl, hb, hg, hr⟩
  · cases hk
  · simp [Value.ownBlock] at hk
    subst hk
    exact (Array.getElem?_eq_some_iff.1 hg).1
theorem acc_end {w w1 : World} {C base n g cap : Nat} {xs ys : List Value} {v : Value} {a b : Obj} (H : Acc w C base n xs v)
    (hown : w1.ownsRow base 60 7 (.slice (some ⟨g, 0, none⟩) (n + 1) cap) (n + 1) (xs ++ ys)) (hgrow : ((w.alloc a).alloc b).drew.grownBy w1 v.ownBlock)
    (hat : v.ownBlock = some g ∨ g = w.heap.size + 2) (hc1 : w1.cell? ⟨C, 3, none⟩ = some v) (hf1 : w1.frozen? ⟨C, 3, none⟩ = false) :
    ∃ v', Acc (w1.setCell ⟨C, 3, none⟩ (.slice (some ⟨g, 0, none⟩) (n + 1) cap)) C base (n + 1) (xs ++ ys) v' ∧ Grew C w v (w1.setCell ⟨C, 3, none⟩ (.slice (some ⟨g, 0, none⟩) (n + 1) cap)) v' := by
  have hC : C < w.heap.size := H.clt
  have hsz : w.heap.size + 2 ≤ w1.heap.size := by have := hgrow.size; simpa using this
  have hne : some C ≠ (Value.slice (some ⟨g, 0, none⟩) (n + 1) cap).ownBlock := by
    rcases hat with e | e
    · exact fun q => H.lt (by rw [e]; exact q)
    · intro q; simp [Value.ownBlock] at q; omega
  refine ⟨.slice (some ⟨g, 0, none⟩) (n + 1) cap, ⟨World.cell?_setCell_same' _ _ _ (by rw [hc1]; rfl), by rw [World.frozen?_setCell]; exact hf1, own_kept hown fun k hk => Below.heap_setCell _ _ _ _ fun e => hne (by rw [hk, e]), hne, by have := H.ble; simp; omega⟩, ?_⟩
  refine ⟨hgrow.os, hgrow.tape, hgrow.output, by simp; omega, fun k hk hkC hkv => ?_, fun j hj => ?_, ?_⟩
  · rw [Below.heap_setCell _ _ _ _ hkC, hgrow.block k (by simp; omega) hkv]
    exact heap_aad hk
  · rw [World.cell?_setCell_other _ _ _ _ (by intro e; injection e with e1 e2; exact hj e2.symm), hgrow.cell_far _ (by simp; omega) H.ne]
    exact World.cell?_of_block (heap_aad hC)
  · rcases hat with e | e
    · exact Or.inl e.symm
    · exact Or.inr ⟨g, rfl, by omega⟩

theorem Grew.trans {C : Nat} {w w1 w2 : World} {v v1 v2 : Value} (h : Grew C w v w1 v1) (k : Grew C w1 v1 w2 v2) : Grew C w v w2 v2 := by
  refine ⟨k.os.trans h.os, k.tape.trans h.tape, k.output.trans h.output, Nat.le_trans h.size k.size, fun j hj hjC hjv => ?_, fun j hj => (k.code j hj).trans (h.code j hj), ?_⟩
  · refine (k.block j (Nat.lt_of_lt_of_le hj h.size) hjC ?_).trans (h.block j hj hjC hjv)
    rcases h.at' with e | ⟨g, e, hg⟩
    · rw [e]; exact hjv
    · rw [e]; intro q; injection q with q; omega
  · rcases k.at' with e | ⟨g, e, hg⟩
    · rw [e]; exact h.at'
    · exact Or.inr ⟨g, e, Nat.le_trans h.size hg⟩
theorem Grew.of_below {C : Nat} {w w1 : World} {v : Value} (h : Below w.heap.size w w1) (hC : C < w.heap.size) : Grew C w v w1 v :=
  ⟨h.os, h.tape, h.output, h.size, fun k hk _ _ => h.block k hk, fun _ _ => h.cell (p := ⟨C, _, none⟩) hC, Or.inl rfl⟩
theorem Acc.below {w w1 : World} {C base n : Nat} {xs : List Value} {v : Value} (h : Acc w C base n xs v) (k : Below w.heap.size w w1) : Acc w1 C base n xs v :=
  ⟨(k.cell (p := ⟨C, 3, none⟩) h.clt).trans h.cell, (k.frozen (p := ⟨C, 3, none⟩) h.clt).trans h.fr, own_kept h.own fun j hj => k.block j (own_lt h.own hj), h.lt, Nat.le_trans h.ble k.size⟩
theorem Acc.set {w : World} {C base n S j : Nat} {xs : List Value} {v x : Value} (h : Acc w C base n xs v) (hS : S ≠ C) (hSv : some S ≠ v.ownBlock) : Acc (w.setCell ⟨S, j, none⟩ x) C base n xs v :=
  ⟨by rw [World.cell?_setCell_other _ _ _ _ (by intro e; injection e with e1 e2; exact hS e1)]; exact h.cell, by rw [World.frozen?_setCell]; exact h.fr,
   own_kept h.own fun k hk => Below.heap_setCell _ _ _ _ fun e => hSv (by rw [hk, e]), h.lt, by simpa using h.ble⟩
theorem Grew.set {C S j : Nat} {w w1 : World} {v v1 x : Value} (h : Grew C w v w1 v1) (hS : S ≠ C) : Grew C (w.setCell ⟨S, j, none⟩ x) v (w1.setCell ⟨S, j, none⟩ x) v1 := by
  refine ⟨h.os, h.tape, h.output, by simpa using h.size, fun k hk hkC hkv => ?_, fun i hi => ?_, by simpa using h.at'⟩
  · have := h.block k (by simpa using hk) hkC hkv
    by_cases e : S = k
    · subst e
      simp only [World.setCell, Array.getElem?_modify, if_pos]
      rw [this]
    · rw [Below.heap_setCell _ _ _ _ (fun h => e h.symm), Below.heap_setCell _ _ _ _ (fun h => e h.symm), this]
  · rw [World.cell?_setCell_other _ _ _ _ (by intro e; injection e with e1 e2; exact hS e1), World.cell?_setCell_other _ _ _ _ (by intro e; injection e with e1 e2; exact hS e1)]
    exact h.code i hi

set_option maxRecDepth 100000 in
set_option maxHeartbeats 4000000 in
theorem access_c (C base n : Nat) (xs : List Value) (v : Value) (off use lo hi : Int) (sure : Bool) (w : World) (h : Acc w C base n xs v) (hn : n ≤ 1048576) :
    Calls Yba.prog 59 #[.pointer (some ⟨C, 0, none⟩), .int .u32 off, .int .u8 use, refVal lo hi sure] w fun e w' => e = .returned (.tuple #[]) ∧ ∃ v', Acc w' C base (n + 1) (xs ++ accCells off use lo hi sure) v' ∧ Grew C w v w' v' := by
  obtain ⟨i0, hi0, hz0, hz1, hz2⟩ := info_parts info60
  have hC : C < w.heap.size := h.clt
  have hc := h.cell
  have hf := h.fr
  have H : Hid (Acc w C base n xs v) := h
  clear h
  unfold refVal
  go_enter Yba.func59, Yba.ntmps59
  go_upto_region 1 with fail
  go_region_law (refine step_append_lies _ (by rfl) (.tmp 12) (.tmp 17) 55 (by rfl) base 60 i0 _ 7 48 Yba.underlying55 hi0 hz0 hz1 hz2 (by rfl) (by omega) v n xs (by rfl) (own_aad H.out.own) ⟨w.heap.size + 1, 0, none⟩ 1 1 (accCells off use lo hi sure) (by rfl) (by rfl) (World.news_of_block (new_aad _ _ _)) (by simp [accCells, Value.oneCell']) (by omega) (by simp [maxLen]; omega) (by omega) (by simp; have := H.out.ble; omega) (w.heap.size + 2) (by simp) ?_; intro g cap w1 hown hgrow hat hlt; have hc1 := (hgrow.cell_far ⟨C, 3, none⟩ (by simp; omega) H.out.ne).trans (cell_aad hC H.out.cell); have hf1 := (hgrow.frozen_far ⟨C, 3, none⟩ (by simp; omega) H.out.ne).trans (frozen_aad hC H.out.fr))
  all_goals go_wp2_with fail
  all_goals go_end0
  all_goals exact ⟨rfl, acc_end H.out hown hgrow hat hc1 hf1⟩
end Go.Proofs.Ybulkfqak
