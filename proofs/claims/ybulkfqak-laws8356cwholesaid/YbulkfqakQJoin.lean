import Derived.Test.YbulkfqakQStep
namespace Go.Proofs.Ybulkfqak
open Go.RowKit

theorem eql92 (w : World) : (binOp .eql 92 zeroVal zeroVal).run Yba.prog w = .ok (.bool true) w := by kernel_rfl
theorem neq92 (w : World) : (binOp .neq 92 zeroVal zeroVal).run Yba.prog w = .ok (.bool false) w := by kernel_rfl

theorem alloc_at (w : World) (o : Obj) (b : Nat) (h : b = w.heap.size) : (w.alloc o).heap[b]? = some o := by subst h; exact heap_alloc_new _ _
/-- a block that holds no value -/
def VB (w : World) (b : Nat) : Prop := w.heap[b]? = some (.cells #[.int .i64 0, .int .i32 0, .int .u8 0, .bool false] 92)
theorem lt_of_vb {w : World} {b : Nat} (h : VB w b) : b < w.heap.size := (Array.getElem?_eq_some_iff.1 h).1
theorem VB.facts {w : World} {b : Nat} (h : VB w b) : w.cell? ⟨b, 0, none⟩ = some (.int .i64 0) ∧ w.cell? ⟨b, 1, none⟩ = some (.int .i32 0) ∧ w.cell? ⟨b, 2, none⟩ = some (.int .u8 0) ∧ w.cell? ⟨b, 3, none⟩ = some (.bool false) ∧ ∀ i, w.frozen? ⟨b, i, none⟩ = false := by
  unfold VB at h
  refine ⟨?_, ?_, ?_, ?_, fun i => ?_⟩ <;> simp [World.cell?, World.frozen?, h]

set_option maxRecDepth 100000 in
set_option maxHeartbeats 2000000 in
theorem vjoin_zero (w : World) : Calls Yba.prog 32 #[zeroVal, zeroVal] w fun e w' => e = .returned zeroVal ∧ Below w.heap.size w w' := by
  have hq := eql92
  have hfz := frame_zero
  unfold zeroVal at hq hfz
  unfold zeroVal
  go_enter Yba.func32, Yba.ntmps32
  go_wp2_with fail
  refine (hfz _).mono ?_
  rintro e w1 ⟨rfl, hb1⟩
  have B1 : Below w.heap.size w w1 := ((((Below.refl w.heap.size w).alloc (Nat.le_refl _) _).alloc (by simp) _).alloc (by simp; omega) _).trans (hb1.mono (by simp; omega))
  have z1 := hb1.size
  simp at z1
  have p0 : w1.heap[w.heap.size]? = some (.cells #[.int .i64 0, .int .i32 0, .int .u8 0, .bool false] 92) := (hb1.block _ (by simp; omega)).trans ((Below.heap_alloc _ _ _ (by simp; omega)).trans ((Below.heap_alloc _ _ _ (by simp)).trans (heap_alloc_new _ _)))
  have p1 : w1.heap[w.heap.size + 1]? = some (.cells #[.int .i64 0, .int .i32 0, .int .u8 0, .bool false] 92) := (hb1.block _ (by simp)).trans ((Below.heap_alloc _ _ _ (by simp)).trans (alloc_at _ _ _ (by simp)))
  have p2 : w1.heap[w.heap.size + 2]? = some (.cells #[.int .i64 0, .int .i32 0, .int .u8 0, .bool false] 92) := (hb1.block _ (by simp)).trans (alloc_at _ _ _ (by simp))
  have H1 : Hid (Below w.heap.size w w1 ∧ VB w1 w.heap.size ∧ VB w1 (w.heap.size + 1) ∧ VB w1 (w.heap.size + 2)) := ⟨B1, p0, p1, p2⟩
  obtain ⟨u0, u1, u2, u3, _⟩ := VB.facts p0
  obtain ⟨v0, v1, v2, v3, _⟩ := VB.facts p1
  clear B1 hb1 p0 p1 p2 z1
  go_wp2_with fail
  refine (hfz _).mono ?_
  rintro e w2 ⟨rfl, hb2⟩
  have B2 : Below w.heap.size w w2 := H1.out.1.trans (hb2.mono H1.out.1.size)
  have k0 : VB w2 w.heap.size := (hb2.block _ (lt_of_vb H1.out.2.1)).trans H1.out.2.1
  have k1 : VB w2 (w.heap.size + 1) := (hb2.block _ (lt_of_vb H1.out.2.2.1)).trans H1.out.2.2.1
  have k2 : VB w2 (w.heap.size + 2) := (hb2.block _ (lt_of_vb H1.out.2.2.2)).trans H1.out.2.2.2
  obtain ⟨a0, a1, a2, a3, _⟩ := VB.facts k0
  obtain ⟨c0, c1, c2, c3, _⟩ := VB.facts k1
  obtain ⟨d0, d1, d2, d3, df⟩ := VB.facts k2
  have f0 := df 0
  have f1 := df 1
  have f2 := df 2
  have f3 := df 3
  have HB2 : Hid (Below w.heap.size w w2) := B2
  clear hb2 k0 k1 k2 df B2 u0 u1 u2 u3 v0 v1 v2 v3
  go_wp2_with fail
  refine bodyPost_ret (v := .agg #[.int .i64 0, .int .i32 0, .int .u8 0, .bool false]) ?_ rfl ⟨rfl, (((HB2.out.setCell (p := ⟨w.heap.size + 1 + 1, 0, none⟩) (by simp; omega) _).setCell (p := ⟨w.heap.size + 1 + 1, 1, none⟩) (by simp; omega) _).setCell (p := ⟨w.heap.size + 1 + 1, 2, none⟩) (by simp; omega) _).setCell (p := ⟨w.heap.size + 1 + 1, 3, none⟩) (by simp; omega) _⟩
  simp [results, Yba.results32, go_sem, d0, d1, d2, d3]
end Go.Proofs.Ybulkfqak
