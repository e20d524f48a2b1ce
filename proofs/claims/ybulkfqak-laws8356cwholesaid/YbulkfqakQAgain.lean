import Derived.Test.YbulkfqakQState
namespace Go.Proofs.Ybulkfqak
open Go.RowKit

theorem flat_get : ∀ (n r j : Nat), r < n → j < 4 → ((List.replicate n zv4).flatten)[r * 4 + j]? = zv4[j]?
  | 0, r, j, h, _ => by omega
  | n + 1, 0, j, _, hj => by
    rw [List.replicate_succ, List.flatten_cons, List.getElem?_append_left (by simp [zv4]; omega)]
    simp
  | n + 1, r + 1, j, h, hj => by
    rw [List.replicate_succ, List.flatten_cons, List.getElem?_append_right (by simp [zv4]; omega)]
    have : (r + 1) * 4 + j - zv4.length = r * 4 + j := by simp [zv4]; omega
    rw [this]
    exact flat_get n r j (by omega) hj

theorem st_get (A : Nat) (d : Int) (r j : Nat) (hr : r < 32) (hj : j < 4) : (stCells A d)[2 + r * 4 + j]? = zv4[j]? := by
  rw [show 2 + r * 4 + j = (r * 4 + j) + 1 + 1 by omega]
  simp only [stCells, List.getElem?_cons_succ]
  exact flat_get 32 r j hr hj

theorem reg_cells {w : World} {b o A : Nat} {d : Int} (h : w.rangeAt b o (stCells A d)) (r : Nat) (hr : r < 32) :
    w.cell? ⟨b, o + 2 + r * 4, none⟩ = some (.int .i64 0) ∧ w.cell? ⟨b, o + 2 + r * 4 + 1, none⟩ = some (.int .i32 0) ∧ w.cell? ⟨b, o + 2 + r * 4 + 2, none⟩ = some (.int .u8 0) ∧ w.cell? ⟨b, o + 2 + r * 4 + 3, none⟩ = some (.bool false) := by
  have g := fun j hj v (hv : zv4[j]? = some v) => h (2 + r * 4 + j) v ((st_get A d r j hr hj).trans hv)
  refine ⟨?_, ?_, ?_, ?_⟩
  · have := g 0 (by omega) _ rfl; rwa [show o + (2 + r * 4 + 0) = o + 2 + r * 4 by omega] at this
  · have := g 1 (by omega) _ rfl; rwa [show o + (2 + r * 4 + 1) = o + 2 + r * 4 + 1 by omega] at this
  · have := g 2 (by omega) _ rfl; rwa [show o + (2 + r * 4 + 2) = o + 2 + r * 4 + 2 by omega] at this
  · have := g 3 (by omega) _ rfl; rwa [show o + (2 + r * 4 + 3) = o + 2 + r * 4 + 3 by omega] at this


theorem vb_old {w w1 : World} {B : Nat} (h : Below B (w.alloc (.cells #[.int .i64 0, .int .i32 0, .int .u8 0, .bool false] 92)).drew w1) (hB : w.heap.size < B) : VB w1 w.heap.size :=
  (h.block _ hB).trans (heap_alloc_new w _)
theorem VB.set4 {w : World} {b : Nat} (h : VB w b) : VB ((((w.setCell ⟨b, 0, none⟩ (.int .i64 0)).setCell ⟨b, 1, none⟩ (.int .i32 0)).setCell ⟨b, 2, none⟩ (.int .u8 0)).setCell ⟨b, 3, none⟩ (.bool false)) b := by
  unfold VB at h ⊢
  simp [World.setCell, Array.getElem?_modify, h]
theorem set4_below {n : Nat} {w w' : World} {b : Nat} {x y z u : Value} (hn : n ≤ b) (h : Below n w w') : Below n w ((((w'.setCell ⟨b, 0, none⟩ x).setCell ⟨b, 1, none⟩ y).setCell ⟨b, 2, none⟩ z).setCell ⟨b, 3, none⟩ u) :=
  (((h.setCell (p := ⟨b, 0, none⟩) hn _).setCell (p := ⟨b, 1, none⟩) hn _).setCell (p := ⟨b, 2, none⟩) hn _).setCell (p := ⟨b, 3, none⟩) hn _
set_option maxRecDepth 100000 in
set_option maxHeartbeats 4000000 in
theorem join_again (b o T A : Nat) (d : Int) (w : World) (h1 : w.rangeAt b o (stCells A d)) (h2 : w.rangeAt T 0 (stCells A d)) :
    Calls Yba.prog 18 #[.pointer (some ⟨b, o, none⟩), .pointer (some ⟨T, 0, none⟩), .bool false] w fun e w' => e = .returned (.tuple #[.bool false, .bool true]) ∧ Below w.heap.size w w' := by
  have hv := vjoin_zero
  have hq := neq92
  unfold zeroVal at hv hq
  have g1 : w.cell? ⟨b, o + 1, none⟩ = some (.int .i64 d) := h1 1 _ rfl
  have g2 : w.cell? ⟨T, 1, none⟩ = some (.int .i64 d) := by simpa using h2 1 _ rfl
  have hb : b < w.heap.size := World.block_lt_of_cell? w _ g1
  have hT : T < w.heap.size := World.block_lt_of_cell? w _ g2
  have H1 : Hid (w.rangeAt b o (stCells A d)) := h1
  have H2 : Hid (w.rangeAt T 0 (stCells A d)) := h2
  clear h1 h2
  go_enter Yba.func18, Yba.ntmps18
  go_upto_region 4 with fail
  go_quiet (fail)
  go_upto_region 8 with fail
  go_loopw [8, 26] (fun s8 s26 wr => ∃ k : Nat, s8 = .bool false ∧ s26 = .int .i64 k ∧ k ≤ 32 ∧ Hid (Below w.heap.size w wr)) (fun _ s26 _ => 32 - (intOf s26).toNat)
  case atStart => exact ⟨0, rfl, rfl, by omega, below_drewN (Below.refl _ _) _⟩
  case round =>
    obtain ⟨k, rfl, rfl, hk, hB⟩ := hrel
    by_cases hlt : k < 32
    · obtain ⟨c0, c1, c2, c3⟩ := reg_cells H1.out k hlt
      obtain ⟨e0, e1, e2, e3⟩ := reg_cells H2.out k hlt
      have c0 := (hB.out.cell (p := ⟨b, o + 2 + k * 4, none⟩) hb).trans c0
      have c1 := (hB.out.cell (p := ⟨b, o + 2 + k * 4 + 1, none⟩) hb).trans c1
      have c2 := (hB.out.cell (p := ⟨b, o + 2 + k * 4 + 2, none⟩) hb).trans c2
      have c3 := (hB.out.cell (p := ⟨b, o + 2 + k * 4 + 3, none⟩) hb).trans c3
      simp only [Nat.zero_add] at e0 e1 e2 e3
      have e0 := (hB.out.cell (p := ⟨T, 2 + k * 4, none⟩) hT).trans e0
      have e1 := (hB.out.cell (p := ⟨T, 2 + k * 4 + 1, none⟩) hT).trans e1
      have e2 := (hB.out.cell (p := ⟨T, 2 + k * 4 + 2, none⟩) hT).trans e2
      have e3 := (hB.out.cell (p := ⟨T, 2 + k * 4 + 3, none⟩) hT).trans e3
      have hbr : b < wr.heap.size := Nat.lt_of_lt_of_le hb hB.out.size
      have hTr : T < wr.heap.size := Nat.lt_of_lt_of_le hT hB.out.size
      go_upto_region 10 with fail
      go_cut [10] (fun s10 wx => ∃ B, s10 = .pointer (some ⟨B, 0, none⟩) ∧ Hid (Below w.heap.size w wx) ∧ Hid (VB wx B))
      case first =>
        go_region_with (go_at_call 32; refine (hv _).mono ?_; rintro e w1 ⟨rfl, hb1⟩; try (have vb : VB w1 wr.heap.size := vb_old hb1 (by simp); obtain ⟨q0, q1, q2, q3, qf⟩ := VB.facts vb; have f0 := qf 0; have f1 := qf 1; have f2 := qf 2; have f3 := qf 3; clear qf))
        all_goals go_wp2_with fail
        all_goals go_meet
        all_goals first
          | exact ⟨w1.heap.size, rfl, (hB.out.drew.trans (hb1.mono (by simpa using hB.out.size))).alloc (Nat.le_trans hB.out.size (by simpa using hb1.size)) _, alloc_at _ _ _ rfl⟩
          | exact ⟨wr.heap.size, rfl, set4_below hB.out.size ((hB.out.alloc hB.out.size _).drew.trans (hb1.mono (by simp; have := hB.out.size; omega))), VB.set4 vb⟩
      case rest =>
        obtain ⟨B, rfl, HB, HV⟩ := hcut
        clear c0 c1 c2 c3 e0 e1 e2 e3 hbr hTr
        obtain ⟨c0, c1, c2, c3⟩ := reg_cells H1.out k hlt
        have c0 := (HB.out.cell (p := ⟨b, o + 2 + k * 4, none⟩) hb).trans c0
        have c1 := (HB.out.cell (p := ⟨b, o + 2 + k * 4 + 1, none⟩) hb).trans c1
        have c2 := (HB.out.cell (p := ⟨b, o + 2 + k * 4 + 2, none⟩) hb).trans c2
        have c3 := (HB.out.cell (p := ⟨b, o + 2 + k * 4 + 3, none⟩) hb).trans c3
        obtain ⟨q0, q1, q2, q3, _⟩ := VB.facts HV.out
        go_upto_region 11 with fail
        go_quiet (fail)
        go_wp2_with fail
        go_roundw
        case rel => exact ⟨k + 1, rfl, by simp, by omega, below_drewN HB.out _⟩
        case measure => simp [intOf]; omega
    · obtain rfl : k = 32 := by omega
      go_wp2_with fail
      exact bodyPost_ret (v := .tuple #[.bool false, .bool true]) (by simp [results, Yba.results18, go_sem]) rfl ⟨rfl, hB.out⟩
end Go.Proofs.Ybulkfqak
