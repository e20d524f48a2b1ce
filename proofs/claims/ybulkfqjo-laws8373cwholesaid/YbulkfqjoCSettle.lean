import Derived.Test.YbulkfqjoCExit
namespace Go.Proofs.Ybulkfqjo
open Go.RowKit

set_option maxHeartbeats 400000 in
theorem settle_ended (B : Nat) (np dv bv : Value) (w : World) (h : SimAt w B np true dv bv) :
    Calls Yba.prog 5 #[.pointer (some ⟨B, 0, none⟩)] w fun e w' => e = .returned (.tuple #[]) ∧ w' = w := by
  obtain ⟨cs, h0, hs, h5, h25, h29, h30⟩ := h
  have c25 := (cell_blk h0 25).trans h25
  clear h0 hs h5 h25 h29 h30
  go_enter Yba.func5, Yba.ntmps5
  go_wp2_with fail
  refine bodyPost_ret (results_none rfl _ _ _) rfl ?_
  exact ⟨rfl, rfl⟩

set_option maxHeartbeats 400000 in
theorem settle_bare (B : Nat) (dv bv : Value) (w : World) (h : SimAt w B (.pointer none) false dv bv) :
    Calls Yba.prog 5 #[.pointer (some ⟨B, 0, none⟩)] w fun e w' => e = .returned (.tuple #[]) ∧ w' = w := by
  obtain ⟨cs, h0, hs, h5, h25, h29, h30⟩ := h
  have c25 := (cell_blk h0 25).trans h25
  have c5 := (cell_blk h0 5).trans h5
  clear h0 hs h5 h25 h29 h30
  go_enter Yba.func5, Yba.ntmps5
  go_wp2_with fail
  refine bodyPost_ret (results_none rfl _ _ _) rfl ?_
  exact ⟨rfl, rfl⟩

set_option maxHeartbeats 400000 in
theorem settle_busy (B N : Nat) (dv bv lv : Value) (w : World) (h : SimAt w B (.pointer (some ⟨N, 0, none⟩)) false dv bv) (hn : NodeAt w N false lv) :
    Calls Yba.prog 5 #[.pointer (some ⟨B, 0, none⟩)] w fun e w' => e = .returned (.tuple #[]) ∧ w' = w := by
  obtain ⟨cs, h0, hs, h5, h25, h29, h30⟩ := h
  obtain ⟨ds, n0, _, n13, n18⟩ := hn
  have c25 := (cell_blk h0 25).trans h25
  have c5 := (cell_blk h0 5).trans h5
  have d18 := (cell_blk n0 18).trans n18
  clear h0 hs h5 h25 h29 h30 n0 n13 n18
  go_enter Yba.func5, Yba.ntmps5
  go_wp2_with fail
  refine bodyPost_ret (results_none rfl _ _ _) rfl ?_
  exact ⟨rfl, rfl⟩

set_option maxRecDepth 100000 in
set_option maxHeartbeats 400000 in
theorem settle_fires (B N : Nat) (lp dp bp : Option Addr) (M : Nat → Nat) (lb : Nat → Nat) (lk : Nat → Bool) (E : Nat → Nat → Nat) (C : Nat → Nat → Bool) (I : Nat → Nat → Value) (w : World)
    (hM : M 0 + M 1 + M 2 ≤ 1048576) (h : Whole w B N false true lp dp bp M lb lk E C I) :
    Calls Yba.prog 5 #[.pointer (some ⟨B, 0, none⟩)] w fun e w' => e = .returned (.tuple #[]) ∧ SimAt w' B (.pointer (some ⟨N, 0, none⟩)) true (.slice none 0 0) (.slice none 0 0) ∧ NodeAt w' N true (.slice none 0 0) ∧
      (∀ i, i < M 0 → LinkAt w' (lb i) (E 0 i) false) ∧ (∀ g i, g < 3 → i < M g → EndAt w' (E g i) true (shut (C g i) (I g i))) ∧ Chg (Mine B N M lb E) w w' := by
  have hx := exit_any B N true lp dp bp M lb lk E C I w hM h
  obtain ⟨cs, h0, hs, h5, h25, h29, h30⟩ := h.sim
  obtain ⟨ds, n0, _, n13, n18⟩ := h.node
  have c25 := (cell_blk h0 25).trans h25
  have c5 := (cell_blk h0 5).trans h5
  have d18 := (cell_blk n0 18).trans n18
  clear h0 hs h5 h25 h29 h30 n0 n13 n18 h
  go_enter Yba.func5, Yba.ntmps5
  go_wp2_with fail
  refine hx.mono ?_
  rintro e w' ⟨rfl, hh⟩
  have HH : Hid _ := hh
  clear hh hx
  go_wp2_with fail
  go_end0
  exact ⟨rfl, HH⟩
end Go.Proofs.Ybulkfqjo
