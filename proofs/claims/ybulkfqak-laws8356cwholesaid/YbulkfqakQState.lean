import Derived.Test.YbulkfqakQJoin
namespace Go.Proofs.Ybulkfqak
open Go.RowKit

attribute [-simp] Yba.isAgg95 Yba.sizeOf95

theorem size95 : (Yba.prog.info? 95).map (·.size) = some 130 := by kernel_rfl

/-- the cells of a state: the processor, the depth, 32 registers that hold nothing -/
def zv4 : List Value := [.int .i64 0, .int .i32 0, .int .u8 0, .bool false]
def stCells (A : Nat) (d : Int) : List Value := .pointer (some ⟨A, 0, none⟩) :: .int .i64 d :: (List.replicate 32 zv4).flatten
theorem stCells_length (A : Nat) (d : Int) : (stCells A d).length = 130 := by simp [stCells, zv4]
theorem stCells_one (A : Nat) (d : Int) : (stCells A d).toArray.all (·.oneCell') = true := by
  refine all_oneCell_toArray fun v hv => ?_
  simp only [stCells, List.mem_cons, List.mem_flatten, List.mem_replicate] at hv
  rcases hv with rfl | rfl | ⟨l, ⟨_, rfl⟩, hv⟩
  · rfl
  · rfl
  · simp only [zv4, List.mem_cons, List.not_mem_nil, or_false] at hv
    rcases hv with rfl | rfl | rfl | rfl <;> rfl

set_option maxRecDepth 100000 in
set_option maxHeartbeats 1000000 in
theorem join_first (b o T A : Nat) (d : Int) (w : World) (hT : w.rangeAt T 0 (stCells A d)) (hb : w.there b o 130) :
    Calls Yba.prog 18 #[.pointer (some ⟨b, o, none⟩), .pointer (some ⟨T, 0, none⟩), .bool true] w fun e w' => e = .returned (.tuple #[.bool true, .bool true]) ∧ w' = w.setCells b o (stCells A d) := by
  go_enter Yba.func18, Yba.ntmps18
  go_upto_region 2 with fail
  iterate 11 go_step
  refine wp_load_mid 95 (.tmp 14) rfl T 0 rfl (stCells A d) _ hT Yba.underlying95 rfl (by rw [stCells_length]; exact size95) ?_
  iterate 5 go_step
  refine wp_store_mid 95 (.tmp 16) (.tmp 15) rfl b o _ rfl rfl (by simpa [stCells_length] using hb) (by simpa [stCells_length] using size95) (stCells_one A d) ?_
  go_step
  go_wp2_with fail
  exact bodyPost_ret (v := .tuple #[.bool true, .bool true]) (by simp [results, Yba.results18, go_sem]) rfl ⟨rfl, rfl⟩

set_option maxRecDepth 100000 in
set_option maxHeartbeats 1000000 in
theorem join_apart (b o T : Nat) (d e' : Int) (w : World) (h1 : w.cell? ⟨b, o + 1, none⟩ = some (.int .i64 d)) (h2 : w.cell? ⟨T, 1, none⟩ = some (.int .i64 e')) (hne : d ≠ e') :
    Calls Yba.prog 18 #[.pointer (some ⟨b, o, none⟩), .pointer (some ⟨T, 0, none⟩), .bool false] w fun e w' => e = .returned (.tuple #[.bool false, .bool false]) ∧ ∃ m, w' = w.drewN m := by
  have hq : (d == e') = false := beq_eq_false_iff_ne.2 hne
  go_enter Yba.func18, Yba.ntmps18
  go_upto_region 4 with fail
  go_quiet (fail)
  go_wp2_with fail
  exact bodyPost_ret (v := .tuple #[.bool false, .bool false]) (by simp [results, Yba.results18, go_sem]) rfl ⟨rfl, _, rfl⟩
end Go.Proofs.Ybulkfqak
