import Derived.Test.YbulkfqbmWInt
namespace Go.Proofs.Ybulkfqbm
open Go.RowKit

set_option maxHeartbeats 400000 in
theorem ncmp_nil (a b : Option Addr) (c d : Nat) (w : World) : Calls Yba.prog 23 #[.slice a 0 c, .slice b 0 d] w fun e w' => e = .returned (.int .i64 0) ∧ ∃ k, w' = w.drewN k := by
  go_enter Yba.func23, Yba.ntmps23
  go_wp2_with fail
  go_ret
  exact ⟨rfl, 0, rfl⟩

set_option maxRecDepth 100000 in
set_option maxHeartbeats 1000000 in
theorem ncmp_any (A B c d : Nat) (ws : List Int) (w : World) (h0 : 0 < ws.length) (hl : ws.length ≤ 200000) (hA : ∀ j, j < ws.length → w.cell? ⟨A, j, none⟩ = some (.int .u64 (wAt ws j))) (hB : ∀ j, j < ws.length → w.cell? ⟨B, j, none⟩ = some (.int .u64 (wAt ws j))) :
    Calls Yba.prog 23 #[.slice (some ⟨A, 0, none⟩) ws.length c, .slice (some ⟨B, 0, none⟩) ws.length d] w fun e w' => e = .returned (.int .i64 0) ∧ ∃ k, w' = w.drewN k := by
  have HA : Hid _ := hA
  have HB : Hid _ := hB
  clear hA hB
  have hb0 : ((ws.length : Int) == 0) = false := beq_eq_false_iff_ne.2 (by omega)
  go_enter Yba.func23, Yba.ntmps23
  go_wp2_with fail
  go_loopw [7] (fun t wr => ∃ m k : Nat, m < ws.length ∧ t = .int .i64 m ∧ wr = w.drewN k) (fun t _ => (intOf t).toNat)
  case atStart => exact ⟨ws.length - 1, 0, by omega, by go_num, rfl⟩
  case round =>
    obtain ⟨m, k, hm, rfl, rfl⟩ := hrel
    have ca := HA.out m hm
    have cb := HB.out m hm
    by_cases h : 0 < m
    · have hg : (0 : Int) < (m : Int) := by omega
      have hm2 : (m : Int) < (ws.length : Int) := by omega
      go_wp2_with fail
      go_quiet (fail)
      go_wp2_with fail
      go_roundw
      case rel => exact ⟨m - 1, _, by omega, by go_num, rfl⟩
      case measure => simp [intOf]; omega
    · have e : m = 0 := by omega
      subst e
      go_wp2_with fail
      go_quiet (fail)
      go_wp2_with fail
      go_quiet (fail)
      go_wp2_with fail
      go_quiet (fail)
      go_wp2_with fail
      go_ret
      exact ⟨rfl, by simp only [World.drewN_drewN]; exact ⟨_, rfl⟩⟩

theorem ncmp_all (u v : Value) (ws : List Int) (b1 b2 : Nat) (w : World) (hu : NatIs b1 w u ws) (hv : NatIs b2 w v ws) (hl : ws.length ≤ 200000) :
    Calls Yba.prog 23 #[u, v] w fun e w' => e = .returned (.int .i64 0) ∧ ∃ k, w' = w.drewN k := by
  obtain ⟨a, c, rfl, hu⟩ := hu
  obtain ⟨b, d, rfl, hv⟩ := hv
  by_cases h0 : 0 < ws.length
  · obtain ⟨A, rfl, _, _, hA⟩ := hu h0
    obtain ⟨B, rfl, _, _, hB⟩ := hv h0
    exact ncmp_any A B c d ws w h0 hl hA hB
  · have e : ws.length = 0 := by omega
    rw [e]
    exact ncmp_nil a b c d w

set_option maxRecDepth 100000 in
set_option maxHeartbeats 1000000 in
/-- 'x.Cmp(y)' of two that hold the same number -/
theorem iCmp (X Y b1 b2 : Nat) (neg : Bool) (u v : Value) (ws : List Int) (w : World) (hXY : X ≠ Y) (hX : Blk w X #[.bool neg, u] 32) (hY : Blk w Y #[.bool neg, v] 32) (hu : NatIs b1 w u ws) (hv : NatIs b2 w v ws) (hl : ws.length ≤ 200000) :
    Calls Yba.prog 10 #[.pointer (some ⟨X, 0, none⟩), .pointer (some ⟨Y, 0, none⟩)] w fun e w' => e = .returned (.int .i64 0) ∧ ∃ k, w' = w.drewN k := by
  have hq := eql_other w X Y _ _ hXY hX hY
  have HC : Hid (∀ k m, Calls Yba.prog 23 #[u, v] (w.drewN (k + m)) fun e w' => e = .returned (.int .i64 0) ∧ ∃ n, w' = w.drewN (k + n)) := fun k m =>
    (ncmp_all u v ws b1 b2 (w.drewN (k + m)) hu hv hl).mono fun e w' ⟨he, q, hq⟩ => ⟨he, m + q, by rw [hq, World.drewN_drewN, Nat.add_assoc]⟩
  have x0 := hX.cell 0
  have x1 := hX.cell 1
  have y0 := hY.cell 0
  have y1 := hY.cell 1
  simp at x0 x1 y0 y1
  obtain ⟨a, c, rfl, _⟩ := hu
  obtain ⟨b, d, rfl, _⟩ := hv
  clear hX hY
  cases neg
  all_goals
    go_enter Yba.func10, Yba.ntmps10
    go_wp2_with fail
    go_quiet (fail)
    go_wp2_with fail
    go_quiet ((go_at_call 23; exact HC.out _ _))
    go_wp2_with fail
    go_ret
    exact ⟨rfl, _, rfl⟩
end Go.Proofs.Ybulkfqbm
