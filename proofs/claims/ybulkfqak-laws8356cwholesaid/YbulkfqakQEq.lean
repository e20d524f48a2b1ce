import Derived.Test.YbulkfqakQSmall
namespace Go.Proofs.Ybulkfqak
open Go.RowKit

theorem JRow.get {w : World} {B : Nat} {q : Option Addr} {n : Nat} {f : Nat → Nat} (h : JRow w B q n f) {i : Nat} (hi : i < n) : ∃ b, q = some ⟨b, 0, none⟩ ∧ w.cell? ⟨b, i, none⟩ = some (.int .i32 ((f i : Nat) : Int)) := by
  rcases h with ⟨_, h⟩ | ⟨b, h, _, hr⟩
  · omega
  · exact ⟨b, h, hr.cell hi⟩

set_option maxRecDepth 100000 in
set_option maxHeartbeats 1600000 in
theorem equal_same (q1 q2 : Option Addr) (B1 B2 n : Nat) (f : Nat → Nat) (w : World) (hn : n ≤ 1048576) (h1 : JRow w B1 q1 n f) (h2 : JRow w B2 q2 n f) :
    Calls Yba.prog 13 #[.slice q1 n n, .slice q2 n n] w fun e w' => e = .returned (.bool true) ∧ ∃ m, w' = w.drewN m := by
  have H : Hid (JRow w B1 q1 n f ∧ JRow w B2 q2 n f) := ⟨h1, h2⟩
  clear h1 h2
  go_enter Yba.func13, Yba.ntmps13
  go_upto_region 4 with fail
  go_loopw [13] (fun s13 wr => ∃ k m : Nat, s13 = .int .i64 (k : Int) ∧ k ≤ n ∧ wr = w.drewN m) (fun s13 _ => n - (intOf s13).toNat)
  case atStart => exact ⟨0, 0, rfl, by omega, rfl⟩
  case round =>
    obtain ⟨k, m, rfl, hk, rfl⟩ := hrel
    by_cases hlt : k < n
    · obtain ⟨b1, rfl, c1⟩ := H.out.1.get hlt
      obtain ⟨b2, rfl, c2⟩ := H.out.2.get hlt
      have hlt' : (k : Int) < (n : Int) := by omega
      go_upto_region 6 with fail
      go_quiet (fail)
      go_wp2_with fail
      go_roundw
      case rel => exact ⟨k + 1, _, by simp, by omega, rfl⟩
      case measure => simp [intOf]; omega
    · obtain rfl : k = n := by omega
      have hlt' : ¬ (k : Int) < (k : Int) := by omega
      go_wp2_with fail
      go_ret
      exact ⟨rfl, m, rfl⟩
end Go.Proofs.Ybulkfqak
