import Derived.Test.YbulkfqbmWBytes
namespace Go.Proofs.Ybulkfqbm
open Go.RowKit

set_option maxHeartbeats 400000 in
theorem norm_nil (w : World) : Calls Yba.prog 28 #[.slice none 0 0] w fun e w' => e = .returned (.slice none 0 0) ∧ w' = w := by
  go_enter Yba.func28, Yba.ntmps28
  go_wp2
  refine wp_loop_rounds 1 ?_
  rw [rounds_succ]
  go_wp2
  go_ret
  exact ⟨rfl, rfl⟩

set_option maxHeartbeats 400000 in
theorem norm_any (B n cap : Nat) (f : Nat → Int) (w : World) (hn : n ≤ 200000) (hcap : n ≤ cap) (hc : ∀ j, j < n → w.cell? ⟨B, j, none⟩ = some (.int .u64 (f j))) :
    Calls Yba.prog 28 #[.slice (some ⟨B, 0, none⟩) n cap] w fun e w' => ∃ m, m ≤ n ∧ e = .returned (.slice (some ⟨B, 0, none⟩) m cap) ∧ (∀ j, m ≤ j → j < n → f j = 0) ∧ (m = 0 ∨ f (m - 1) ≠ 0) ∧ w' = w := by
  have HC : Hid _ := hc
  clear hc
  go_enter Yba.func28, Yba.ntmps28
  go_wp2
  go_loop [3] (fun t => ∃ m : Nat, m ≤ n ∧ t = .int .i64 m ∧ Hid (∀ j, m ≤ j → j < n → f j = 0)) (fun t => (intOf t).toNat)
  case atStart => exact ⟨n, Nat.le_refl _, rfl, fun j h1 h2 => by omega⟩
  case round =>
    obtain ⟨m, hm, rfl, hz⟩ := hrel
    by_cases h0 : m = 0
    · subst h0
      go_wp2
      go_ret
      exact ⟨0, Nat.zero_le _, rfl, hz, .inl rfl, rfl⟩
    · have hcm := HC.out (m - 1) (by omega)
      have e1 : ((m : Int) - 1).toNat = m - 1 := by omega
      have hg : (0 : Int) < m := by omega
      by_cases hf : f (m - 1) = 0
      · have hfb : (f (m - 1) == 0) = true := by simp [hf]
        have HF : Hid (f (m - 1) = 0) := hf
        clear hf
        go_wp2
        go_round
        case rel => exact ⟨m - 1, by omega, by go_num, fun j h1 h2 => by
          by_cases e : j = m - 1
          · subst e; exact HF
          · exact hz.out j (by omega) h2⟩
        case measure => simp [intOf]; omega
      · have hfb : (f (m - 1) == 0) = false := by simp [hf]
        have HF : Hid (f (m - 1) ≠ 0) := hf
        clear hf
        go_wp2
        go_ret
        exact ⟨m, hm, rfl, hz, .inr HF, rfl⟩
end Go.Proofs.Ybulkfqbm
