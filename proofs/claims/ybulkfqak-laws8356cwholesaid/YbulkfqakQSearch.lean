import Derived.Test.YbulkfqakQSmall
namespace Go.Proofs.Ybulkfqak
open Go.RowKit

theorem nan37 (x : Int) (w : World) : Calls Yba.prog 37 #[.int .u32 x] w fun e w' => e = .returned (.bool false) ∧ w' = w := by
  go_enter Yba.func37, Yba.ntmps37
  go_wp2_with fail
  go_ret
  exact ⟨rfl, rfl⟩
theorem nan20 (x : Int) (w : World) : Calls Yba.prog 20 #[.int .u32 x] w fun e w' => e = .returned (.bool false) ∧ w' = w := by
  go_enter Yba.func20, Yba.ntmps20
  go_wp2_with fail
  go_ret
  exact ⟨rfl, rfl⟩
set_option maxHeartbeats 400000 in
theorem less_any (x y : Int) (w : World) : Calls Yba.prog 19 #[.int .u32 x, .int .u32 y] w fun e w' => e = .returned (.bool (decide (x < y))) ∧ w' = w := by
  go_enter Yba.func19, Yba.ntmps19
  go_wp2_with fail
  refine (nan37 x w).mono ?_
  rintro e w1 ⟨rfl, rfl⟩
  go_wp2_with fail
  go_ret
  exact ⟨rfl, rfl⟩

set_option maxRecDepth 100000 in
set_option maxHeartbeats 1000000 in
theorem search_any (b n s : Nat) (w : World) (hn : n ≤ 65536) (hs : s ≤ n) (hr : w.rowIs b 40 n (fun i => .int .u32 ((3 * i : Nat) : Int))) :
    Calls Yba.prog 14 #[.slice (some ⟨b, 0, none⟩) n n, .int .u32 ((3 * s : Nat) : Int)] w fun e w' => ∃ f, e = .returned (.tuple #[.int .i64 (s : Int), .bool f]) ∧ w' = w := by
  have HR : Hid (w.rowIs b 40 n (fun i => .int .u32 ((3 * i : Nat) : Int))) := hr
  clear hr
  generalize hT : ((3 * s : Nat) : Int) = T
  go_enter Yba.func14, Yba.ntmps14
  go_upto_region 3 with fail
  go_loop [7, 8] (fun s7 s8 => ∃ lo hi : Nat, s7 = .int .i64 (lo : Int) ∧ s8 = .int .i64 (hi : Int) ∧ lo ≤ s ∧ s ≤ hi ∧ hi ≤ n) (fun s7 s8 => (intOf s8).toNat - (intOf s7).toNat)
  case atStart => exact ⟨0, n, rfl, rfl, by omega, by omega, by omega⟩
  case round =>
    obtain ⟨lo, hi, rfl, rfl, h1, h2, h3⟩ := hrel
    by_cases hlt : lo < hi
    · have hlt' : (lo : Int) < (hi : Int) := by omega
      have hm : (lo + hi) / 2 < n := by omega
      have hc := HR.out.cell hm
      go_wp2_with fail
      refine (less_any _ _ w).mono ?_
      rintro e w1 ⟨rfl, rfl⟩
      by_cases hms : (lo + hi) / 2 < s
      · have hd : decide (3 * (((lo : Int) + (hi : Int)) / 2) < T) = true := decide_eq_true (by omega)
        rw [hd]
        go_wp2_with fail
        go_round
        case rel => exact ⟨(lo + hi) / 2 + 1, hi, by go_num, rfl, by omega, by omega, by omega⟩
        case measure => simp [intOf]; omega
      · have hd : decide (3 * (((lo : Int) + (hi : Int)) / 2) < T) = false := decide_eq_false (by omega)
        rw [hd]
        go_wp2_with fail
        go_round
        case rel => exact ⟨lo, (lo + hi) / 2, rfl, by go_num, by omega, by omega, by omega⟩
        case measure => simp [intOf]; omega
    · have hlt' : ¬ (lo : Int) < (hi : Int) := by omega
      obtain rfl : lo = s := by omega
      by_cases hln : lo < n
      · have hc := HR.out.cell hln
        rw [hT] at hc
        have hl : (lo : Int) < (n : Int) := by omega
        go_wp2_with fail
        exact bodyPost_ret (v := .tuple #[.int .i64 (lo : Int), .bool true]) (by simp [results, Yba.results14, go_sem]) rfl ⟨Or.inr rfl, rfl⟩
      · have hl : ¬ (lo : Int) < (n : Int) := by omega
        go_wp2_with fail
        exact bodyPost_ret (v := .tuple #[.int .i64 (lo : Int), .bool false]) (by simp [results, Yba.results14, go_sem]) rfl ⟨Or.inl rfl, rfl⟩
end Go.Proofs.Ybulkfqak
