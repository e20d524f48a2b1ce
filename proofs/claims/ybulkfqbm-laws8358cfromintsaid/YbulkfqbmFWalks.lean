import Derived.Test.YbulkfqbmRows
import Derived.WalkKit
import Derived.WalkSpells
import Derived.WalkLawsBesides
import Derived.Deep.RegionWith
namespace Go.Proofs.Ybulkfqbm
open Go.RowKit

theorem wrap_u64 (n : Int) : IntKind.u64.wrap n = n % 18446744073709551616 := by
  simp [IntKind.wrap, IntKind.signed, IntKind.bits]
theorem mag_neg (n : Int) (h0 : -9223372036854775808 ≤ n) (hn : n < 0) : IntKind.u64.wrap (-IntKind.u64.wrap n) ≠ 0 := by
  rw [wrap_u64, wrap_u64]; omega
theorem mag_pos (n : Int) (h1 : n ≤ 9223372036854775807) (hn : 0 < n) : IntKind.u64.wrap n ≠ 0 := by
  rw [wrap_u64]; omega
theorem mag_zero : IntKind.u64.wrap 0 = 0 := rfl

set_option maxHeartbeats 400000 in
theorem magnitude_any (n : Int) (w : World) (h0 : -9223372036854775808 ≤ n) (h1 : n ≤ 9223372036854775807) :
    Calls Yba.prog 25 #[.int .i64 n] w fun e w' => ∃ m : Int, e = .returned (.int .u64 m) ∧ (m = 0 ↔ n = 0) ∧ w' = w := by
  by_cases hn : n < 0
  · have hm := mag_neg n h0 hn
    clear h0 h1
    have HM : Hid _ := hm
    clear hm
    go_enter Yba.func25, Yba.ntmps25
    go_wp2
    go_ret
    exact ⟨_, rfl, ⟨fun e => absurd e HM, fun e => by omega⟩, rfl⟩
  · have HM : Hid (IntKind.u64.wrap n = 0 ↔ n = 0) := ⟨fun e => by
      by_cases hz : n = 0
      · exact hz
      · exact absurd e (mag_pos n h1 (by omega)), fun e => by rw [e]; rfl⟩
    clear h0 h1
    go_enter Yba.func25, Yba.ntmps25
    go_wp2
    go_ret
    exact ⟨_, rfl, HM, rfl⟩

set_option maxHeartbeats 400000 in
theorem isZero_yes (w : World) :
    Calls Yba.prog 22 #[.agg #[.int .u64 0, .int .u64 0]] w fun e w' => e = .returned (.bool true) ∧ w' = w.alloc (.cells #[.int .u64 0, .int .u64 0] 25) := by
  go_enter Yba.func22, Yba.ntmps22
  go_wp2
  go_ret
  exact ⟨rfl, rfl⟩

set_option maxHeartbeats 400000 in
theorem isZero_no (lo : Int) (w : World) (h : (lo == 0) = false) :
    Calls Yba.prog 22 #[.agg #[.int .u64 0, .int .u64 lo]] w fun e w' => e = .returned (.bool false) ∧ w' = w.alloc (.cells #[.int .u64 0, .int .u64 lo] 25) := by
  go_enter Yba.func22, Yba.ntmps22
  go_wp2
  go_ret
  exact ⟨rfl, rfl⟩

/-- a Decimal whose coefficient is held inline -/
def dec (hi lo : Int) (scale : Int) (neg : Bool) : Value := .agg #[.int .u64 hi, .int .u64 lo, .pointer none, .int .i32 scale, .bool neg]

theorem wrap_i32_0 : IntKind.i32.wrap 0 = 0 := rfl

set_option maxHeartbeats 400000 in
theorem inline_pos (lo : Int) (w : World) :
    Calls Yba.prog 24 #[.bool false, .agg #[.int .u64 0, .int .u64 lo], .int .i64 0] w fun e w' => e = .returned (dec 0 lo 0 false) ∧ Below w.heap.size w w' := by
  go_enter Yba.func24, Yba.ntmps24
  go_wp2_with fail
  go_region_with (fail)
  all_goals
    go_wp2_with fail
    exact bodyPost_ret (v := dec 0 lo 0 false) (by simp [results, Yba.results24, go_sem, dec, wrap_i32_0]) rfl ⟨rfl, (((Below.refl _ _).alloc (Nat.le_refl _) _).alloc (by simp) _).drew⟩

set_option maxHeartbeats 400000 in
theorem inline_neg (lo : Int) (w : World) (h : (lo == 0) = false) :
    Calls Yba.prog 24 #[.bool true, .agg #[.int .u64 0, .int .u64 lo], .int .i64 0] w fun e w' => e = .returned (dec 0 lo 0 true) ∧ Below w.heap.size w w' := by
  go_enter Yba.func24, Yba.ntmps24
  go_wp2_with fail
  go_region_with (go_at_call 22; refine (isZero_no _ _ h).mono ?_; rintro e w' ⟨rfl, rfl⟩)
  all_goals
    go_wp2_with fail
    exact bodyPost_ret (v := dec 0 lo 0 true) (by simp [results, Yba.results24, go_sem, dec, wrap_i32_0]) rfl ⟨rfl, ((((Below.refl _ _).alloc (Nat.le_refl _) _).alloc (by simp) _).alloc (by simp; omega) _).drew⟩

set_option maxHeartbeats 400000 in
theorem inline_zero (w : World) :
    Calls Yba.prog 24 #[.bool true, .agg #[.int .u64 0, .int .u64 0], .int .i64 0] w fun e w' => e = .returned (dec 0 0 0 false) ∧ Below w.heap.size w w' := by
  go_enter Yba.func24, Yba.ntmps24
  go_wp2_with fail
  go_region_with (go_at_call 22; refine (isZero_yes _).mono ?_; rintro e w' ⟨rfl, rfl⟩)
  all_goals
    go_wp2_with fail
    exact bodyPost_ret (v := dec 0 0 0 false) (by simp [results, Yba.results24, go_sem, dec, wrap_i32_0]) rfl ⟨rfl, ((((Below.refl _ _).alloc (Nat.le_refl _) _).alloc (by simp) _).alloc (by simp; omega) _).drew⟩
end Go.Proofs.Ybulkfqbm
