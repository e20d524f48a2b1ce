import Derived.Test.YbulkfqakLNext
namespace Go.Proofs.Ybulkfqak
open Go.RowKit Go.Shelf
def zc7 (c : Nat) : Value :=
  match c with
  | 0 => .int .u32 0
  | 1 => .int .u8 0
  | 2 => .int .u8 0
  | 3 => .int .i64 0
  | 4 => .int .i64 0
  | 5 => .int .i64 0
  | _ => .bool false
/-- the accesses that were there before -/
def preF (k i : Nat) : Value := if i % 7 = 0 ∧ i / 7 < k then .int .u32 ((1000 + i / 7 : Nat) : Int) else zc7 (i % 7)
theorem preF_at (k : Nat) : preF k (k * 7) = .int .u32 0 := by
  unfold preF
  rw [if_neg (by omega), show k * 7 % 7 = 0 by omega]
  rfl
theorem preF_next (k i : Nat) : (if i = k * 7 then Value.int .u32 ((1000 + k : Nat) : Int) else preF k i) = preF (k + 1) i := by
  unfold preF
  by_cases e : i = k * 7
  · subst e
    rw [if_pos rfl, if_pos (by omega), show k * 7 / 7 = k by omega]
  · rw [if_neg e]
    by_cases h : i % 7 = 0 ∧ i / 7 < k
    · rw [if_pos h, if_pos (by omega)]
    · rw [if_neg h, if_neg (by omega)]
end Go.Proofs.Ybulkfqak
