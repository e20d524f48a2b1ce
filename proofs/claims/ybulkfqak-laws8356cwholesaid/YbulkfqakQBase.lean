import Derived.Test.YbulkfqakRows
import Derived.WalkKit
import Derived.WalkSpells
import Derived.WalkLawsBesides
import Derived.WalkSmall
import Derived.OwnWalk
import Derived.Below
import Derived.Deep.OwnRows
import Derived.Deep.MidRow
import Derived.Deep.QuietTactic
import Derived.BigQuiet
import Derived.WideLaws
import Derived.LaidEqlPtr
import Derived.Deep.DeepCutAuto
import Derived.Deep.RegionWith
namespace Go.Proofs.Ybulkfqak
open Go.RowKit

/-- bytes that came in -/
def KAt (w : World) (p : Option Addr) (n : Nat) (g : Nat → Nat) : Prop :=
  (∀ i, g i < 256) ∧ (p = none → n = 0) ∧ (0 < n → ∃ b o, p = some ⟨b, o, none⟩ ∧ b < w.heap.size ∧ ∀ i, i < n → w.cell? ⟨b, o + i, none⟩ = some (.int .u8 ((g i : Nat) : Int)))

theorem KAt.below {w w' : World} {p : Option Addr} {n : Nat} {g : Nat → Nat} {B : Nat} (h : KAt w p n g) (hB : w.heap.size ≤ B) (k : Below B w w') : KAt w' p n g := by
  refine ⟨h.1, h.2.1, fun hn => ?_⟩
  obtain ⟨b, o, hp, hb, hc⟩ := h.2.2 hn
  exact ⟨b, o, hp, Nat.lt_of_lt_of_le hb k.size, fun i hi => (k.cell (p := ⟨b, _, none⟩) (Nat.lt_of_lt_of_le hb hB)).trans (hc i hi)⟩

/-- an instruction's kind -/
def kindOf (n : Nat) (g : Nat → Nat) (k : Nat) : Nat :=
  if n ≤ k then 0 else if g k % 8 = 3 ∨ g k % 8 = 4 then 1 else if g k % 8 = 5 ∨ g k % 8 = 6 then 2 else if g k % 8 = 7 then 3 else 0
theorem kindOf_lt (n : Nat) (g : Nat → Nat) (k : Nat) : kindOf n g k < 4 := by
  unfold kindOf; split <;> (try split) <;> (try split) <;> (try split) <;> omega

set_option maxHeartbeats 1000000 in
theorem kind_any (p : Option Addr) (n cap : Nat) (g : Nat → Nat) (k : Nat) (w : World) (hn : n ≤ 9223372036854775807) (hk : k ≤ 1048576) (h : KAt w p n g) :
    Calls Yba.prog 8 #[.slice p n cap, .int .i64 (k : Int)] w fun e w' => e = .returned (.int .i64 ((kindOf n g k : Nat) : Int)) ∧ w' = w := by
  by_cases hlt : k < n
  · obtain ⟨b, o, rfl, _, hc⟩ := h.2.2 (by omega)
    have hck := hc k hlt
    have hgk := h.1 k
    have hnk : ¬ ((n : Int) ≤ (k : Int)) := by omega
    have hlt' : (k : Int) < (n : Int) := by omega
    clear hc h
    have hm : g k % 8 = 0 ∨ g k % 8 = 1 ∨ g k % 8 = 2 ∨ g k % 8 = 3 ∨ g k % 8 = 4 ∨ g k % 8 = 5 ∨ g k % 8 = 6 ∨ g k % 8 = 7 := by omega
    unfold kindOf
    rw [if_neg (by omega)]
    generalize g k = m at hck hgk hm
    rcases hm with hm | hm | hm | hm | hm | hm | hm | hm
    all_goals (
      have hmi : (m : Int) % 8 = ((m % 8 : Nat) : Int) := by omega
      rw [hm] at hmi ⊢
      go_enter Yba.func8, Yba.ntmps8
      go_wp2_with fail
      go_ret
      exact ⟨rfl, rfl⟩)
  · have hnk : (n : Int) ≤ (k : Int) := by omega
    unfold kindOf
    rw [if_pos (by omega)]
    clear h
    go_enter Yba.func8, Yba.ntmps8
    go_wp2_with fail
    go_ret
    exact ⟨rfl, rfl⟩

/-- an instruction's cells -/
def instCells (op : Int) (down : Bool) : List Value :=
  [.int .i64 3, .int .u8 0, .int .u64 0, .bool false, .int .u8 0, .int .i8 (-1), .int .i8 (-1), .int .u8 0, .int .i64 0, .int .u32 0, .bool false, .bool false, .int .u8 0, .int .i64 0, .int .u8 op,
   .int .i8 (-1), .int .i8 (-1), .int .i8 (-1), .int .u32 0, .int .u32 0, .bool false, .int .i64 0, .int .u8 0, .bool false, .bool down, .slice none 0 0]
def opOf (k : Nat) : Int := if k = 0 then 1 else if k = 1 then 10 else if k = 2 then 11 else 0
def kindCells (k : Nat) : List Value := instCells (opOf k) (decide (k = 3))

theorem size46 : (Yba.prog.info? 46).map (·.size) = some 26 := by kernel_rfl
/-- the cells of an instruction, laid by hand -/
theorem there_new (w : World) (c : Array Value) (t : TypeId) (n : Nat) (hn : n ≤ c.size) : (w.alloc (.cells c t)).there w.heap.size 0 n := by
  intro j hj
  rw [World.cell?_alloc_at _ _ _ _ rfl]
  refine ⟨by simp; omega, ?_⟩
  unfold World.frozen?
  rw [heap_alloc_new]
  simp

end Go.Proofs.Ybulkfqak
