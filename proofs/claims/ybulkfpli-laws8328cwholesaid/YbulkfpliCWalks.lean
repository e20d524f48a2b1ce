import Derived.Test.YbulkfpliRows
import Derived.WalkKit
import Derived.WalkSpells
import Derived.WalkLawsBesides
import Derived.Maps.OwnSet
import Derived.Maps.StringElems
namespace Go.Proofs.Ybulkfpli
open Go.RowKit

/-- 'vals[i]', or the empty string past its end. -/
def valAt (vs : List ByteArray) (i : Nat) : ByteArray := vs.getD i ByteArray.empty

/-- 'v' is a slice of strings in world 'w' whose elements are 'ss'. -/
def StrSl (w : World) (v : Value) (ss : List ByteArray) : Prop :=
  ∃ (a : Option Addr) (cap : Nat), v = .slice a ss.length cap ∧ (0 < ss.length → ∃ b off, a = some ⟨b, off, none⟩ ∧ b < w.heap.size ∧ ∀ j, j < ss.length → w.cell? ⟨b, off + j, none⟩ = some (.string (valAt ss j)))

theorem StrSl.below {w w' : World} {v : Value} {ss : List ByteArray} (h : StrSl w v ss) (hb : Below w.heap.size w w') : StrSl w' v ss := by
  obtain ⟨a, cap, rfl, h⟩ := h
  refine ⟨a, cap, rfl, fun h0 => ?_⟩
  obtain ⟨b, off, rfl, hbl, hc⟩ := h h0
  exact ⟨b, off, rfl, Nat.lt_of_lt_of_le hbl hb.size, fun j hj => (hb.cell (p := ⟨b, off + j, none⟩) hbl).trans (hc j hj)⟩

theorem str_beq (a b : ByteArray) : (a.toList == b.toList) = decide (a = b) := by
  rw [ByteArray.toList_eq, ByteArray.toList_eq]
  by_cases h : a = b
  · subst h; simp
  · have h2 : ¬ a.data = b.data := fun e => h (by cases a; cases b; simpa using e)
    simp [h, h2]
theorem str_ne {a b : ByteArray} (h : ¬ a = b) : (a.toList == b.toList) = false := by rw [str_beq]; simp [h]

set_option maxHeartbeats 400000 in
theorem cval_any (v : Value) (vs : List ByteArray) (i : Nat) (w : World) (hi : i < 4096) (hv : StrSl w v vs) (hl : vs.length < 9000000000000) :
    Calls Yba.prog 4 #[v, .int .i64 i] w fun e w' => e = .returned (.string (valAt vs i)) ∧ w' = w := by
  obtain ⟨a, cap, rfl, hv⟩ := hv
  by_cases hlt : i < vs.length
  · obtain ⟨b, off, rfl, hb, hc⟩ := hv (by omega)
    have hc1 := hc i hlt
    clear hc hv
    generalize valAt vs i = s at hc1 ⊢
    go_enter Yba.func4, Yba.ntmps4
    go_wp2
    go_ret
    exact ⟨rfl, rfl⟩
  · have hs' : valAt vs i = ByteArray.empty := by
      unfold valAt; rw [List.getD, List.getElem?_eq_none (by omega)]; rfl
    rw [hs']
    clear hs' hv
    go_enter Yba.func4, Yba.ntmps4
    go_wp2
    go_ret
    exact ⟨rfl, rfl⟩

/-- the value carried by the last occurrence of 'k' among the first 'n' keys. -/
def lastTo (ks vs : List ByteArray) (k : ByteArray) : Nat → ByteArray
  | 0 => ByteArray.empty
  | n + 1 => if valAt ks n = k then valAt vs n else lastTo ks vs k n

set_option maxHeartbeats 400000 in
theorem clast_any (u v : Value) (ks vs : List ByteArray) (k : ByteArray) (w : World) (hn : ks.length ≤ 4096) (hu : StrSl w u ks) (hv : StrSl w v vs) (hl : vs.length < 9000000000000) :
    Calls Yba.prog 6 #[u, v, .string k] w fun e w' => e = .returned (.string (lastTo ks vs k ks.length)) ∧ w' = w := by
  obtain ⟨a, cap, rfl, hu⟩ := hu
  go_enter Yba.func6, Yba.ntmps6
  go_wp2
  go_loop [7] (fun t => ∃ j : Nat, j ≤ ks.length ∧ t = .int .i64 ((j : Int) - 1) ∧ Hid (lastTo ks vs k ks.length = lastTo ks vs k j)) (fun t => (intOf t + 1).toNat)
  case atStart => exact ⟨ks.length, Nat.le_refl _, rfl, (rfl : _ = _)⟩
  case round =>
    obtain ⟨j, hj, rfl, hlast⟩ := hrel
    cases j with
    | zero =>
      rw [show ((0 : Nat) : Int) - 1 = -1 from rfl]
      go_wp2
      go_ret
      exact ⟨by rw [hlast.out]; rfl, rfl⟩
    | succ j =>
      rw [show ((j + 1 : Nat) : Int) - 1 = (j : Int) from by omega]
      obtain ⟨b, off, rfl, hb, hc⟩ := hu (by omega)
      have hc1 := hc j (by omega)
      clear hc hu
      have hstep : Hid (lastTo ks vs k (j + 1) = if valAt ks j = k then valAt vs j else lastTo ks vs k j) := (rfl : _ = _)
      generalize valAt ks j = s at hc1 hstep
      by_cases hsk : s = k
      · subst hsk
        go_wp2_with (go_at_call 4; refine (cval_any _ vs _ _ (by omega) hv hl).mono ?_; rintro e w' ⟨rfl, rfl⟩)
        go_ret
        exact ⟨by rw [hlast.out, hstep.out]; simp, rfl⟩
      · have hne := str_ne hsk
        go_wp2_with fail
        go_round
        case rel => exact ⟨j, by omega, rfl, by rw [hlast.out, hstep.out, if_neg hsk]; exact (rfl : _ = _)⟩
        case measure => simp [intOf]
end Go.Proofs.Ybulkfpli
