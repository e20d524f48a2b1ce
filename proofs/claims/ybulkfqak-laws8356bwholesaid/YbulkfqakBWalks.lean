import Derived.Test.YbulkfqakRows
import Derived.WalkKit
import Derived.WalkSpells
import Derived.WalkLawsBesides
import Derived.Deep.RegionWith
import Derived.LaidEqlPtr
namespace Go.Proofs.Ybulkfqak
open Go.RowKit

/-- all 64 bits -/
def ones : Int := 18446744073709551615
/-- block 'B' of 'w' is a row of cells 'cs', none of them frozen. -/
def Blk (w : World) (B : Nat) (cs : Array Value) (t : TypeId) : Prop := w.heap[B]? = some (.cells cs t)

theorem Blk.cell {w : World} {B : Nat} {cs : Array Value} {t : TypeId} (h : Blk w B cs t) (i : Nat) : w.cell? ⟨B, i, none⟩ = cs[i]? := by
  unfold Blk at h; simp [World.cell?, h]
theorem Blk.frozen {w : World} {B : Nat} {cs : Array Value} {t : TypeId} (h : Blk w B cs t) (i : Nat) : w.frozen? ⟨B, i, none⟩ = false := by
  unfold Blk at h; simp [World.frozen?, h]
theorem Blk.lt {w : World} {B : Nat} {cs : Array Value} {t : TypeId} (h : Blk w B cs t) : B < w.heap.size :=
  (Array.getElem?_eq_some_iff.1 h).1
theorem Blk.set {w : World} {B : Nat} {cs : Array Value} {t : TypeId} (h : Blk w B cs t) (i : Nat) (v : Value) : Blk (w.setCell ⟨B, i, none⟩ v) B (cs.setIfInBounds i v) t := by
  unfold Blk at *
  simp [World.setCell, Array.getElem?_modify, h]
theorem Blk.setOther {w : World} {B : Nat} {cs : Array Value} {t : TypeId} (h : Blk w B cs t) {a : Addr} (ha : B ≠ a.block) (v : Value) : Blk (w.setCell a v) B cs t :=
  (Below.heap_setCell w a v B ha).trans h
theorem Blk.new (w : World) (cs : Array Value) (t : TypeId) : Blk (w.alloc (.cells cs t)) w.heap.size cs t := Array.getElem?_push_size

/-- the cells of a set of which the first 'k' words are all ones, the others 0. -/
def part (k : Nat) : List Value := List.replicate k (.int .u64 ones) ++ List.replicate (32 - k) (.int .u64 0)

theorem part_len (k : Nat) (h : k ≤ 32) : (part k).length = 32 := by simp [part]; omega
theorem part_lo {k i : Nat} (h : i < k) : (part k)[i]? = some (.int .u64 ones) := by
  unfold part
  rw [List.getElem?_append_left (by simpa using h), List.getElem?_replicate, if_pos h]
theorem part_hi {k i : Nat} (h : k ≤ i) (h2 : i < 32) : (part k)[i]? = some (.int .u64 0) := by
  unfold part
  rw [List.getElem?_append_right (by simpa using h), List.getElem?_replicate, if_pos (by simp; omega)]
theorem part_set (k : Nat) (h : k < 32) : (part k).toArray.setIfInBounds k (.int .u64 ones) = (part (k + 1)).toArray := by
  rw [List.setIfInBounds_toArray]
  congr 1
  apply List.ext_getElem?
  intro i
  by_cases h1 : i = k
  · subst h1
    rw [List.getElem?_set_self (by rw [part_len i (by omega)]; exact h), part_lo (Nat.lt_succ_self _)]
  · rw [List.getElem?_set_ne (fun e => h1 e.symm)]
    by_cases h2 : i < k
    · rw [part_lo h2, part_lo (by omega)]
    · by_cases h3 : i < 32
      · rw [part_hi (by omega) h3, part_hi (by omega) h3]
      · rw [List.getElem?_eq_none (by rw [part_len k (by omega)]; omega), List.getElem?_eq_none (by rw [part_len (k + 1) (by omega)]; omega)]

set_option maxHeartbeats 400000 in
theorem every_any (w : World) :
    Calls Yba.prog 5 #[] w fun e w' => e = .returned (.pointer (some ⟨w.heap.size, 0, none⟩)) ∧ Blk w' w.heap.size (part 32).toArray 80 ∧ Below w.heap.size w w' ∧ w'.heap.size = w.heap.size + 1 := by
  go_enter Yba.func5, Yba.ntmps5
  go_wp2
  go_loopw [4] (fun i wr => ∃ k : Nat, k ≤ 32 ∧ i = .int .i64 k ∧ Blk wr w.heap.size (part k).toArray 80 ∧ Below w.heap.size w wr ∧ Hid (wr.heap.size = w.heap.size + 1)) (fun i _ => 32 - (intOf i).toNat)
  case atStart => exact ⟨0, Nat.zero_le _, rfl, Blk.new w _ 80, (Below.refl _ _).alloc (Nat.le_refl _) _, World.size_alloc _ _⟩
  case round =>
    obtain ⟨k, hk, rfl, hB, hbl, hsz⟩ := hrel
    by_cases hlt : k < 32
    · have hc := hB.cell k
      have hf := hB.frozen k
      rw [List.getElem?_toArray, part_hi (Nat.le_refl _) hlt] at hc
      have HB : Hid (Blk wr w.heap.size (part k).toArray 80) := hB
      have HL : Hid (Below w.heap.size w wr) := hbl
      clear hB hbl
      go_wp2
      go_roundw
      case rel => exact ⟨k + 1, by omega, by go_num, part_set k hlt ▸ Blk.set HB k (.int .u64 ones), Below.setCell HL (Nat.le_refl _) _, (World.size_setCell _ _ _).trans hsz⟩
      case measure => simp [intOf]; omega
    · have : k = 32 := by omega
      subst this
      go_wp2
      go_ret
      exact ⟨rfl, hB, hbl, hsz⟩

theorem u64_max_beq : ((ones : Int) != 18446744073709551615) = false := by decide

set_option maxHeartbeats 400000 in
theorem ball_any (w : World) (B : Nat) (hB : Blk w B (part 32).toArray 80) :
    Calls Yba.prog 6 #[.pointer (some ⟨B, 0, none⟩)] w fun e w' => e = .returned (.bool true) ∧ w' = w := by
  have hcs : Hid (∀ i, i < 32 → w.cell? ⟨B, i, none⟩ = some (.int .u64 ones)) := fun i hi => by
    rw [hB.cell i, List.getElem?_toArray, part_lo hi]
  have hu := u64_max_beq
  clear hB
  go_enter Yba.func6, Yba.ntmps6
  go_wp2
  go_loop [3] (fun i => ∃ k : Nat, k ≤ 32 ∧ i = .int .i64 k) (fun i => 32 - (intOf i).toNat)
  case atStart => exact ⟨0, Nat.zero_le _, rfl⟩
  case round =>
    obtain ⟨k, hk, rfl⟩ := hrel
    by_cases hlt : k < 32
    · have hc := hcs.out k hlt
      go_wp2
      go_round
      case rel => exact ⟨k + 1, by omega, by go_num⟩
      case measure => simp [intOf]; omega
    · have : k = 32 := by omega
      subst this
      go_wp2
      go_ret
      exact ⟨rfl, rfl⟩

theorem words_any (w : World) : Calls Yba.prog 7 #[] w fun e w' => e = .returned (.int .i64 32) ∧ w' = w := by
  go_enter Yba.func7, Yba.ntmps7
  go_wp2
  go_ret
  exact ⟨rfl, rfl⟩
theorem size80 : (Yba.prog.info? 80).map (fun i => i.size) = some 32 := by kernel_rfl
/-- 'a == b' at two pointers to sets of blocks that lie apart. -/
theorem ptr_other (w : World) (A B : Nat) (cs ds : Array Value) (h : A ≠ B) (hA : Blk w A cs 80) (hB : Blk w B ds 80) :
    (binOp .eql 23 (.pointer (some ⟨A, 0, none⟩)) (.pointer (some ⟨B, 0, none⟩))).run Yba.prog w = .ok (.bool false) w := by
  obtain ⟨j, hj, hs⟩ := Option.map_eq_some_iff.1 size80
  exact run_eql_ptr_other w Yba.underlying23 hj (by omega) (fun e => h (by cases e; rfl)) hA hB

set_option maxRecDepth 100000 in
set_option maxHeartbeats 1000000 in
theorem b_main (a0 a1 : Int) (w : World) (h0 : 0 ≤ a0) (h1 : a0 ≤ 255) :
    Calls Yba.prog 3 #[.int .u8 a0, .int .u64 a1] w fun e w' => e = .returned (.bool true) ∧ Below w.heap.size w w' := by
  have hu := u64_max_beq
  go_enter Yba.func3, Yba.ntmps3
  go_wp2_with fail
  refine (every_any _).mono ?_
  rintro e wa ⟨rfl, hA, hbA, hszA⟩
  have HSA : Hid _ := hszA
  have HA : Hid _ := hA
  clear hA hszA
  go_wp2_with fail
  refine (every_any _).mono ?_
  rintro e wb ⟨rfl, hB, hbB, hszB⟩
  have hAB : w.heap.size < wa.heap.size := by rw [HSA.out]; omega
  have HAb : Blk wb w.heap.size (part 32).toArray 80 := (hbB.block _ hAB).trans HA.out
  have HL : Hid (Below w.heap.size w wb) := hbA.trans (hbB.mono (by omega))
  generalize wa.heap.size = B at *
  clear hbA hbB hszB HSA HA
  have hb1 := ball_any wb _ HAb
  have hb2 := ball_any wb _ hB
  have hpe := ptr_other wb _ _ _ _ (by omega) HAb hB
  have HBb : Hid (Blk wb B (part 32).toArray 80) := hB
  have HA2 : Hid (Blk wb w.heap.size (part 32).toArray 80) := HAb
  clear hB HAb
  have hAc : Hid (∀ i, i < 32 → wb.cell? ⟨w.heap.size, i, none⟩ = some (.int .u64 ones)) := fun i hi => by
    rw [Blk.cell HA2 i, List.getElem?_toArray, part_lo hi]
  have hAf : ∀ i, wb.frozen? ⟨w.heap.size, i, none⟩ = false := fun i => Blk.frozen HA2 i
  have hni : (a0 % 32).toNat < 32 := by omega
  have hc1 := hAc.out _ hni
  have hm0 : 0 ≤ a0 % 32 := by omega
  have hm1 : a0 % 32 < 32 := by omega
  go_wp2_with (first | (go_at_call_of 6 (Value.pointer (some { block := w.heap.size, off := 0 : Addr })); refine hb1.mono ?_; rintro e w' ⟨rfl, rfl⟩) | (go_at_call_of 6 (Value.pointer (some { block := B, off := 0 : Addr })); refine hb2.mono ?_; rintro e w' ⟨rfl, rfl⟩) | (go_at_call 7; refine (words_any _).mono ?_; rintro e w' ⟨rfl, rfl⟩))
  rename_i wq _ _
  have hb3 := ball_any _ B (Blk.setOther HBb (a := ⟨w.heap.size, (a0 % 32).toNat, none⟩) (by simp; omega) (.int .u64 a1))
  refine hb3.mono ?_
  rintro e w2 ⟨rfl, hw2⟩
  have hd1 : w2.cell? ⟨w.heap.size, (a0 % 32).toNat, none⟩ = some (.int .u64 a1) := by rw [hw2]; exact World.cell?_setCell_same _ _ _ hc1
  have hd2 : Hid (∀ i, i < 32 → i ≠ (a0 % 32).toNat → w2.cell? ⟨w.heap.size, i, none⟩ = some (.int .u64 ones)) := fun i hi hne => by
    rw [hw2, World.cell?_setCell_other _ _ _ _ (by intro e; apply hne; injection e with _ e2 _; exact e2.symm)]
    exact hAc.out i hi
  have HL2 : Hid (Below w.heap.size w w2) := by rw [hw2]; exact Below.setCell HL (Nat.le_refl _) _
  clear hw2 hb1 hb2 hb3 hpe hc1 hAc hAf HBb HA2 HL
  go_wp2_with fail
  go_loop [8] (fun i => ∃ k : Nat, k ≤ 32 ∧ i = .int .i64 k) (fun i => 32 - (intOf i).toNat)
  case atStart => exact ⟨0, Nat.zero_le _, rfl⟩
  case round =>
    obtain ⟨k, hk, rfl⟩ := hrel
    by_cases hlt : k < 32
    · by_cases hki : k = (a0 % 32).toNat
      · have hkb : ((k : Int) != a0 % 32) = false := by simp; omega
        clear hki
        go_wp2
        go_round
        case rel => exact ⟨k + 1, by omega, by go_num⟩
        case measure => simp [intOf]; omega
      · have hkb : ((k : Int) != a0 % 32) = true := by simp; omega
        have hc := hd2.out k hlt hki
        clear hki
        go_wp2
        go_round
        case rel => exact ⟨k + 1, by omega, by go_num⟩
        case measure => simp [intOf]; omega
    · have : k = 32 := by omega
      subst this
      go_wp2
      go_ret
      exact ⟨rfl, HL2⟩
end Go.Proofs.Ybulkfqak
