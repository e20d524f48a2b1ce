import Derived.Test.YbulkfqjoCClose
import Derived.OwnWalk
import Derived.Laws.AppendOwnNone
import Derived.Lib.AppendZerosOnto
import Derived.Lib.SliceRun
import Derived.Lib.Walk
import Derived.Below
namespace Go.Proofs.Ybulkfqjo
open Go.RowKit

theorem info28 : (Yba.prog.info? 28).map (fun i => (i.zero, i.size, i.bytes)) = some (some (.pointer none), 1, 8) := by kernel_rfl

theorem Below.own {B : Nat} {w w' : World} {row : Option Nat} (h : w.grownBy w' row) (hr : ∀ k, row = some k → B ≤ k) (hB : B ≤ w.heap.size) : Below B w w' :=
  ⟨h.os, h.tape, h.output, h.size, fun k hk => h.block k (by omega) (fun e => by have := hr k e.symm; omega)⟩

set_option maxHeartbeats 800000 in
theorem grow_nil (n : Nat) (w : World) (hn : n ≤ 1048576) :
    Calls Yba.prog 13 #[.slice none 0 0, .int .i64 n] w fun e w' => ∃ v, e = .returned v ∧ w'.ownsRow w.heap.size 28 1 v 0 [] ∧ Below w.heap.size w w' := by
  by_cases h0 : n = 0
  · subst h0
    go_enter Yba.func13, Yba.ntmps13
    go_wp2_with fail
    go_ret
    exact ⟨_, rfl, World.ownsRow_nil _ _ _ _, Below.refl _ _⟩
  · obtain ⟨i0, hi0, hz0, hs0, hb0⟩ := info_parts info28
    have hr : ∀ ty, (Builtin.append_ #[23, 3] ty #[.slice none 0 0, .int .i64 n]).run Yba.prog w =
        .ok (.slice (some ⟨w.heap.size, 0, none⟩) n (grownCap w n 0 28)) (w.drew.alloc (.cells (Builtin.zeroCells #[.pointer none] n ++ Builtin.zeroCells #[.pointer none] (grownCap w n 0 28 - n)) 28)) := fun ty => by
      have h := Lib.run_append_grow_zeros w 23 3 ty 28 i0 (.pointer none) .i64 .i64 Yba.underlying23 Yba.underlying3 hi0 hz0 none 0 0 [] (run_firstCells_none w.drew i0.size 0 0 0) n (by omega) (by omega) (by omega) (by omega) (by rw [hb0]; omega)
        (by rw [hb0]; exact growslice_fits (by omega) (by omega))
      simpa [Value.cells] using h
    have hG := grownCap_ge w n 0 28
    have hG2 := grownCap_le_maxLen w n 0 28 (by unfold maxLen; omega)
    have hz : (Builtin.zeroCells #[Value.pointer none] n ++ Builtin.zeroCells #[Value.pointer none] (grownCap w n 0 28 - n)).size = grownCap w n 0 28 * 1 := by
      rw [Array.size_append, size_zeroCells, size_zeroCells]; simp; omega
    generalize (Builtin.zeroCells #[Value.pointer none] n ++ Builtin.zeroCells #[Value.pointer none] (grownCap w n 0 28 - n)) = cur at hr hz
    generalize grownCap w n 0 28 = G at hr hz hG hG2
    have hG63 : G ≤ 9223372036854775807 := by unfold maxLen at hG2; omega
    have h1 : ¬ ((n : Int) < 0) := by omega
    have h4 : (n : Int) > 0 := by omega
    have H : Hid (cur.size = G * 1 ∧ G ≤ maxLen) := ⟨hz, hG2⟩
    clear hi0 hz0 hs0 hb0 hz hG2
    go_enter Yba.func13, Yba.ntmps13
    go_wp2_with (at_builtin; refine Lib.wpList_append_run _ rfl _ _ _ _ rfl _ _ rfl rfl _ _ (hr _) ?_)
    go_ret
    obtain ⟨hz, hm⟩ := H.out
    exact ⟨_, rfl, World.ownsRow_made w.drew cur G (Nat.le_refl _) hm hz, (Below.refl _ _).drew.alloc (by simp) _⟩

/-- the pointers of a row -/
def ptrs (f : Nat → Nat) (n : Nat) : List Value := (List.range n).map fun i => .pointer (some ⟨f i, 0, none⟩)
theorem ptrs_length (f : Nat → Nat) (n : Nat) : (ptrs f n).length = n := by simp [ptrs]
theorem ptrs_get {f : Nat → Nat} {n j : Nat} {u : Value} (h : (ptrs f n)[j]? = some u) : j < n ∧ u = .pointer (some ⟨f j, 0, none⟩) := by
  unfold ptrs at h
  by_cases hj : j < n
  · simp [hj] at h
    exact ⟨hj, h.symm⟩
  · simp [hj] at h
theorem ptrs_one {f : Nat → Nat} {n : Nat} : ∀ u ∈ ptrs f n, u.oneCell' = true := by
  intro u hu
  simp [ptrs] at hu
  obtain ⟨i, _, rfl⟩ := hu
  rfl

/-- what a run over two rows has gathered -/
def sumN (N : Nat → Nat) : Nat → Nat
  | 0 => 0
  | k + 1 => sumN N k + N k
def catL (F : Nat → Nat → Nat) (N : Nat → Nat) : Nat → List Value
  | 0 => []
  | k + 1 => catL F N k ++ ptrs (F k) (N k)
theorem sumN_le {N : Nat → Nat} {k : Nat} (h : k ≤ 2) : sumN N k ≤ N 0 + N 1 := by
  match k, h with
  | 0, _ => simp [sumN]
  | 1, _ => simp [sumN]
  | 2, _ => simp [sumN]

set_option maxRecDepth 100000 in
set_option maxHeartbeats 1600000 in
theorem concat_any (V : Nat) (p : Nat → Option Addr) (N : Nat → Nat) (F : Nat → Nat → Nat) (w : World) (hN : N 0 + N 1 ≤ 1048576)
    (hV : ∀ k, k < 2 → w.cell? ⟨V, k, none⟩ = some (.slice (p k) (N k) (N k))) (hp : ∀ k, k < 2 → PRow w 28 (p k) (N k) (F k)) :
    Calls Yba.prog 10 #[.slice (some ⟨V, 0, none⟩) 2 2] w fun e w' => ∃ v, e = .returned v ∧ w'.ownsRow w.heap.size 28 1 v (N 0 + N 1) (catL F N 2) ∧ Below w.heap.size w w' := by
  have hVlt : V < w.heap.size := World.block_lt_of_cell? w _ (hV 0 (by omega))
  have HP : Hid (∀ k, k < 2 → PRow w 28 (p k) (N k) (F k)) := hp
  have HV : Hid (∀ k, k < 2 → w.cell? ⟨V, k, none⟩ = some (.slice (p k) (N k) (N k))) := hV
  clear hp hV
  go_enter Yba.func10, Yba.ntmps10
  go_upto_region 3 with fail
  go_loop [3, 11] (fun s3 s11 => ∃ k : Nat, s11 = .int .i64 (k : Int) ∧ s3 = .int .i64 ((sumN N k : Nat) : Int) ∧ k ≤ 2) (fun _ s11 => 2 - (intOf s11).toNat)
  case atStart => exact ⟨0, rfl, rfl, by omega⟩
  case round =>
    obtain ⟨k, rfl, rfl, hk⟩ := hrel
    by_cases hlt : k < 2
    · have hc := HV.out k hlt
      have hlt' : (k : Int) < 2 := by omega
      have hs := sumN_le (N := N) (k := k + 1) (by omega)
      simp only [sumN] at hs
      have hw : wrap64 (((sumN N k : Nat) : Int) + ((N k : Nat) : Int)) = ((sumN N k + N k : Nat) : Int) := by unfold wrap64; omega
      have hg : ¬ (((sumN N k + N k : Nat) : Int) < 0) := by omega
      go_wp2_with fail
      go_round
      case rel => exact ⟨k + 1, by simp, rfl, by omega⟩
      case measure => simp [intOf]; omega
    · obtain rfl : k = 2 := by omega
      have hs2 : sumN N 2 = N 0 + N 1 := by simp [sumN]
      rw [hs2]
      go_wp2_with fail
      refine (grow_nil (N 0 + N 1) w hN).mono ?_
      rintro e w1 ⟨v, rfl, ho, hb⟩
      have HO : Hid (w1.ownsRow w.heap.size 28 1 v 0 []) := ho
      have HB : Hid (Below w.heap.size w w1) := hb
      clear ho hb
      obtain ⟨i0, hi0, hz0, hs0, hb0⟩ := info_parts info28
      go_upto_region 11 with fail
      go_loopw [6, 27] (fun s6 s27 wr => ∃ k : Nat, s27 = .int .i64 (k : Int) ∧ k ≤ 2 ∧ Hid (wr.ownsRow w.heap.size 28 1 s6 (sumN N k) (catL F N k)) ∧ Hid (Below w.heap.size w wr)) (fun _ s27 _ => 2 - (intOf s27).toNat)
      case atStart => exact ⟨0, rfl, by omega, HO, HB⟩
      case round =>
        obtain ⟨k, rfl, hk, ho, hb⟩ := hrel
        by_cases hlt : k < 2
        · have hc := (hb.out.cell (p := ⟨V, k, none⟩) hVlt).trans (HV.out k hlt)
          have hlt' : (k : Int) < 2 := by omega
          have hs := sumN_le (N := N) (k := k + 1) (by omega)
          simp only [sumN] at hs
          rcases HP.out k hlt with ⟨hp, hn⟩ | ⟨b, hp, hr⟩
          · rw [hp, hn] at hc
            go_wp2_with (at_builtin; refine wpList_append_own_none rfl _ _ 23 rfl w.heap.size 28 i0 1 Yba.underlying23 hi0 _ _ _ rfl ho.out rfl ?_)
            go_roundw
            case rel => exact ⟨k + 1, by simp, by omega, by simpa [Hid, sumN, catL, hn, ptrs] using ho, hb⟩
            case measure => simp [intOf]; omega
          · rw [hp] at hc
            have hcs : ∀ j u, (ptrs (F k) (N k))[j]? = some u → wr.cell? ((⟨b, 0, none⟩ : Addr).add j) = some u := by
              intro j u hj
              obtain ⟨hj', rfl⟩ := ptrs_get hj
              have : (⟨b, 0, none⟩ : Addr).add j = ⟨b, j, none⟩ := by unfold Addr.add; split <;> simp_all
              rw [this, hb.out.cell (p := ⟨b, j, none⟩) hr.lt]
              exact hr.cell hj'
            go_wp2_with (at_builtin; refine wpList_append_own _ rfl _ _ 23 rfl w.heap.size 28 i0 (.pointer none) 1 8 Yba.underlying23 hi0 hz0 hs0 hb0 rfl (by decide) _ _ _ rfl ho.out ⟨b, 0, none⟩ (N k) (N k) (ptrs (F k) (N k)) rfl (by simp [ptrs_length]) hcs ptrs_one (by unfold maxLen; omega) (by omega) hb.out.size ?_)
            intro v' w2 ho2 hg2 _
            have HO2 : Hid (w2.ownsRow w.heap.size 28 1 v' (sumN N k + N k) (catL F N k ++ ptrs (F k) (N k))) := ho2
            have HB2 : Hid (Below w.heap.size w w2) := hb.out.trans (Below.own hg2 (fun j hj => (ho.out.lt j hj).1) hb.out.size)
            clear ho2 hg2
            go_wp2_with fail
            go_roundw
            case rel => exact ⟨k + 1, by simp, by omega, HO2, HB2⟩
            case measure => simp [intOf]; omega
        · obtain rfl : k = 2 := by omega
          go_wp2_with fail
          go_ret
          rw [hs2] at ho
          exact ⟨_, rfl, ho, hb⟩
end Go.Proofs.Ybulkfqjo
