import Derived.Test.YbulkfqbmRows
import Derived.WalkKit
import Derived.WalkSpells
import Derived.WalkLawsBesides
import Derived.Lib.EndianBits
import Derived.Deep.QuietTactic
import Derived.BigQuiet
import Derived.Deep.OwnRows
namespace Go.Proofs.Ybulkfqbm
open Go.RowKit

set_option maxRecDepth 100000 in
set_option maxHeartbeats 4000000 in
theorem be64 (g o n c : Nat) (b0 b1 b2 b3 b4 b5 b6 b7 : Int) (w : World) (hn : 8 ≤ n)
    (c0 : w.cell? ⟨g, o, none⟩ = some (.int .u8 b0)) (c1 : w.cell? ⟨g, o + 1, none⟩ = some (.int .u8 b1)) (c2 : w.cell? ⟨g, o + 2, none⟩ = some (.int .u8 b2)) (c3 : w.cell? ⟨g, o + 3, none⟩ = some (.int .u8 b3))
    (c4 : w.cell? ⟨g, o + 4, none⟩ = some (.int .u8 b4)) (c5 : w.cell? ⟨g, o + 5, none⟩ = some (.int .u8 b5)) (c6 : w.cell? ⟨g, o + 6, none⟩ = some (.int .u8 b6)) (c7 : w.cell? ⟨g, o + 7, none⟩ = some (.int .u8 b7))
    (h0 : 0 ≤ b0 ∧ b0 ≤ 255) (h1 : 0 ≤ b1 ∧ b1 ≤ 255) (h2 : 0 ≤ b2 ∧ b2 ≤ 255) (h3 : 0 ≤ b3 ∧ b3 ≤ 255) (h4 : 0 ≤ b4 ∧ b4 ≤ 255) (h5 : 0 ≤ b5 ∧ b5 ≤ 255) (h6 : 0 ≤ b6 ∧ b6 ≤ 255) (h7 : 0 ≤ b7 ∧ b7 ≤ 255) :
    Calls Yba.prog 29 #[.slice (some ⟨g, o, none⟩) n c] w fun e w' =>
      e = .returned (.int .u64 (b7 + b6 * 256 + b5 * 65536 + b4 * 16777216 + b3 * 4294967296 + b2 * 1099511627776 + b1 * 281474976710656 + b0 * 72057594037927936)) ∧ ∃ k, w' = w.drewN k := by
  obtain ⟨l0, u0⟩ := h0; obtain ⟨l1, u1⟩ := h1; obtain ⟨l2, u2⟩ := h2; obtain ⟨l3, u3⟩ := h3
  obtain ⟨l4, u4⟩ := h4; obtain ⟨l5, u5⟩ := h5; obtain ⟨l6, u6⟩ := h6; obtain ⟨l7, u7⟩ := h7
  have q0 : 0 < n := by omega
  have q1 : (1 : Int) < (n : Int) := by omega
  have q2 : (2 : Int) < (n : Int) := by omega
  have q3 : (3 : Int) < (n : Int) := by omega
  have q4 : (4 : Int) < (n : Int) := by omega
  have q5 : (5 : Int) < (n : Int) := by omega
  have q6 : (6 : Int) < (n : Int) := by omega
  have q7 : (7 : Int) < (n : Int) := by omega
  go_enter Yba.func29, Yba.ntmps29
  go_wp2
  go_quiet (fail)
  go_wp2
  go_ret
  refine ⟨?_, _, rfl⟩
  simp (disch := omega) only [u64_or8, u64_or16, u64_or24, u64_or32, u64_or40, u64_or48, u64_or56]
  rfl

/-- the number that eight bytes spell is 0 just where all are 0 -/
theorem be_zero (b0 b1 b2 b3 b4 b5 b6 b7 : Int) (h0 : 0 ≤ b0) (h1 : 0 ≤ b1) (h2 : 0 ≤ b2) (h3 : 0 ≤ b3) (h4 : 0 ≤ b4) (h5 : 0 ≤ b5) (h6 : 0 ≤ b6) (h7 : 0 ≤ b7) :
    b7 + b6 * 256 + b5 * 65536 + b4 * 16777216 + b3 * 4294967296 + b2 * 1099511627776 + b1 * 281474976710656 + b0 * 72057594037927936 = 0 ↔
      b0 = 0 ∧ b1 = 0 ∧ b2 = 0 ∧ b3 = 0 ∧ b4 = 0 ∧ b5 = 0 ∧ b6 = 0 ∧ b7 = 0 := by omega

def byteAt (bs : List Int) (j : Nat) : Int := bs.getD j 0

/-- 'v' is a slice of bytes in world 'w' whose elements are 'bs'. -/
def ByteSl (w : World) (v : Value) (bs : List Int) : Prop :=
  ∃ (a : Option Addr) (cap : Nat), v = .slice a bs.length cap ∧ bs.length ≤ cap ∧ (∀ j, 0 ≤ byteAt bs j ∧ byteAt bs j ≤ 255) ∧
    (0 < bs.length → ∃ b off, a = some ⟨b, off, none⟩ ∧ b < w.heap.size ∧ ∀ j, j < bs.length → w.cell? ⟨b, off + j, none⟩ = some (.int .u8 (byteAt bs j)))

theorem ByteSl.below {w w' : World} {v : Value} {bs : List Int} (h : ByteSl w v bs) (hb : Below w.heap.size w w') : ByteSl w' v bs := by
  obtain ⟨a, cap, rfl, hc, hr, h⟩ := h
  refine ⟨a, cap, rfl, hc, hr, fun h0 => ?_⟩
  obtain ⟨b, off, rfl, hbl, hc⟩ := h h0
  exact ⟨b, off, rfl, Nat.lt_of_lt_of_le hbl hb.size, fun j hj => (hb.cell (p := ⟨b, off + j, none⟩) hbl).trans (hc j hj)⟩

set_option maxRecDepth 100000 in
set_option maxHeartbeats 1000000 in
/-- 'bigEndianWord' of eight bytes: some number, 0 just where they are all 0. -/
theorem word_any (g o c : Nat) (f : Nat → Int) (w : World) (hr : ∀ j, 0 ≤ f j ∧ f j ≤ 255) (hc : ∀ j, j < 8 → w.cell? ⟨g, o + j, none⟩ = some (.int .u8 (f j))) :
    Calls Yba.prog 27 #[.slice (some ⟨g, o, none⟩) 8 c] w fun e w' => ∃ x : Int, e = .returned (.int .u64 x) ∧ (x = 0 ↔ ∀ j, j < 8 → f j = 0) ∧ ∃ k, w' = w.drewN k := by
  have hb := be64 g o 8 c (f 0) (f 1) (f 2) (f 3) (f 4) (f 5) (f 6) (f 7) w (Nat.le_refl _) (hc 0 (by omega)) (hc 1 (by omega)) (hc 2 (by omega)) (hc 3 (by omega)) (hc 4 (by omega)) (hc 5 (by omega)) (hc 6 (by omega)) (hc 7 (by omega)) (hr 0) (hr 1) (hr 2) (hr 3) (hr 4) (hr 5) (hr 6) (hr 7)
  have hz := be_zero (f 0) (f 1) (f 2) (f 3) (f 4) (f 5) (f 6) (f 7) (hr 0).1 (hr 1).1 (hr 2).1 (hr 3).1 (hr 4).1 (hr 5).1 (hr 6).1 (hr 7).1
  generalize hx : f 7 + f 6 * 256 + f 5 * 65536 + f 4 * 16777216 + f 3 * 4294967296 + f 2 * 1099511627776 + f 1 * 281474976710656 + f 0 * 72057594037927936 = x at hb hz
  have HZ : Hid (x = 0 ↔ ∀ j, j < 8 → f j = 0) := by
    constructor
    · intro e j hj
      obtain ⟨e0, e1, e2, e3, e4, e5, e6, e7⟩ := hz.1 e
      match j, hj with
      | 0, _ => exact e0
      | 1, _ => exact e1
      | 2, _ => exact e2
      | 3, _ => exact e3
      | 4, _ => exact e4
      | 5, _ => exact e5
      | 6, _ => exact e6
      | 7, _ => exact e7
    · intro h
      exact hz.2 ⟨h 0 (by omega), h 1 (by omega), h 2 (by omega), h 3 (by omega), h 4 (by omega), h 5 (by omega), h 6 (by omega), h 7 (by omega)⟩
  clear hx hz hr hc
  go_enter Yba.func27, Yba.ntmps27
  go_wp2_with (go_at_call 29; refine hb.mono ?_; rintro e w' ⟨rfl, k, rfl⟩)
  go_ret
  exact ⟨x, rfl, HZ, _, rfl⟩

theorem info50 : (Yba.prog.info? 50).map (fun i => (i.zero, i.size, i.bytes)) = some (some (.int .u64 0), 1, 8) := by kernel_rfl

/-- 'make(nat, n, n+4)' -/
theorem make4 (n : Nat) (hn : n ≤ 200000) (w : World) :
    (Instr.makeSlice 30 (.int .i64 (n : Int)) (.int .i64 ((n : Int) + 4))).run Yba.prog w = .ok (.slice (some ⟨w.heap.size, 0, none⟩) n (n + 4)) (w.alloc (.cells (madeCells #[.int .u64 0] (n + 4)) 50)) := by
  obtain ⟨i, hi, hzz⟩ := Option.map_eq_some_iff.1 info50
  simp only [Prod.mk.injEq] at hzz
  obtain ⟨hz, hs, hb⟩ := hzz
  have hr := run_make (P := Yba.prog) w 30 50 i (.int .u64 0) Yba.underlying30 hi hz .i64 .i64 n ((n : Int) + 4) (by omega) (by omega) (by rw [hb]; omega) (by omega)
  have e : ((n : Int) + 4).toNat = n + 4 := by omega
  rw [hs, e, Int.toNat_natCast, Nat.mul_one] at hr
  exact hr

set_option maxHeartbeats 400000 in
theorem nmake_zero (w : World) : Calls Yba.prog 26 #[.slice none 0 0, .int .i64 0] w fun e w' => e = .returned (.slice none 0 0) ∧ w' = w := by
  go_enter Yba.func26, Yba.ntmps26
  go_wp2
  go_ret
  exact ⟨rfl, rfl⟩

set_option maxHeartbeats 400000 in
theorem nmake_any (n : Nat) (hn : n ≤ 200000) (h0 : 0 < n) (w : World) : Calls Yba.prog 26 #[.slice none 0 0, .int .i64 n] w fun e w' =>
    ∃ cap, n ≤ cap ∧ e = .returned (.slice (some ⟨w.heap.size, 0, none⟩) n cap) ∧ w'.rowIs w.heap.size 50 cap (fun _ => .int .u64 0) ∧ Below w.heap.size w w' ∧ Hid (w'.heap.size = w.heap.size + 1) := by
  by_cases h1 : n = 1
  · subst h1
    have hmk := run_make_row' 30 50 (.int .u64 0) 8 Yba.underlying30 info50 rfl .i64 .i64 1 (by decide) (by decide)
    simp only [Int.ofNat_one] at hmk
    go_enter Yba.func26, Yba.ntmps26
    go_wp2
    go_ret
    exact ⟨1, Nat.le_refl _, rfl, World.rowIs_made _ _ _ _, (Below.refl _ _).alloc (Nat.le_refl _) _, World.size_alloc _ _⟩
  · have hmk := make4 n hn
    have hb1 : ((n : Int) == 1) = false := by simp; omega
    have hle : ¬ ((n : Int) ≤ 0) := by omega
    go_enter Yba.func26, Yba.ntmps26
    go_wp2
    go_ret
    exact ⟨n + 4, by omega, rfl, World.rowIs_made _ _ _ _, (Below.refl _ _).alloc (Nat.le_refl _) _, World.size_alloc _ _⟩
end Go.Proofs.Ybulkfqbm
