import Derived.Test.YbulkfqakQSmall
namespace Go.Proofs.Ybulkfqak
open Go.RowKit

/-- the processor -/
def ArchAt (w : World) (A : Nat) : Prop := w.cell? ⟨A, 1, none⟩ = some (.int .i8 4) ∧ w.cell? ⟨A, 2, none⟩ = some (.int .i64 8) ∧ w.cell? ⟨A, 3, none⟩ = some (.int .i64 8)
theorem ArchAt.lt {w : World} {A : Nat} (h : ArchAt w A) : A < w.heap.size := World.block_lt_of_cell? w _ h.1
theorem ArchAt.below {w w' : World} {A B : Nat} (h : ArchAt w A) (k : Below B w w') (hB : A < B) : ArchAt w' A :=
  ⟨(k.cell (p := ⟨A, 1, none⟩) hB).trans h.1, (k.cell (p := ⟨A, 2, none⟩) hB).trans h.2.1, (k.cell (p := ⟨A, 3, none⟩) hB).trans h.2.2⟩

set_option maxHeartbeats 1000000 in
theorem sp_any (S A : Nat) (d : Int) (w : World) (h0 : w.cell? ⟨S, 0, none⟩ = some (.pointer (some ⟨A, 0, none⟩))) (h1 : w.cell? ⟨S, 1, none⟩ = some (.int .i64 d)) (ha : ArchAt w A) (hd1 : -1000000000000 ≤ d) (hd2 : d ≤ 1000000000000) :
    Calls Yba.prog 33 #[.pointer (some ⟨S, 0, none⟩)] w fun e w' => e = .returned (.agg #[.int .i64 (-8 - d), .int .i32 (-2147483648), .int .u8 1, .bool false]) ∧ Below w.heap.size w w' := by
  obtain ⟨a1, a2, a3⟩ := ha
  have hS : S < w.heap.size := World.block_lt_of_cell? w _ h0
  have hA : A < w.heap.size := World.block_lt_of_cell? w _ a1
  have hw : -9223372036854775808 ≤ -8 - d := by omega
  have hw2 : -8 - d ≤ 9223372036854775807 := by omega
  go_enter Yba.func33, Yba.ntmps33
  go_wp2_with fail
  go_region
  go_wp2_with fail
  exact bodyPost_ret (v := .agg #[.int .i64 (-8 - d), .int .i32 (-2147483648), .int .u8 1, .bool false]) (by simp [results, Yba.results33, go_sem]) rfl ⟨rfl, ((Below.refl _ _).alloc (Nat.le_refl _) _).drew⟩

/-- no value -/
def zeroVal : Value := .agg #[.int .i64 0, .int .i32 0, .int .u8 0, .bool false]

set_option maxHeartbeats 1000000 in
theorem reg_none (S A : Nat) (w : World) (h0 : w.cell? ⟨S, 0, none⟩ = some (.pointer (some ⟨A, 0, none⟩))) (ha : ArchAt w A) :
    Calls Yba.prog 26 #[.pointer (some ⟨S, 0, none⟩), .int .i8 (-1)] w fun e w' => e = .returned zeroVal ∧ Below w.heap.size w w' := by
  obtain ⟨a1, a2, a3⟩ := ha
  have hS : S < w.heap.size := World.block_lt_of_cell? w _ h0
  have hA : A < w.heap.size := World.block_lt_of_cell? w _ a1
  go_enter Yba.func26, Yba.ntmps26
  go_wp2_with fail
  exact bodyPost_ret (v := zeroVal) (by simp [results, Yba.results26, go_sem, zeroVal]) rfl ⟨rfl, (Below.refl _ _).alloc (Nat.le_refl _) _⟩

set_option maxHeartbeats 1000000 in
theorem frame_zero (w : World) : Calls Yba.prog 28 #[zeroVal] w fun e w' => e = .returned (.bool false) ∧ Below w.heap.size w w' := by
  unfold zeroVal
  go_enter Yba.func28, Yba.ntmps28
  go_wp2_with fail
  go_ret
  exact ⟨rfl, (Below.refl _ _).alloc (Nat.le_refl _) _⟩

set_option maxHeartbeats 1000000 in
theorem operate_none (S : Nat) (b o : Nat) (off : Int) (rec : Value) (w : World) (h : w.cell? ⟨b, o + 12, none⟩ = some (.int .u8 0)) :
    Calls Yba.prog 21 #[.pointer (some ⟨S, 0, none⟩), .pointer (some ⟨b, o, none⟩), .int .u32 off, rec] w fun e w' => e = .returned (.tuple #[]) ∧ w' = w := by
  go_enter Yba.func21, Yba.ntmps21
  go_wp2_with fail
  refine bodyPost_ret (results_none rfl _ _ _) rfl ?_
  exact ⟨rfl, rfl⟩

/-- an instruction in a row, as far as 'step' looks -/
structure InstAt (w : World) (b o : Nat) (op : Int) (down : Bool) : Prop where
  use : w.cell? ⟨b, o + 12, none⟩ = some (.int .u8 0)
  adv : w.cell? ⟨b, o + 13, none⟩ = some (.int .i64 0)
  op : w.cell? ⟨b, o + 14, none⟩ = some (.int .u8 op)
  dst : w.cell? ⟨b, o + 15, none⟩ = some (.int .i8 (-1))
  src : w.cell? ⟨b, o + 16, none⟩ = some (.int .i8 (-1))
  down : w.cell? ⟨b, o + 24, none⟩ = some (.bool down)

set_option maxRecDepth 100000 in
set_option maxHeartbeats 1000000 in
theorem step_down (S : Nat) (b o : Nat) (off op : Int) (rec : Value) (w : World) (h : InstAt w b o op true) :
    Calls Yba.prog 16 #[.pointer (some ⟨S, 0, none⟩), .pointer (some ⟨b, o, none⟩), .int .u32 off, rec] w fun e w' => e = .returned (.bool false) ∧ ∃ m, w' = w.drewN m := by
  obtain ⟨h12, h13, h14, h15, h16, h24⟩ := h
  go_enter Yba.func16, Yba.ntmps16
  go_wp2_with fail
  go_ret
  exact ⟨rfl, 0, rfl⟩

set_option maxRecDepth 100000 in
set_option maxHeartbeats 1000000 in
theorem step_cmp (S : Nat) (b o : Nat) (off : Int) (rec : Value) (w : World) (h : InstAt w b o 1 false) :
    Calls Yba.prog 16 #[.pointer (some ⟨S, 0, none⟩), .pointer (some ⟨b, o, none⟩), .int .u32 off, rec] w fun e w' => e = .returned (.bool true) ∧ ∃ m, w' = w.drewN m := by
  obtain ⟨h12, h13, h14, h15, h16, h24⟩ := h
  go_enter Yba.func16, Yba.ntmps16
  go_wp2_with fail
  go_quiet (fail)
  go_wp2_with fail
  go_ret
  exact ⟨rfl, _, rfl⟩

theorem Below.set_both {B : Nat} {w w' : World} (h : Below B w w') (a : Addr) (v : Value) : Below B (w.setCell a v) (w'.setCell a v) := by
  refine ⟨h.os, h.tape, h.output, by simpa using h.size, fun k hk => ?_⟩
  have := h.block k hk
  by_cases e : a.block = k
  · subst e
    simp only [World.setCell, Array.getElem?_modify, if_pos]
    rw [this]
  · rw [Below.heap_setCell _ _ _ _ (fun h => e h.symm), Below.heap_setCell _ _ _ _ (fun h => e h.symm), this]

/-- the method's full name, by its signs -/
def accessName : String := String.ofList ([101, 120, 97, 109, 112, 108, 101, 46, 99, 111, 109, 47, 109, 105, 100, 100, 101, 110, 47, 109, 105, 100, 100, 101, 110, 47, 112, 107, 103, 47, 103, 111, 116, 121, 112, 101, 115, 46, 97, 99, 99, 101, 115, 115].map Char.ofNat)
theorem nil_d (f : Nat) (w : World) : (nilAhead (f + 1) 97 (.agg #[]) accessName).run Yba.prog w = .ok (some false) w := by kernel_rfl
theorem meth_d (f : Nat) (w : World) : (method (f + 1) 97 (.agg #[]) accessName).run Yba.prog w = .ok (63, .agg #[]) w := by kernel_rfl
theorem nil_c (f : Nat) (a : Addr) (w : World) : (nilAhead (f + 1) 66 (.pointer (some a)) accessName).run Yba.prog w = .ok (some false) w := by kernel_rfl
theorem meth_c (f : Nat) (a : Addr) (w : World) : (method (f + 1) 66 (.pointer (some a)) accessName).run Yba.prog w = .ok (59, .pointer (some a)) w := by kernel_rfl

theorem field92 (a : Int) (b c : Value) (d : Value) (w : World) : (Instr.field 92 (.agg #[.int .i64 a, b, c, d]) 0).run Yba.prog w = .ok (.int .i64 a) w := by kernel_rfl

/-- a reach into the frame -/
def refVal (lo hi : Int) (sure : Bool) : Value := .agg #[.int .u8 0, .int .i64 lo, .int .i64 hi, .int .i64 0, .bool sure]
set_option maxHeartbeats 1000000 in
theorem access_d (off use lo hi : Int) (sure : Bool) (w : World) : Calls Yba.prog 63 #[.agg #[], .int .u32 off, .int .u8 use, refVal lo hi sure] w fun e w' => e = .returned (.tuple #[]) ∧ Below w.heap.size w w' := by
  unfold refVal
  go_enter Yba.func63, Yba.ntmps63
  go_wp2_with fail
  go_end0
  exact ⟨rfl, ((Below.refl _ _).alloc (Nat.le_refl _) _).alloc (by simp) _⟩

set_option maxRecDepth 100000 in
set_option maxHeartbeats 2000000 in
theorem push_d (S A : Nat) (b o : Nat) (off d : Int) (w : World) (h : InstAt w b o 10 false) (h0 : w.cell? ⟨S, 0, none⟩ = some (.pointer (some ⟨A, 0, none⟩))) (h1 : w.cell? ⟨S, 1, none⟩ = some (.int .i64 d)) (f1 : w.frozen? ⟨S, 1, none⟩ = false)
    (ha : ArchAt w A) (hAS : A ≠ S) (hd1 : -100000000000 ≤ d) (hd2 : d ≤ 100000000000) :
    Calls Yba.prog 16 #[.pointer (some ⟨S, 0, none⟩), .pointer (some ⟨b, o, none⟩), .int .u32 off, .iface 97 (.agg #[])] w fun e w' => e = .returned (.bool true) ∧ Below w.heap.size (w.setCell ⟨S, 1, none⟩ (.int .i64 (d + 8))) w' := by
  obtain ⟨h12, h13, h14, h15, h16, h24⟩ := h
  have hS : S < w.heap.size := World.block_lt_of_cell? w _ h0
  have hA : A < w.heap.size := ha.lt
  have hI : b < w.heap.size := World.block_lt_of_cell? w _ h12
  have HA : Hid (ArchAt w A) := ha
  have H0 : Hid (w.cell? ⟨S, 0, none⟩ = some (.pointer (some ⟨A, 0, none⟩)) ∧ w.cell? ⟨S, 1, none⟩ = some (.int .i64 d) ∧ w.frozen? ⟨S, 1, none⟩ = false) := ⟨h0, h1, f1⟩
  obtain ⟨a1, a2, a3⟩ := ha
  have hn := nil_d
  have hm := meth_d
  go_enter Yba.func16, Yba.ntmps16
  go_wp2_with fail
  go_quiet (fail)
  go_wp2_with fail
  refine (reg_none S A (w.drewN nq) h0 HA.out).mono ?_
  rintro e w1 ⟨rfl, hb1⟩
  have B1 : Below w.heap.size w w1 := (below_drewN (Below.refl w.heap.size w) nq).trans hb1
  clear hb1
  have g0 := (B1.cell (p := ⟨S, 0, none⟩) hS).trans h0
  have g1 := (B1.cell (p := ⟨S, 1, none⟩) hS).trans h1
  have gf1 := (B1.frozen (p := ⟨S, 1, none⟩) hS).trans f1
  have GA : Hid (ArchAt w1 A) := HA.out.below B1 hA
  obtain ⟨b1, b2, b3⟩ := GA.out
  have hz1 := B1.size
  have hS1 : S < w1.heap.size := Nat.lt_of_lt_of_le hS hz1
  have hA1 : A < w1.heap.size := Nat.lt_of_lt_of_le hA hz1
  have HB1 : Hid (Below w.heap.size w w1) := B1
  clear B1 a1 a2 a3 h0 h1 f1 h12 h13 h14 h15 h16 h24 hz1
  unfold zeroVal
  go_wp2_with fail
  refine (frame_zero _).mono ?_
  rintro e w2 ⟨rfl, hb2⟩
  have B2 : Below w.heap.size w w2 := (HB1.out.alloc HB1.out.size _).trans (hb2.mono (by simp; have := HB1.out.size; omega))
  clear hb2
  have k0 := (B2.cell (p := ⟨S, 0, none⟩) hS).trans H0.out.1
  have k1 := (B2.cell (p := ⟨S, 1, none⟩) hS).trans H0.out.2.1
  have kf1 := (B2.frozen (p := ⟨S, 1, none⟩) hS).trans H0.out.2.2
  have KA : Hid (ArchAt w2 A) := HA.out.below B2 hA
  obtain ⟨q1, q2, q3⟩ := KA.out
  have HB2 : Hid (Below w.heap.size w w2) := B2
  have hw1 : d + 8 ≤ 9223372036854775807 := by omega
  have hw2 : -9223372036854775808 ≤ d + 8 := by omega
  clear B2 b1 b2 b3 g0 g1 gf1 hS1 hA1 GA HB1
  go_wp2_with fail
  refine (sp_any S A (d + 8) _ ?_ ?_ ?_ (by omega) (by omega)).mono ?_
  · rw [World.cell?_setCell_other _ _ _ _ (by simp)]; exact k0
  · exact World.cell?_setCell_same' _ _ _ (by rw [k1]; rfl)
  · exact ⟨by rw [World.cell?_setCell_other _ _ _ _ (by intro e; injection e with e; exact hAS e.symm)]; exact q1, by rw [World.cell?_setCell_other _ _ _ _ (by intro e; injection e with e; exact hAS e.symm)]; exact q2, by rw [World.cell?_setCell_other _ _ _ _ (by intro e; injection e with e; exact hAS e.symm)]; exact q3⟩
  rintro e w3 ⟨rfl, hb3⟩
  have B3 : Below w.heap.size (w.setCell ⟨S, 1, none⟩ (.int .i64 (d + 8))) w3 := (Below.set_both HB2.out _ _).trans (hb3.mono (by simp; exact HB2.out.size))
  clear hb3 k0 k1 kf1 q1 q2 q3 KA
  have HB3 : Hid (Below w.heap.size (w.setCell ⟨S, 1, none⟩ (.int .i64 (d + 8))) w3) := B3
  have hz3 : w.heap.size ≤ w3.heap.size := by have := B3.size; simpa using this
  clear B3
  have hw3 : -8 - (d + 8) + 8 ≤ 9223372036854775807 := by omega
  have hw4 : -9223372036854775808 ≤ -8 - (d + 8) + 8 := by omega
  have hf := field92
  go_upto_region 50 with fail
  conv in (Callee.invoke _ _) =>
    arg 2
    tactic => exact (by kernel_rfl : (_ : String) = accessName)
  go_wp2_with fail
  refine (access_d off 2 (-8 - (d + 8)) (-8 - (d + 8) + 8) true w3).mono ?_
  rintro e w4 ⟨rfl, hb4⟩
  have HB4 : Hid (Below w.heap.size (w.setCell ⟨S, 1, none⟩ (.int .i64 (d + 8))) w4) := HB3.out.trans (hb4.mono hz3)
  clear hb4
  go_wp2_with fail
  go_ret
  exact ⟨rfl, HB4⟩

set_option maxRecDepth 100000 in
set_option maxHeartbeats 2000000 in
theorem pop_d (S A : Nat) (b o : Nat) (off d : Int) (w : World) (h : InstAt w b o 11 false) (h0 : w.cell? ⟨S, 0, none⟩ = some (.pointer (some ⟨A, 0, none⟩))) (h1 : w.cell? ⟨S, 1, none⟩ = some (.int .i64 d)) (f1 : w.frozen? ⟨S, 1, none⟩ = false)
    (ha : ArchAt w A) (hbS : b ≠ S) (hd1 : -100000000000 ≤ d) (hd2 : d ≤ 100000000000) :
    Calls Yba.prog 16 #[.pointer (some ⟨S, 0, none⟩), .pointer (some ⟨b, o, none⟩), .int .u32 off, .iface 97 (.agg #[])] w fun e w' => e = .returned (.bool true) ∧ Below w.heap.size (w.setCell ⟨S, 1, none⟩ (.int .i64 (d - 8))) w' := by
  have HI : Hid (InstAt w b o 11 false) := h
  obtain ⟨h12, h13, h14, h15, h16, h24⟩ := h
  have hS : S < w.heap.size := World.block_lt_of_cell? w _ h0
  have hA : A < w.heap.size := ha.lt
  have hI : b < w.heap.size := World.block_lt_of_cell? w _ h12
  have HA : Hid (ArchAt w A) := ha
  have H0 : Hid (w.cell? ⟨S, 0, none⟩ = some (.pointer (some ⟨A, 0, none⟩)) ∧ w.cell? ⟨S, 1, none⟩ = some (.int .i64 d) ∧ w.frozen? ⟨S, 1, none⟩ = false) := ⟨h0, h1, f1⟩
  obtain ⟨a1, a2, a3⟩ := ha
  have hn := nil_d
  have hm := meth_d
  have hf := field92
  go_enter Yba.func16, Yba.ntmps16
  go_wp2_with fail
  go_quiet (fail)
  go_wp2_with fail
  refine (sp_any S A d (w.drewN nq) h0 h1 HA.out (by omega) (by omega)).mono ?_
  rintro e w1 ⟨rfl, hb1⟩
  have HB1 : Hid (Below w.heap.size w w1) := (below_drewN (Below.refl w.heap.size w) nq).trans hb1
  clear hb1 h0 h1 f1 a1 a2 a3 h12 h13 h14 h15 h16 h24
  have hw3 : -8 - d + 8 ≤ 9223372036854775807 := by omega
  have hw4 : -9223372036854775808 ≤ -8 - d + 8 := by omega
  go_upto_region 55 with fail
  conv in (Callee.invoke _ _) =>
    arg 2
    tactic => exact (by kernel_rfl : (_ : String) = accessName)
  go_wp2_with fail
  refine (access_d off 1 (-8 - d) (-8 - d + 8) false w1).mono ?_
  rintro e w2 ⟨rfl, hb2⟩
  have B2 : Below w.heap.size w w2 := HB1.out.trans (hb2.mono HB1.out.size)
  clear hb2
  have k0 := (B2.cell (p := ⟨S, 0, none⟩) hS).trans H0.out.1
  have k1 := (B2.cell (p := ⟨S, 1, none⟩) hS).trans H0.out.2.1
  have kf1 := (B2.frozen (p := ⟨S, 1, none⟩) hS).trans H0.out.2.2
  have k15 := (B2.cell (p := ⟨b, o + 15, none⟩) hI).trans HI.out.dst
  have k12 : Hid (w2.cell? ⟨b, o + 12, none⟩ = some (.int .u8 0)) := (B2.cell (p := ⟨b, o + 12, none⟩) hI).trans HI.out.use
  have HB2 : Hid (Below w.heap.size w w2) := B2
  have hw1 : d - 8 ≤ 9223372036854775807 := by omega
  have hw2 : -9223372036854775808 ≤ d - 8 := by omega
  clear B2
  go_wp2_with fail
  refine (operate_none S b o off _ _ ?_).mono ?_
  · rw [World.cell?_setCell_other _ _ _ _ (by intro e; injection e with e; exact hbS e.symm)]; exact k12.out
  rintro e w3 ⟨rfl, rfl⟩
  have j15 : (w2.setCell ⟨S, 1, none⟩ (.int .i64 (d - 8))).cell? ⟨b, o + 15, none⟩ = some (.int .i8 (-1)) := by
    rw [World.cell?_setCell_other _ _ _ _ (by intro e; injection e with e; exact hbS e.symm)]; exact k15
  go_wp2_with fail
  go_ret
  exact ⟨rfl, Below.set_both HB2.out _ _⟩
end Go.Proofs.Ybulkfqak
