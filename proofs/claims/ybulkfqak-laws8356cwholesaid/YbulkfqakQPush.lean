import Derived.Test.YbulkfqakQAcc
namespace Go.Proofs.Ybulkfqak
open Go.RowKit

set_option maxRecDepth 100000 in
set_option maxHeartbeats 2000000 in
theorem push_c (S A C base n : Nat) (xs : List Value) (v : Value) (b o : Nat) (off d : Int) (w : World) (h : InstAt w b o 10 false) (h0 : w.cell? ⟨S, 0, none⟩ = some (.pointer (some ⟨A, 0, none⟩))) (h1 : w.cell? ⟨S, 1, none⟩ = some (.int .i64 d)) (f1 : w.frozen? ⟨S, 1, none⟩ = false)
    (ha : ArchAt w A) (hAS : A ≠ S) (hc : Acc w C base n xs v) (hnn : n ≤ 1048576) (hSC : S ≠ C) (hSv : some S ≠ v.ownBlock) (hd1 : -100000000000 ≤ d) (hd2 : d ≤ 100000000000) :
    Calls Yba.prog 16 #[.pointer (some ⟨S, 0, none⟩), .pointer (some ⟨b, o, none⟩), .int .u32 off, .iface 66 (.pointer (some ⟨C, 0, none⟩))] w fun e w' => e = .returned (.bool true) ∧ ∃ v', Acc w' C base (n + 1) (xs ++ accCells off 2 (-8 - (d + 8)) (-8 - (d + 8) + 8) true) v' ∧ Grew C (w.setCell ⟨S, 1, none⟩ (.int .i64 (d + 8))) v w' v' := by
  have HC : Hid (Acc w C base n xs v) := hc
  clear hc
  obtain ⟨h12, h13, h14, h15, h16, h24⟩ := h
  have hS : S < w.heap.size := World.block_lt_of_cell? w _ h0
  have hA : A < w.heap.size := ha.lt
  have hI : b < w.heap.size := World.block_lt_of_cell? w _ h12
  have HA : Hid (ArchAt w A) := ha
  have H0 : Hid (w.cell? ⟨S, 0, none⟩ = some (.pointer (some ⟨A, 0, none⟩)) ∧ w.cell? ⟨S, 1, none⟩ = some (.int .i64 d) ∧ w.frozen? ⟨S, 1, none⟩ = false) := ⟨h0, h1, f1⟩
  obtain ⟨a1, a2, a3⟩ := ha
  have hn := nil_c
  have hm := meth_c
  go_enter Yba.func16, Yba.ntmps16
  go_wp2_with fail
  go_quiet (fail)
  go_wp2_with fail
  refine (reg_none S A (w.drewN nq) h0 HA.out).mono ?_
  rintro e w1 ⟨rfl, hb1⟩
  have B1 : Below w.heap.size w w1 := (below_drewN (Below.refl w.heap.size w) nq).trans hb1
  clear hb1
  have g0 := (B1.cell (p := ⟨S, 0, none⟩) hS).trans h0
  have g1 := (B1.cell (p := ⟨S, 1, none⟩) hS).trans h1
  have gf1 := (B1.frozen (p := ⟨S, 1, none⟩) hS).trans f1
  have GA : Hid (ArchAt w1 A) := HA.out.below B1 hA
  obtain ⟨b1, b2, b3⟩ := GA.out
  have hz1 := B1.size
  have hS1 : S < w1.heap.size := Nat.lt_of_lt_of_le hS hz1
  have hA1 : A < w1.heap.size := Nat.lt_of_lt_of_le hA hz1
  have HB1 : Hid (Below w.heap.size w w1) := B1
  clear B1 a1 a2 a3 h0 h1 f1 h12 h13 h14 h15 h16 h24 hz1
  unfold zeroVal
  go_wp2_with fail
  refine (frame_zero _).mono ?_
  rintro e w2 ⟨rfl, hb2⟩
  have B2 : Below w.heap.size w w2 := (HB1.out.alloc HB1.out.size _).trans (hb2.mono (by simp; have := HB1.out.size; omega))
  clear hb2
  have k0 := (B2.cell (p := ⟨S, 0, none⟩) hS).trans H0.out.1
  have k1 := (B2.cell (p := ⟨S, 1, none⟩) hS).trans H0.out.2.1
  have kf1 := (B2.frozen (p := ⟨S, 1, none⟩) hS).trans H0.out.2.2
  have KA : Hid (ArchAt w2 A) := HA.out.below B2 hA
  obtain ⟨q1, q2, q3⟩ := KA.out
  have HB2 : Hid (Below w.heap.size w w2) := B2
  have hw1 : d + 8 ≤ 9223372036854775807 := by omega
  have hw2 : -9223372036854775808 ≤ d + 8 := by omega
  clear B2 b1 b2 b3 g0 g1 gf1 hS1 hA1 GA HB1
  go_wp2_with fail
  refine (sp_any S A (d + 8) _ ?_ ?_ ?_ (by omega) (by omega)).mono ?_
  · rw [World.cell?_setCell_other _ _ _ _ (by simp)]; exact k0
  · exact World.cell?_setCell_same' _ _ _ (by rw [k1]; rfl)
  · exact ⟨by rw [World.cell?_setCell_other _ _ _ _ (by intro e; injection e with e; exact hAS e.symm)]; exact q1, by rw [World.cell?_setCell_other _ _ _ _ (by intro e; injection e with e; exact hAS e.symm)]; exact q2, by rw [World.cell?_setCell_other _ _ _ _ (by intro e; injection e with e; exact hAS e.symm)]; exact q3⟩
  rintro e w3 ⟨rfl, hb3⟩
  have B3 : Below w.heap.size (w.setCell ⟨S, 1, none⟩ (.int .i64 (d + 8))) w3 := (Below.set_both HB2.out _ _).trans (hb3.mono (by simp; exact HB2.out.size))
  clear hb3 k0 k1 kf1 q1 q2 q3 KA
  have HB3 : Hid (Below w.heap.size (w.setCell ⟨S, 1, none⟩ (.int .i64 (d + 8))) w3) := B3
  have hz3 : w.heap.size ≤ w3.heap.size := by have := B3.size; simpa using this
  clear B3
  have hw3 : -8 - (d + 8) + 8 ≤ 9223372036854775807 := by omega
  have hw4 : -9223372036854775808 ≤ -8 - (d + 8) + 8 := by omega
  have hf := field92
  go_upto_region 50 with fail
  conv in (Callee.invoke _ _) =>
    arg 2
    tactic => exact (by kernel_rfl : (_ : String) = accessName)
  go_wp2_with fail
  have HC3 : Hid (Acc w3 C base n xs v) := (HC.out.set (j := 1) (x := .int .i64 (d + 8)) hSC hSv).below (by simpa using HB3.out)
  refine (access_c C base n xs v off 2 (-8 - (d + 8)) (-8 - (d + 8) + 8) true w3 HC3.out hnn).mono ?_
  rintro e w4 ⟨rfl, hb4⟩
  have HB4 : Hid (∃ v', Acc w4 C base (n + 1) (xs ++ accCells off 2 (-8 - (d + 8)) (-8 - (d + 8) + 8) true) v' ∧ Grew C (w.setCell ⟨S, 1, none⟩ (.int .i64 (d + 8))) v w4 v') := by
    obtain ⟨v', a1, g1⟩ := hb4
    refine ⟨v', a1, (Grew.of_below (by simpa using HB3.out) ?_).trans g1⟩
    have := HC.out.lt
    have := HC.out.ble
    simp
    omega
  clear hb4
  go_wp2_with fail
  go_ret
  exact ⟨rfl, HB4⟩

set_option maxRecDepth 100000 in
set_option maxHeartbeats 2000000 in
theorem pop_c (S A C base n : Nat) (xs : List Value) (v : Value) (b o : Nat) (off d : Int) (w : World) (h : InstAt w b o 11 false) (h0 : w.cell? ⟨S, 0, none⟩ = some (.pointer (some ⟨A, 0, none⟩))) (h1 : w.cell? ⟨S, 1, none⟩ = some (.int .i64 d)) (f1 : w.frozen? ⟨S, 1, none⟩ = false)
    (ha : ArchAt w A) (hbS : b ≠ S) (hc : Acc w C base n xs v) (hnn : n ≤ 1048576) (hSC : S ≠ C) (hSv : some S ≠ v.ownBlock) (hbC : b ≠ C) (hbv : some b ≠ v.ownBlock) (hd1 : -100000000000 ≤ d) (hd2 : d ≤ 100000000000) :
    Calls Yba.prog 16 #[.pointer (some ⟨S, 0, none⟩), .pointer (some ⟨b, o, none⟩), .int .u32 off, .iface 66 (.pointer (some ⟨C, 0, none⟩))] w fun e w' => e = .returned (.bool true) ∧ ∃ v', Acc w' C base (n + 1) (xs ++ accCells off 1 (-8 - d) (-8 - d + 8) false) v' ∧ Grew C (w.setCell ⟨S, 1, none⟩ (.int .i64 (d - 8))) v w' v' := by
  have HC : Hid (Acc w C base n xs v) := hc
  clear hc
  have HI : Hid (InstAt w b o 11 false) := h
  obtain ⟨h12, h13, h14, h15, h16, h24⟩ := h
  have hS : S < w.heap.size := World.block_lt_of_cell? w _ h0
  have hA : A < w.heap.size := ha.lt
  have hI : b < w.heap.size := World.block_lt_of_cell? w _ h12
  have HA : Hid (ArchAt w A) := ha
  have H0 : Hid (w.cell? ⟨S, 0, none⟩ = some (.pointer (some ⟨A, 0, none⟩)) ∧ w.cell? ⟨S, 1, none⟩ = some (.int .i64 d) ∧ w.frozen? ⟨S, 1, none⟩ = false) := ⟨h0, h1, f1⟩
  obtain ⟨a1, a2, a3⟩ := ha
  have hn := nil_c
  have hm := meth_c
  have hf := field92
  go_enter Yba.func16, Yba.ntmps16
  go_wp2_with fail
  go_quiet (fail)
  go_wp2_with fail
  refine (sp_any S A d (w.drewN nq) h0 h1 HA.out (by omega) (by omega)).mono ?_
  rintro e w1 ⟨rfl, hb1⟩
  have HB1 : Hid (Below w.heap.size w w1) := (below_drewN (Below.refl w.heap.size w) nq).trans hb1
  clear hb1 h0 h1 f1 a1 a2 a3 h12 h13 h14 h15 h16 h24
  have hw3 : -8 - d + 8 ≤ 9223372036854775807 := by omega
  have hw4 : -9223372036854775808 ≤ -8 - d + 8 := by omega
  go_upto_region 55 with fail
  conv in (Callee.invoke _ _) =>
    arg 2
    tactic => exact (by kernel_rfl : (_ : String) = accessName)
  go_wp2_with fail
  have HC1 : Hid (Acc w1 C base n xs v) := HC.out.below HB1.out
  refine (access_c C base n xs v off 1 (-8 - d) (-8 - d + 8) false w1 HC1.out hnn).mono ?_
  rintro e w2 ⟨rfl, hb2⟩
  obtain ⟨v', HA2, HG2⟩ : ∃ v', Hid (Acc w2 C base (n + 1) (xs ++ accCells off 1 (-8 - d) (-8 - d + 8) false) v') ∧ Hid (Grew C w v w2 v') := by
    obtain ⟨v', a1, g1⟩ := hb2
    refine ⟨v', a1, (Grew.of_below HB1.out ?_).trans g1⟩
    have := HC.out.lt
    have := HC.out.ble
    omega
  clear hb2
  have hSv' : Hid (some S ≠ v'.ownBlock) := by
    rcases HG2.out.at' with e | ⟨g, e, hg⟩
    · rw [e]; exact hSv
    · rw [e]; intro q; injection q with q; omega
  have k0 := (World.cell?_of_block (a := ⟨S, 0, none⟩) (HG2.out.block S hS hSC hSv)).trans H0.out.1
  have k1 := (World.cell?_of_block (a := ⟨S, 1, none⟩) (HG2.out.block S hS hSC hSv)).trans H0.out.2.1
  have kf1 := (World.frozen?_of_block (a := ⟨S, 1, none⟩) (HG2.out.block S hS hSC hSv)).trans H0.out.2.2
  have k15 := (World.cell?_of_block (a := ⟨b, o + 15, none⟩) (HG2.out.block b hI hbC hbv)).trans HI.out.dst
  have k12 : Hid (w2.cell? ⟨b, o + 12, none⟩ = some (.int .u8 0)) := (World.cell?_of_block (a := ⟨b, o + 12, none⟩) (HG2.out.block b hI hbC hbv)).trans HI.out.use
  have hw1 : d - 8 ≤ 9223372036854775807 := by omega
  have hw2 : -9223372036854775808 ≤ d - 8 := by omega
  go_wp2_with fail
  refine (operate_none S b o off _ _ ?_).mono ?_
  · rw [World.cell?_setCell_other _ _ _ _ (by intro e; injection e with e; exact hbS e.symm)]; exact k12.out
  rintro e w3 ⟨rfl, rfl⟩
  have j15 : (w2.setCell ⟨S, 1, none⟩ (.int .i64 (d - 8))).cell? ⟨b, o + 15, none⟩ = some (.int .i8 (-1)) := by
    rw [World.cell?_setCell_other _ _ _ _ (by intro e; injection e with e; exact hbS e.symm)]; exact k15
  go_wp2_with fail
  go_ret
  exact ⟨rfl, v', HA2.out.set hSC hSv'.out, HG2.out.set hSC⟩

end Go.Proofs.Ybulkfqak
