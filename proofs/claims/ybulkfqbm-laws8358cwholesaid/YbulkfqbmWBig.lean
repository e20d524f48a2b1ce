import Derived.Test.YbulkfqbmWMain
namespace Go.Proofs.Ybulkfqbm
open Go.RowKit

/-- a new block, written alone, since: all that was there is as it was -/
theorem below_of_grown {w w' : World} {o : Obj} (hg : (w.alloc o).grownBy w' (some w.heap.size)) : Below w.heap.size w w' :=
  ⟨hg.os, hg.tape, hg.output, Nat.le_trans (by simp) hg.size, fun k hk => (hg.block k (by simp; omega) (by intro e; simp at e; omega)).trans (Below.heap_alloc _ _ _ hk)⟩
theorem bel_alloc (w : World) (o : Obj) : Below w.heap.size w (w.alloc o) := (Below.refl _ _).alloc (Nat.le_refl _) o

set_option maxRecDepth 100000 in
set_option maxHeartbeats 2000000 in
theorem w_big_nz (hi lo scale : Int) (neg : Bool) (v : Value) (bs : List Int) (w : World) (hl : bs.length ≤ 1048576) (hv : ByteSl w v bs) (hz : ¬ ∀ j, j < bs.length → byteAt bs j = 0) :
    Calls Yba.prog 3 #[.int .u64 hi, .int .u64 lo, .int .i32 scale, .bool neg, .bool true, v, .bool true] w fun e w' => e = .returned (.bool true) ∧ Below w.heap.size w w' := by
  have hv0 := hv
  obtain ⟨a, cap, rfl, _⟩ := hv
  have HV : Hid (ByteSl w (.slice a bs.length cap) bs) := hv0
  have HZ0 : Hid _ := hz
  clear hv0 hz
  go_enter Yba.func3, Yba.ntmps3
  go_wp2_with fail
  have hz := HZ0.out
  refine (iSetBytes (w.heap.size + 1) _ bs _ (by have := Blk.new (w.alloc (.cells #[.int .u64 hi, .int .u64 lo, .pointer none, .int .i32 scale, .bool neg] 28)) #[.bool false, .slice none 0 0] 32; simpa using this) (ByteSl.below HV ((bel_alloc _ _).alloc (by simp) _)) hl).mono ?_
  rintro e w1 ⟨rfl, u, ws, hZ1, hN1, hws, hlen, hb1⟩
  have hwl : 0 < ws.length := by
    rcases Nat.eq_zero_or_pos ws.length with e | e
    · exact absurd (hws.1 (List.eq_nil_of_length_eq_zero e)) hz
    · exact e
  obtain ⟨a1, cap1, rfl, hN1'⟩ := hN1
  have hN1 : NatIs (w.heap.size + 1 + 1) w1 (.slice a1 ws.length cap1) ws := ⟨a1, cap1, rfl, by simpa using hN1'⟩
  have hD1 : Blk w1 w.heap.size #[.int .u64 hi, .int .u64 lo, .pointer none, .int .i32 scale, .bool neg] 28 := (hb1.block _ (by omega)).trans ((Blk.new w _ 28).alloc _)
  have hbw1 : Below w.heap.size w w1 := ((bel_alloc _ _).alloc (by simp) _).trans (hb1.mono (by omega))
  clear hb1 hws hz hN1'
  have HW1 : Hid (Blk w1 (w.heap.size + 1) #[.bool false, .slice a1 ws.length cap1] 32 ∧ NatIs (w.heap.size + 1 + 1) w1 (.slice a1 ws.length cap1) ws ∧ Blk w1 w.heap.size #[.int .u64 hi, .int .u64 lo, .pointer none, .int .i32 scale, .bool neg] 28 ∧ Below w.heap.size w w1) := ⟨hZ1, hN1, hD1, hbw1⟩
  clear hZ1 hN1 hD1 hbw1
  go_wp2_with fail
  obtain ⟨hZ1, hN1, hD1, hbw1⟩ := HW1.out
  clear HW1
  refine (iNeg _ a1 ws.length cap1 w1 hZ1).mono ?_
  rintro e w2 ⟨rfl, hw2⟩
  rw [decide_eq_true hwl] at hw2
  have hZ2 : Blk w2 (w.heap.size + 1) #[.bool true, .slice a1 ws.length cap1] 32 := by rw [hw2]; exact hZ1.set 0 (.bool true)
  have hN2 : NatIs (w.heap.size + 1 + 1) w2 (.slice a1 ws.length cap1) ws := by rw [hw2]; exact NatIs.setCell hN1 (a := ⟨w.heap.size + 1, 0, none⟩) (by simp) _
  have hD2 : Blk w2 w.heap.size #[.int .u64 hi, .int .u64 lo, .pointer none, .int .i32 scale, .bool neg] 28 := by rw [hw2]; exact hD1.setOther (a := ⟨w.heap.size + 1, 0, none⟩) (by simp) _
  have hb2 : Below w.heap.size w w2 := by rw [hw2]; exact hbw1.setCell (p := ⟨w.heap.size + 1, 0, none⟩) (by simp) _
  clear hw2
  have HW2 : Hid (Blk w2 (w.heap.size + 1) #[.bool true, .slice a1 ws.length cap1] 32 ∧ NatIs (w.heap.size + 1 + 1) w2 (.slice a1 ws.length cap1) ws ∧ Blk w2 w.heap.size #[.int .u64 hi, .int .u64 lo, .pointer none, .int .i32 scale, .bool neg] 28 ∧ Below w.heap.size w w2) := ⟨hZ2, hN2, hD2, hb2⟩
  clear hZ2 hN2 hD2 hb2 hZ1 hN1 hD1 hbw1
  go_wp2_with fail
  obtain ⟨hZ2, hN2, hD2, hb2⟩ := HW2.out
  clear HW2
  have hb2K := bel_alloc w2 (.cells #[.bool false, .slice none 0 0] 32)
  have hZlt := hZ2.lt
  refine (iSet w2.heap.size (w.heap.size + 1) (w.heap.size + 1 + 1) true _ ws _ (by omega) (Blk.new w2 _ 32) (hZ2.below hb2K) (hN2.below hb2K) hlen).mono ?_
  rintro e w3 ⟨rfl, u3, hK3, hNK3, hg3⟩
  have hb3 := below_of_grown hg3
  have hZ3 := hZ2.below hb3
  have hN3 := hN2.below hb3
  have hD3 := hD2.below hb3
  have hbw3 : Below w.heap.size w w3 := hb2.trans (hb3.mono hb2.size)
  obtain ⟨a3, cap3, rfl, hNK3'⟩ := hNK3
  have hNK3 : NatIs (w2.heap.size + 1) w3 (.slice a3 ws.length cap3) ws := ⟨a3, cap3, rfl, by simpa using hNK3'⟩
  have d2 := hD3.cell 2
  have f2 := hD3.frozen 2
  simp at d2
  obtain ⟨w4, hw4⟩ : ∃ w4, w4 = w3.setCell ⟨w.heap.size, 2, none⟩ (.pointer (some ⟨w.heap.size + 1, 0, none⟩)) := ⟨_, rfl⟩
  have HZ4 : Hid (Blk w4 (w.heap.size + 1) #[.bool true, .slice a1 ws.length cap1] 32) := by rw [hw4]; exact hZ3.setOther (a := ⟨w.heap.size, 2, none⟩) (by simp) _
  have HK4 : Hid (Blk w4 w2.heap.size #[.bool true, .slice a3 ws.length cap3] 32) := by rw [hw4]; exact hK3.setOther (a := ⟨w.heap.size, 2, none⟩) (by simp; omega) _
  have HN4 : Hid (NatIs (w.heap.size + 1 + 1) w4 (.slice a1 ws.length cap1) ws) := by rw [hw4]; exact NatIs.setCell hN3 (a := ⟨w.heap.size, 2, none⟩) (by simp; omega) _
  have HNK4 : Hid (NatIs (w2.heap.size + 1) w4 (.slice a3 ws.length cap3) ws) := by rw [hw4]; exact NatIs.setCell hNK3 (a := ⟨w.heap.size, 2, none⟩) (by simp; omega) _
  have hD4 : Blk w4 w.heap.size #[.int .u64 hi, .int .u64 lo, .pointer (some ⟨w.heap.size + 1, 0, none⟩), .int .i32 scale, .bool neg] 28 := by rw [hw4]; exact hD3.set 2 _
  have HB4 : Hid (Below w.heap.size w w4) := by rw [hw4]; exact hbw3.setCell (p := ⟨w.heap.size, 2, none⟩) (Nat.le_refl _) _
  have HD4 : Hid (Blk w4 w.heap.size #[.int .u64 hi, .int .u64 lo, .pointer (some ⟨w.heap.size + 1, 0, none⟩), .int .i32 scale, .bool neg] 28) := hD4
  have hne : w.heap.size + 1 ≠ w2.heap.size := by omega
  have HW4 : Hid (w4 = w3.setCell ⟨w.heap.size, 2, none⟩ (.pointer (some ⟨w.heap.size + 1, 0, none⟩))) := hw4
  generalize w2.heap.size = K at *
  clear hb2K hZlt hK3 hg3 hb3 hZ3 hN3 hD3 hbw3 hNK3 hNK3' hZ2 hN2 hD2 hb2 hD4 hw4
  go_wp2_with fail
  rw [← HW4.out]
  clear HW4 d2 f2
  have hv4 := ByteSl.below HV HB4
  have hz := HZ0.out
  refine (bigsign_not _ bs _ w4 hv4 hl hz).mono ?_
  rintro e w5 ⟨rfl, rfl⟩
  clear hz hv4
  have d0 := Blk.cell HD4 0
  have d1 := Blk.cell HD4 1
  have d2 := Blk.cell HD4 2
  have d3 := Blk.cell HD4 3
  have d4 := Blk.cell HD4 4
  simp at d0 d1 d2 d3 d4
  go_wp2_with fail
  refine (dsign_big hi lo scale neg (w.heap.size + 1) (-1) _ (fun o => iSign_neg _ ws.length cap1 a1 _ hwl (Blk.alloc HZ4 o))).mono ?_
  rintro e w6 ⟨rfl, hb6⟩
  have hZ6 := Blk.below HZ4 hb6
  have hK6 := Blk.below HK4 hb6
  have hN6 := NatIs.below HN4 hb6
  have hNK6 := NatIs.below HNK4 hb6
  have hD6 := Blk.below HD4 hb6
  have HB6 : Hid (Below w.heap.size w w6) := Below.trans HB4 (hb6.mono (Below.size HB4))
  have HC6 : Hid _ := iCmp (w.heap.size + 1) K _ _ true _ _ ws w6 hne hZ6 hK6 hN6 hNK6 hlen
  have e0 := hD6.cell 0
  have e1 := hD6.cell 1
  have e2 := hD6.cell 2
  have e3 := hD6.cell 3
  have e4 := hD6.cell 4
  simp at e0 e1 e2 e3 e4
  clear hb6 hZ6 hK6 hN6 hNK6 hD6 d0 d1 d2 d3 d4 HZ4 HK4 HN4 HNK4 HD4 HB4
  go_wp2_with fail
  refine Calls.mono HC6 ?_
  rintro e w7 ⟨rfl, k, rfl⟩
  go_wp2_with fail
  go_ret
  exact ⟨rfl, bel_drewN HB6⟩

set_option maxRecDepth 100000 in
set_option maxHeartbeats 2000000 in
theorem w_big_nn (hi lo scale : Int) (neg : Bool) (v : Value) (bs : List Int) (w : World) (hl : bs.length ≤ 1048576) (hv : ByteSl w v bs) (hz : ¬ ∀ j, j < bs.length → byteAt bs j = 0) :
    Calls Yba.prog 3 #[.int .u64 hi, .int .u64 lo, .int .i32 scale, .bool neg, .bool true, v, .bool false] w fun e w' => e = .returned (.bool true) ∧ Below w.heap.size w w' := by
  have hv0 := hv
  obtain ⟨a, cap, rfl, _⟩ := hv
  have HV : Hid (ByteSl w (.slice a bs.length cap) bs) := hv0
  have HZ0 : Hid _ := hz
  clear hv0 hz
  go_enter Yba.func3, Yba.ntmps3
  go_wp2_with fail
  have hz := HZ0.out
  refine (iSetBytes (w.heap.size + 1) _ bs _ (by have := Blk.new (w.alloc (.cells #[.int .u64 hi, .int .u64 lo, .pointer none, .int .i32 scale, .bool neg] 28)) #[.bool false, .slice none 0 0] 32; simpa using this) (ByteSl.below HV ((bel_alloc _ _).alloc (by simp) _)) hl).mono ?_
  rintro e w1 ⟨rfl, u, ws, hZ1, hN1, hws, hlen, hb1⟩
  have hwl : 0 < ws.length := by
    rcases Nat.eq_zero_or_pos ws.length with e | e
    · exact absurd (hws.1 (List.eq_nil_of_length_eq_zero e)) hz
    · exact e
  obtain ⟨a1, cap1, rfl, hN1'⟩ := hN1
  have hN1 : NatIs (w.heap.size + 1 + 1) w1 (.slice a1 ws.length cap1) ws := ⟨a1, cap1, rfl, by simpa using hN1'⟩
  have hD1 : Blk w1 w.heap.size #[.int .u64 hi, .int .u64 lo, .pointer none, .int .i32 scale, .bool neg] 28 := (hb1.block _ (by omega)).trans ((Blk.new w _ 28).alloc _)
  have hbw1 : Below w.heap.size w w1 := ((bel_alloc _ _).alloc (by simp) _).trans (hb1.mono (by omega))
  clear hb1 hws hz hN1'
  have HW1 : Hid (Blk w1 (w.heap.size + 1) #[.bool false, .slice a1 ws.length cap1] 32 ∧ NatIs (w.heap.size + 1 + 1) w1 (.slice a1 ws.length cap1) ws ∧ Blk w1 w.heap.size #[.int .u64 hi, .int .u64 lo, .pointer none, .int .i32 scale, .bool neg] 28 ∧ Below w.heap.size w w1) := ⟨hZ1, hN1, hD1, hbw1⟩
  clear hZ1 hN1 hD1 hbw1
  go_wp2_with fail
  obtain ⟨hZ1, hN1, hD1, hbw1⟩ := HW1.out
  clear HW1
  have hZ2 := hZ1
  have hN2 := hN1
  have hD2 := hD1
  have hb2 := hbw1
  generalize w1 = w2 at *
  have HW2 : Hid (Blk w2 (w.heap.size + 1) #[.bool false, .slice a1 ws.length cap1] 32 ∧ NatIs (w.heap.size + 1 + 1) w2 (.slice a1 ws.length cap1) ws ∧ Blk w2 w.heap.size #[.int .u64 hi, .int .u64 lo, .pointer none, .int .i32 scale, .bool neg] 28 ∧ Below w.heap.size w w2) := ⟨hZ2, hN2, hD2, hb2⟩
  clear hZ2 hN2 hD2 hb2
  skip
  obtain ⟨hZ2, hN2, hD2, hb2⟩ := HW2.out
  clear HW2
  have hb2K := bel_alloc w2 (.cells #[.bool false, .slice none 0 0] 32)
  have hZlt := hZ2.lt
  refine (iSet w2.heap.size (w.heap.size + 1) (w.heap.size + 1 + 1) false _ ws _ (by omega) (Blk.new w2 _ 32) (hZ2.below hb2K) (hN2.below hb2K) hlen).mono ?_
  rintro e w3 ⟨rfl, u3, hK3, hNK3, hg3⟩
  have hb3 := below_of_grown hg3
  have hZ3 := hZ2.below hb3
  have hN3 := hN2.below hb3
  have hD3 := hD2.below hb3
  have hbw3 : Below w.heap.size w w3 := hb2.trans (hb3.mono hb2.size)
  obtain ⟨a3, cap3, rfl, hNK3'⟩ := hNK3
  have hNK3 : NatIs (w2.heap.size + 1) w3 (.slice a3 ws.length cap3) ws := ⟨a3, cap3, rfl, by simpa using hNK3'⟩
  have d2 := hD3.cell 2
  have f2 := hD3.frozen 2
  simp at d2
  obtain ⟨w4, hw4⟩ : ∃ w4, w4 = w3.setCell ⟨w.heap.size, 2, none⟩ (.pointer (some ⟨w.heap.size + 1, 0, none⟩)) := ⟨_, rfl⟩
  have HZ4 : Hid (Blk w4 (w.heap.size + 1) #[.bool false, .slice a1 ws.length cap1] 32) := by rw [hw4]; exact hZ3.setOther (a := ⟨w.heap.size, 2, none⟩) (by simp) _
  have HK4 : Hid (Blk w4 w2.heap.size #[.bool false, .slice a3 ws.length cap3] 32) := by rw [hw4]; exact hK3.setOther (a := ⟨w.heap.size, 2, none⟩) (by simp; omega) _
  have HN4 : Hid (NatIs (w.heap.size + 1 + 1) w4 (.slice a1 ws.length cap1) ws) := by rw [hw4]; exact NatIs.setCell hN3 (a := ⟨w.heap.size, 2, none⟩) (by simp; omega) _
  have HNK4 : Hid (NatIs (w2.heap.size + 1) w4 (.slice a3 ws.length cap3) ws) := by rw [hw4]; exact NatIs.setCell hNK3 (a := ⟨w.heap.size, 2, none⟩) (by simp; omega) _
  have hD4 : Blk w4 w.heap.size #[.int .u64 hi, .int .u64 lo, .pointer (some ⟨w.heap.size + 1, 0, none⟩), .int .i32 scale, .bool neg] 28 := by rw [hw4]; exact hD3.set 2 _
  have HB4 : Hid (Below w.heap.size w w4) := by rw [hw4]; exact hbw3.setCell (p := ⟨w.heap.size, 2, none⟩) (Nat.le_refl _) _
  have HD4 : Hid (Blk w4 w.heap.size #[.int .u64 hi, .int .u64 lo, .pointer (some ⟨w.heap.size + 1, 0, none⟩), .int .i32 scale, .bool neg] 28) := hD4
  have hne : w.heap.size + 1 ≠ w2.heap.size := by omega
  have HW4 : Hid (w4 = w3.setCell ⟨w.heap.size, 2, none⟩ (.pointer (some ⟨w.heap.size + 1, 0, none⟩))) := hw4
  generalize w2.heap.size = K at *
  clear hb2K hZlt hK3 hg3 hb3 hZ3 hN3 hD3 hbw3 hNK3 hNK3' hZ2 hN2 hD2 hb2 hD4 hw4
  go_wp2_with fail
  rw [← HW4.out]
  clear HW4 d2 f2
  have hv4 := ByteSl.below HV HB4
  have hz := HZ0.out
  refine (bigsign_not _ bs _ w4 hv4 hl hz).mono ?_
  rintro e w5 ⟨rfl, rfl⟩
  clear hz hv4
  have d0 := Blk.cell HD4 0
  have d1 := Blk.cell HD4 1
  have d2 := Blk.cell HD4 2
  have d3 := Blk.cell HD4 3
  have d4 := Blk.cell HD4 4
  simp at d0 d1 d2 d3 d4
  go_wp2_with fail
  refine (dsign_big hi lo scale neg (w.heap.size + 1) 1 _ (fun o => iSign_pos _ ws.length cap1 a1 _ hwl (Blk.alloc HZ4 o))).mono ?_
  rintro e w6 ⟨rfl, hb6⟩
  have hZ6 := Blk.below HZ4 hb6
  have hK6 := Blk.below HK4 hb6
  have hN6 := NatIs.below HN4 hb6
  have hNK6 := NatIs.below HNK4 hb6
  have hD6 := Blk.below HD4 hb6
  have HB6 : Hid (Below w.heap.size w w6) := Below.trans HB4 (hb6.mono (Below.size HB4))
  have HC6 : Hid _ := iCmp (w.heap.size + 1) K _ _ false _ _ ws w6 hne hZ6 hK6 hN6 hNK6 hlen
  have e0 := hD6.cell 0
  have e1 := hD6.cell 1
  have e2 := hD6.cell 2
  have e3 := hD6.cell 3
  have e4 := hD6.cell 4
  simp at e0 e1 e2 e3 e4
  clear hb6 hZ6 hK6 hN6 hNK6 hD6 d0 d1 d2 d3 d4 HZ4 HK4 HN4 HNK4 HD4 HB4
  go_wp2_with fail
  refine Calls.mono HC6 ?_
  rintro e w7 ⟨rfl, k, rfl⟩
  go_wp2_with fail
  go_ret
  exact ⟨rfl, bel_drewN HB6⟩

set_option maxRecDepth 100000 in
set_option maxHeartbeats 2000000 in
theorem w_big_zn (hi lo scale : Int) (neg : Bool) (v : Value) (bs : List Int) (w : World) (hl : bs.length ≤ 1048576) (hv : ByteSl w v bs) (hz : ∀ j, j < bs.length → byteAt bs j = 0) :
    Calls Yba.prog 3 #[.int .u64 hi, .int .u64 lo, .int .i32 scale, .bool neg, .bool true, v, .bool true] w fun e w' => e = .returned (.bool true) ∧ Below w.heap.size w w' := by
  have hv0 := hv
  obtain ⟨a, cap, rfl, _⟩ := hv
  have HV : Hid (ByteSl w (.slice a bs.length cap) bs) := hv0
  have HZ0 : Hid _ := hz
  clear hv0 hz
  go_enter Yba.func3, Yba.ntmps3
  go_wp2_with fail
  have hz := HZ0.out
  refine (iSetBytes (w.heap.size + 1) _ bs _ (by have := Blk.new (w.alloc (.cells #[.int .u64 hi, .int .u64 lo, .pointer none, .int .i32 scale, .bool neg] 28)) #[.bool false, .slice none 0 0] 32; simpa using this) (ByteSl.below HV ((bel_alloc _ _).alloc (by simp) _)) hl).mono ?_
  rintro e w1 ⟨rfl, u, ws, hZ1, hN1, hws, hlen, hb1⟩
  have hwl : ws.length = 0 := by rw [hws.2 hz]; rfl
  obtain ⟨a1, cap1, rfl, hN1'⟩ := hN1
  have hN1 : NatIs (w.heap.size + 1 + 1) w1 (.slice a1 ws.length cap1) ws := ⟨a1, cap1, rfl, by simpa using hN1'⟩
  have hD1 : Blk w1 w.heap.size #[.int .u64 hi, .int .u64 lo, .pointer none, .int .i32 scale, .bool neg] 28 := (hb1.block _ (by omega)).trans ((Blk.new w _ 28).alloc _)
  have hbw1 : Below w.heap.size w w1 := ((bel_alloc _ _).alloc (by simp) _).trans (hb1.mono (by omega))
  clear hb1 hws hz hN1'
  have HW1 : Hid (Blk w1 (w.heap.size + 1) #[.bool false, .slice a1 ws.length cap1] 32 ∧ NatIs (w.heap.size + 1 + 1) w1 (.slice a1 ws.length cap1) ws ∧ Blk w1 w.heap.size #[.int .u64 hi, .int .u64 lo, .pointer none, .int .i32 scale, .bool neg] 28 ∧ Below w.heap.size w w1) := ⟨hZ1, hN1, hD1, hbw1⟩
  clear hZ1 hN1 hD1 hbw1
  go_wp2_with fail
  obtain ⟨hZ1, hN1, hD1, hbw1⟩ := HW1.out
  clear HW1
  refine (iNeg _ a1 ws.length cap1 w1 hZ1).mono ?_
  rintro e w2 ⟨rfl, hw2⟩
  rw [decide_eq_false (by omega : ¬ 0 < ws.length)] at hw2
  have hZ2 : Blk w2 (w.heap.size + 1) #[.bool false, .slice a1 ws.length cap1] 32 := by rw [hw2]; exact hZ1.set 0 (.bool false)
  have hN2 : NatIs (w.heap.size + 1 + 1) w2 (.slice a1 ws.length cap1) ws := by rw [hw2]; exact NatIs.setCell hN1 (a := ⟨w.heap.size + 1, 0, none⟩) (by simp) _
  have hD2 : Blk w2 w.heap.size #[.int .u64 hi, .int .u64 lo, .pointer none, .int .i32 scale, .bool neg] 28 := by rw [hw2]; exact hD1.setOther (a := ⟨w.heap.size + 1, 0, none⟩) (by simp) _
  have hb2 : Below w.heap.size w w2 := by rw [hw2]; exact hbw1.setCell (p := ⟨w.heap.size + 1, 0, none⟩) (by simp) _
  clear hw2
  have HW2 : Hid (Blk w2 (w.heap.size + 1) #[.bool false, .slice a1 ws.length cap1] 32 ∧ NatIs (w.heap.size + 1 + 1) w2 (.slice a1 ws.length cap1) ws ∧ Blk w2 w.heap.size #[.int .u64 hi, .int .u64 lo, .pointer none, .int .i32 scale, .bool neg] 28 ∧ Below w.heap.size w w2) := ⟨hZ2, hN2, hD2, hb2⟩
  clear hZ2 hN2 hD2 hb2 hZ1 hN1 hD1 hbw1
  go_wp2_with fail
  obtain ⟨hZ2, hN2, hD2, hb2⟩ := HW2.out
  clear HW2
  have hb2K := bel_alloc w2 (.cells #[.bool false, .slice none 0 0] 32)
  have hZlt := hZ2.lt
  refine (iSet w2.heap.size (w.heap.size + 1) (w.heap.size + 1 + 1) false _ ws _ (by omega) (Blk.new w2 _ 32) (hZ2.below hb2K) (hN2.below hb2K) hlen).mono ?_
  rintro e w3 ⟨rfl, u3, hK3, hNK3, hg3⟩
  have hb3 := below_of_grown hg3
  have hZ3 := hZ2.below hb3
  have hN3 := hN2.below hb3
  have hD3 := hD2.below hb3
  have hbw3 : Below w.heap.size w w3 := hb2.trans (hb3.mono hb2.size)
  obtain ⟨a3, cap3, rfl, hNK3'⟩ := hNK3
  have hNK3 : NatIs (w2.heap.size + 1) w3 (.slice a3 ws.length cap3) ws := ⟨a3, cap3, rfl, by simpa using hNK3'⟩
  have d2 := hD3.cell 2
  have f2 := hD3.frozen 2
  simp at d2
  obtain ⟨w4, hw4⟩ : ∃ w4, w4 = w3.setCell ⟨w.heap.size, 2, none⟩ (.pointer (some ⟨w.heap.size + 1, 0, none⟩)) := ⟨_, rfl⟩
  have HZ4 : Hid (Blk w4 (w.heap.size + 1) #[.bool false, .slice a1 ws.length cap1] 32) := by rw [hw4]; exact hZ3.setOther (a := ⟨w.heap.size, 2, none⟩) (by simp) _
  have HK4 : Hid (Blk w4 w2.heap.size #[.bool false, .slice a3 ws.length cap3] 32) := by rw [hw4]; exact hK3.setOther (a := ⟨w.heap.size, 2, none⟩) (by simp; omega) _
  have HN4 : Hid (NatIs (w.heap.size + 1 + 1) w4 (.slice a1 ws.length cap1) ws) := by rw [hw4]; exact NatIs.setCell hN3 (a := ⟨w.heap.size, 2, none⟩) (by simp; omega) _
  have HNK4 : Hid (NatIs (w2.heap.size + 1) w4 (.slice a3 ws.length cap3) ws) := by rw [hw4]; exact NatIs.setCell hNK3 (a := ⟨w.heap.size, 2, none⟩) (by simp; omega) _
  have hD4 : Blk w4 w.heap.size #[.int .u64 hi, .int .u64 lo, .pointer (some ⟨w.heap.size + 1, 0, none⟩), .int .i32 scale, .bool neg] 28 := by rw [hw4]; exact hD3.set 2 _
  have HB4 : Hid (Below w.heap.size w w4) := by rw [hw4]; exact hbw3.setCell (p := ⟨w.heap.size, 2, none⟩) (Nat.le_refl _) _
  have HD4 : Hid (Blk w4 w.heap.size #[.int .u64 hi, .int .u64 lo, .pointer (some ⟨w.heap.size + 1, 0, none⟩), .int .i32 scale, .bool neg] 28) := hD4
  have hne : w.heap.size + 1 ≠ w2.heap.size := by omega
  have HW4 : Hid (w4 = w3.setCell ⟨w.heap.size, 2, none⟩ (.pointer (some ⟨w.heap.size + 1, 0, none⟩))) := hw4
  generalize w2.heap.size = K at *
  clear hb2K hZlt hK3 hg3 hb3 hZ3 hN3 hD3 hbw3 hNK3 hNK3' hZ2 hN2 hD2 hb2 hD4 hw4
  go_wp2_with fail
  rw [← HW4.out]
  clear HW4 d2 f2
  have hv4 := ByteSl.below HV HB4
  have hz := HZ0.out
  refine (bigsign_zero _ bs _ w4 hv4 hl hz).mono ?_
  rintro e w5 ⟨rfl, rfl⟩
  clear hz hv4
  have d0 := Blk.cell HD4 0
  have d1 := Blk.cell HD4 1
  have d2 := Blk.cell HD4 2
  have d3 := Blk.cell HD4 3
  have d4 := Blk.cell HD4 4
  simp at d0 d1 d2 d3 d4
  go_wp2_with fail
  refine (dsign_big hi lo scale neg (w.heap.size + 1) 0 _ (fun o => iSign_zero _ cap1 false a1 _ (by have := HZ4.out.alloc o; rwa [hwl] at this))).mono ?_
  rintro e w6 ⟨rfl, hb6⟩
  have hZ6 := Blk.below HZ4 hb6
  have hK6 := Blk.below HK4 hb6
  have hN6 := NatIs.below HN4 hb6
  have hNK6 := NatIs.below HNK4 hb6
  have hD6 := Blk.below HD4 hb6
  have HB6 : Hid (Below w.heap.size w w6) := Below.trans HB4 (hb6.mono (Below.size HB4))
  have HC6 : Hid _ := iCmp (w.heap.size + 1) K _ _ false _ _ ws w6 hne hZ6 hK6 hN6 hNK6 hlen
  have e0 := hD6.cell 0
  have e1 := hD6.cell 1
  have e2 := hD6.cell 2
  have e3 := hD6.cell 3
  have e4 := hD6.cell 4
  simp at e0 e1 e2 e3 e4
  clear hb6 hZ6 hK6 hN6 hNK6 hD6 d0 d1 d2 d3 d4 HZ4 HK4 HN4 HNK4 HD4 HB4
  go_wp2_with fail
  refine Calls.mono HC6 ?_
  rintro e w7 ⟨rfl, k, rfl⟩
  go_wp2_with fail
  go_ret
  exact ⟨rfl, bel_drewN HB6⟩

set_option maxRecDepth 100000 in
set_option maxHeartbeats 2000000 in
theorem w_big_zz (hi lo scale : Int) (neg : Bool) (v : Value) (bs : List Int) (w : World) (hl : bs.length ≤ 1048576) (hv : ByteSl w v bs) (hz : ∀ j, j < bs.length → byteAt bs j = 0) :
    Calls Yba.prog 3 #[.int .u64 hi, .int .u64 lo, .int .i32 scale, .bool neg, .bool true, v, .bool false] w fun e w' => e = .returned (.bool true) ∧ Below w.heap.size w w' := by
  have hv0 := hv
  obtain ⟨a, cap, rfl, _⟩ := hv
  have HV : Hid (ByteSl w (.slice a bs.length cap) bs) := hv0
  have HZ0 : Hid _ := hz
  clear hv0 hz
  go_enter Yba.func3, Yba.ntmps3
  go_wp2_with fail
  have hz := HZ0.out
  refine (iSetBytes (w.heap.size + 1) _ bs _ (by have := Blk.new (w.alloc (.cells #[.int .u64 hi, .int .u64 lo, .pointer none, .int .i32 scale, .bool neg] 28)) #[.bool false, .slice none 0 0] 32; simpa using this) (ByteSl.below HV ((bel_alloc _ _).alloc (by simp) _)) hl).mono ?_
  rintro e w1 ⟨rfl, u, ws, hZ1, hN1, hws, hlen, hb1⟩
  have hwl : ws.length = 0 := by rw [hws.2 hz]; rfl
  obtain ⟨a1, cap1, rfl, hN1'⟩ := hN1
  have hN1 : NatIs (w.heap.size + 1 + 1) w1 (.slice a1 ws.length cap1) ws := ⟨a1, cap1, rfl, by simpa using hN1'⟩
  have hD1 : Blk w1 w.heap.size #[.int .u64 hi, .int .u64 lo, .pointer none, .int .i32 scale, .bool neg] 28 := (hb1.block _ (by omega)).trans ((Blk.new w _ 28).alloc _)
  have hbw1 : Below w.heap.size w w1 := ((bel_alloc _ _).alloc (by simp) _).trans (hb1.mono (by omega))
  clear hb1 hws hz hN1'
  have HW1 : Hid (Blk w1 (w.heap.size + 1) #[.bool false, .slice a1 ws.length cap1] 32 ∧ NatIs (w.heap.size + 1 + 1) w1 (.slice a1 ws.length cap1) ws ∧ Blk w1 w.heap.size #[.int .u64 hi, .int .u64 lo, .pointer none, .int .i32 scale, .bool neg] 28 ∧ Below w.heap.size w w1) := ⟨hZ1, hN1, hD1, hbw1⟩
  clear hZ1 hN1 hD1 hbw1
  go_wp2_with fail
  obtain ⟨hZ1, hN1, hD1, hbw1⟩ := HW1.out
  clear HW1
  have hZ2 := hZ1
  have hN2 := hN1
  have hD2 := hD1
  have hb2 := hbw1
  generalize w1 = w2 at *
  have HW2 : Hid (Blk w2 (w.heap.size + 1) #[.bool false, .slice a1 ws.length cap1] 32 ∧ NatIs (w.heap.size + 1 + 1) w2 (.slice a1 ws.length cap1) ws ∧ Blk w2 w.heap.size #[.int .u64 hi, .int .u64 lo, .pointer none, .int .i32 scale, .bool neg] 28 ∧ Below w.heap.size w w2) := ⟨hZ2, hN2, hD2, hb2⟩
  clear hZ2 hN2 hD2 hb2
  skip
  obtain ⟨hZ2, hN2, hD2, hb2⟩ := HW2.out
  clear HW2
  have hb2K := bel_alloc w2 (.cells #[.bool false, .slice none 0 0] 32)
  have hZlt := hZ2.lt
  refine (iSet w2.heap.size (w.heap.size + 1) (w.heap.size + 1 + 1) false _ ws _ (by omega) (Blk.new w2 _ 32) (hZ2.below hb2K) (hN2.below hb2K) hlen).mono ?_
  rintro e w3 ⟨rfl, u3, hK3, hNK3, hg3⟩
  have hb3 := below_of_grown hg3
  have hZ3 := hZ2.below hb3
  have hN3 := hN2.below hb3
  have hD3 := hD2.below hb3
  have hbw3 : Below w.heap.size w w3 := hb2.trans (hb3.mono hb2.size)
  obtain ⟨a3, cap3, rfl, hNK3'⟩ := hNK3
  have hNK3 : NatIs (w2.heap.size + 1) w3 (.slice a3 ws.length cap3) ws := ⟨a3, cap3, rfl, by simpa using hNK3'⟩
  have d2 := hD3.cell 2
  have f2 := hD3.frozen 2
  simp at d2
  obtain ⟨w4, hw4⟩ : ∃ w4, w4 = w3.setCell ⟨w.heap.size, 2, none⟩ (.pointer (some ⟨w.heap.size + 1, 0, none⟩)) := ⟨_, rfl⟩
  have HZ4 : Hid (Blk w4 (w.heap.size + 1) #[.bool false, .slice a1 ws.length cap1] 32) := by rw [hw4]; exact hZ3.setOther (a := ⟨w.heap.size, 2, none⟩) (by simp) _
  have HK4 : Hid (Blk w4 w2.heap.size #[.bool false, .slice a3 ws.length cap3] 32) := by rw [hw4]; exact hK3.setOther (a := ⟨w.heap.size, 2, none⟩) (by simp; omega) _
  have HN4 : Hid (NatIs (w.heap.size + 1 + 1) w4 (.slice a1 ws.length cap1) ws) := by rw [hw4]; exact NatIs.setCell hN3 (a := ⟨w.heap.size, 2, none⟩) (by simp; omega) _
  have HNK4 : Hid (NatIs (w2.heap.size + 1) w4 (.slice a3 ws.length cap3) ws) := by rw [hw4]; exact NatIs.setCell hNK3 (a := ⟨w.heap.size, 2, none⟩) (by simp; omega) _
  have hD4 : Blk w4 w.heap.size #[.int .u64 hi, .int .u64 lo, .pointer (some ⟨w.heap.size + 1, 0, none⟩), .int .i32 scale, .bool neg] 28 := by rw [hw4]; exact hD3.set 2 _
  have HB4 : Hid (Below w.heap.size w w4) := by rw [hw4]; exact hbw3.setCell (p := ⟨w.heap.size, 2, none⟩) (Nat.le_refl _) _
  have HD4 : Hid (Blk w4 w.heap.size #[.int .u64 hi, .int .u64 lo, .pointer (some ⟨w.heap.size + 1, 0, none⟩), .int .i32 scale, .bool neg] 28) := hD4
  have hne : w.heap.size + 1 ≠ w2.heap.size := by omega
  have HW4 : Hid (w4 = w3.setCell ⟨w.heap.size, 2, none⟩ (.pointer (some ⟨w.heap.size + 1, 0, none⟩))) := hw4
  generalize w2.heap.size = K at *
  clear hb2K hZlt hK3 hg3 hb3 hZ3 hN3 hD3 hbw3 hNK3 hNK3' hZ2 hN2 hD2 hb2 hD4 hw4
  go_wp2_with fail
  rw [← HW4.out]
  clear HW4 d2 f2
  have hv4 := ByteSl.below HV HB4
  have hz := HZ0.out
  refine (bigsign_zero _ bs _ w4 hv4 hl hz).mono ?_
  rintro e w5 ⟨rfl, rfl⟩
  clear hz hv4
  have d0 := Blk.cell HD4 0
  have d1 := Blk.cell HD4 1
  have d2 := Blk.cell HD4 2
  have d3 := Blk.cell HD4 3
  have d4 := Blk.cell HD4 4
  simp at d0 d1 d2 d3 d4
  go_wp2_with fail
  refine (dsign_big hi lo scale neg (w.heap.size + 1) 0 _ (fun o => iSign_zero _ cap1 false a1 _ (by have := HZ4.out.alloc o; rwa [hwl] at this))).mono ?_
  rintro e w6 ⟨rfl, hb6⟩
  have hZ6 := Blk.below HZ4 hb6
  have hK6 := Blk.below HK4 hb6
  have hN6 := NatIs.below HN4 hb6
  have hNK6 := NatIs.below HNK4 hb6
  have hD6 := Blk.below HD4 hb6
  have HB6 : Hid (Below w.heap.size w w6) := Below.trans HB4 (hb6.mono (Below.size HB4))
  have HC6 : Hid _ := iCmp (w.heap.size + 1) K _ _ false _ _ ws w6 hne hZ6 hK6 hN6 hNK6 hlen
  have e0 := hD6.cell 0
  have e1 := hD6.cell 1
  have e2 := hD6.cell 2
  have e3 := hD6.cell 3
  have e4 := hD6.cell 4
  simp at e0 e1 e2 e3 e4
  clear hb6 hZ6 hK6 hN6 hNK6 hD6 d0 d1 d2 d3 d4 HZ4 HK4 HN4 HNK4 HD4 HB4
  go_wp2_with fail
  refine Calls.mono HC6 ?_
  rintro e w7 ⟨rfl, k, rfl⟩
  go_wp2_with fail
  go_ret
  exact ⟨rfl, bel_drewN HB6⟩
end Go.Proofs.Ybulkfqbm
