import Derived.Test.YbulkfqbmFWalks
namespace Go.Proofs.Ybulkfqbm
open Go.RowKit

theorem bcell {W w1 : World} (hb : Below W.heap.size W w1) : (∀ b o, b < W.heap.size → w1.cell? ⟨b, o, none⟩ = W.cell? ⟨b, o, none⟩) ∧ (∀ b o, b < W.heap.size → w1.frozen? ⟨b, o, none⟩ = W.frozen? ⟨b, o, none⟩) :=
  ⟨fun b o h => hb.cell (p := ⟨b, o, none⟩) h, fun b o h => hb.frozen (p := ⟨b, o, none⟩) h⟩

set_option maxHeartbeats 400000 in
theorem fromInt_neg (n : Int) (w : World) (h0 : -9223372036854775808 ≤ n) (h1 : n ≤ 9223372036854775807) (hn : n < 0) :
    Calls Yba.prog 11 #[.int .i64 n] w fun e w' => ∃ m : Int, e = .returned (dec 0 m 0 true) ∧ (m == 0) = false ∧ Below w.heap.size w w' := by
  have HM : Hid (∀ w, Calls Yba.prog 25 #[.int .i64 n] w fun e w' => ∃ m : Int, e = .returned (.int .u64 m) ∧ (m = 0 ↔ n = 0) ∧ w' = w) := fun w => magnitude_any n w h0 h1
  clear h0 h1
  go_enter Yba.func11, Yba.ntmps11
  go_wp2_with fail
  refine (HM.out _).mono ?_
  rintro e w1 ⟨m, rfl, hmz, rfl⟩
  have hm0 : (m == 0) = false := by
    have : m ≠ 0 := fun e => by have := hmz.1 e; omega
    simpa using this
  clear hmz
  have HM0 : Hid ((m == 0) = false) := hm0
  go_wp2_with fail
  refine (inline_neg m _ hm0).mono ?_
  rintro e w2 ⟨rfl, hb⟩
  obtain ⟨hc, hf⟩ := bcell hb
  have HB : Hid _ := hb
  clear hb hm0
  unfold dec
  go_wp2_with fail
  exact bodyPost_ret (v := dec 0 m 0 true) (by simp [results, Yba.results11, go_sem, dec, hc]) rfl
    ⟨m, rfl, HM0, ((((((((Below.refl _ _).alloc (Nat.le_refl _) _).trans (Below.mono HB (by simp))).setCell (Nat.le_refl _) _).setCell (Nat.le_refl _) _).setCell (Nat.le_refl _) _).setCell (Nat.le_refl _) _).setCell (Nat.le_refl _) _)⟩

set_option maxHeartbeats 400000 in
theorem fromInt_pos (n : Int) (w : World) (h0 : -9223372036854775808 ≤ n) (h1 : n ≤ 9223372036854775807) (hn : 0 < n) :
    Calls Yba.prog 11 #[.int .i64 n] w fun e w' => ∃ m : Int, e = .returned (dec 0 m 0 false) ∧ (m == 0) = false ∧ Below w.heap.size w w' := by
  have HM : Hid (∀ w, Calls Yba.prog 25 #[.int .i64 n] w fun e w' => ∃ m : Int, e = .returned (.int .u64 m) ∧ (m = 0 ↔ n = 0) ∧ w' = w) := fun w => magnitude_any n w h0 h1
  clear h0 h1
  have hn2 : ¬ n < 0 := by omega
  have hd : decide (n < 0) = false := by simpa using hn2
  go_enter Yba.func11, Yba.ntmps11
  go_wp2_with fail
  refine (HM.out _).mono ?_
  rintro e w1 ⟨m, rfl, hmz, rfl⟩
  have hm0 : (m == 0) = false := by
    have : m ≠ 0 := fun e => by have := hmz.1 e; omega
    simpa using this
  clear hmz
  have HM0 : Hid ((m == 0) = false) := hm0
  go_wp2_with fail
  refine (inline_pos m _).mono ?_
  rintro e w2 ⟨rfl, hb⟩
  obtain ⟨hc, hf⟩ := bcell hb
  have HB : Hid _ := hb
  clear hb hm0
  unfold dec
  go_wp2_with fail
  exact bodyPost_ret (v := dec 0 m 0 false) (by simp [results, Yba.results11, go_sem, dec, hc]) rfl
    ⟨m, rfl, HM0, ((((((((Below.refl _ _).alloc (Nat.le_refl _) _).trans (Below.mono HB (by simp))).setCell (Nat.le_refl _) _).setCell (Nat.le_refl _) _).setCell (Nat.le_refl _) _).setCell (Nat.le_refl _) _).setCell (Nat.le_refl _) _)⟩


set_option maxHeartbeats 400000 in
theorem fromInt_zero (w : World) :
    Calls Yba.prog 11 #[.int .i64 0] w fun e w' => e = .returned (dec 0 0 0 false) ∧ Below w.heap.size w w' := by
  have HM : Hid (∀ w, Calls Yba.prog 25 #[.int .i64 0] w fun e w' => ∃ m : Int, e = .returned (.int .u64 m) ∧ (m = 0 ↔ (0 : Int) = 0) ∧ w' = w) := fun w => magnitude_any 0 w (by decide) (by decide)
  go_enter Yba.func11, Yba.ntmps11
  go_wp2_with fail
  refine (HM.out _).mono ?_
  rintro e w1 ⟨m, rfl, hmz, rfl⟩
  obtain rfl : m = 0 := by simpa using hmz
  clear hmz
  go_wp2_with fail
  refine (inline_pos 0 _).mono ?_
  rintro e w2 ⟨rfl, hb⟩
  obtain ⟨hc, hf⟩ := bcell hb
  have HB : Hid _ := hb
  clear hb
  unfold dec
  go_wp2_with fail
  exact bodyPost_ret (v := dec 0 0 0 false) (by simp [results, Yba.results11, go_sem, dec, hc]) rfl
    ⟨rfl, ((((((((Below.refl _ _).alloc (Nat.le_refl _) _).trans (Below.mono HB (by simp))).setCell (Nat.le_refl _) _).setCell (Nat.le_refl _) _).setCell (Nat.le_refl _) _).setCell (Nat.le_refl _) _).setCell (Nat.le_refl _) _)⟩

set_option maxHeartbeats 400000 in
theorem sign_neg (m : Int) (w : World) :
    Calls Yba.prog 9 #[dec 0 m 0 true] w fun e w' => e = .returned (.int .i64 (-1)) ∧ Below w.heap.size w w' := by
  unfold dec
  go_enter Yba.func9, Yba.ntmps9
  go_wp2_with fail
  go_ret
  exact ⟨rfl, (Below.refl _ _).alloc (Nat.le_refl _) _⟩

set_option maxHeartbeats 400000 in
theorem sign_pos (m : Int) (w : World) (h : (m == 0) = false) :
    Calls Yba.prog 9 #[dec 0 m 0 false] w fun e w' => e = .returned (.int .i64 1) ∧ Below w.heap.size w w' := by
  unfold dec
  go_enter Yba.func9, Yba.ntmps9
  go_wp2_with (go_at_call 22; refine (isZero_no _ _ h).mono ?_; rintro e w' ⟨rfl, rfl⟩)
  go_ret
  exact ⟨rfl, ((Below.refl _ _).alloc (Nat.le_refl _) _).alloc (by simp) _⟩

set_option maxHeartbeats 400000 in
theorem sign_zero (w : World) :
    Calls Yba.prog 9 #[dec 0 0 0 false] w fun e w' => e = .returned (.int .i64 0) ∧ Below w.heap.size w w' := by
  unfold dec
  go_enter Yba.func9, Yba.ntmps9
  go_wp2_with (go_at_call 22; refine (isZero_yes _).mono ?_; rintro e w' ⟨rfl, rfl⟩)
  go_ret
  exact ⟨rfl, ((Below.refl _ _).alloc (Nat.le_refl _) _).alloc (by simp) _⟩

set_option maxHeartbeats 400000 in
theorem neg_neg (m : Int) (w : World) :
    Calls Yba.prog 12 #[dec 0 m 0 true] w fun e w' => e = .returned (dec 0 m 0 false) ∧ Below w.heap.size w w' := by
  unfold dec
  go_enter Yba.func12, Yba.ntmps12
  go_wp2_with fail
  refine (inline_pos m _).mono ?_
  rintro e w2 ⟨rfl, hb⟩
  obtain ⟨hc, hf⟩ := bcell hb
  have HB : Hid _ := hb
  clear hb
  unfold dec
  go_wp2_with fail
  exact bodyPost_ret (v := dec 0 m 0 false) (by simp [results, Yba.results12, go_sem, dec, hc]) rfl
    ⟨rfl, (((((((((Below.refl _ _).alloc (Nat.le_refl _) _).alloc (by simp) _).trans (Below.mono HB (by simp; omega))).setCell (by simp) _).setCell (by simp) _).setCell (by simp) _).setCell (by simp) _).setCell (by simp) _)⟩

set_option maxHeartbeats 400000 in
theorem neg_pos (m : Int) (w : World) (h : (m == 0) = false) :
    Calls Yba.prog 12 #[dec 0 m 0 false] w fun e w' => e = .returned (dec 0 m 0 true) ∧ Below w.heap.size w w' := by
  unfold dec
  go_enter Yba.func12, Yba.ntmps12
  go_wp2_with fail
  refine (inline_neg m _ h).mono ?_
  rintro e w2 ⟨rfl, hb⟩
  obtain ⟨hc, hf⟩ := bcell hb
  have HB : Hid _ := hb
  clear hb
  unfold dec
  go_wp2_with fail
  exact bodyPost_ret (v := dec 0 m 0 true) (by simp [results, Yba.results12, go_sem, dec, hc]) rfl
    ⟨rfl, (((((((((Below.refl _ _).alloc (Nat.le_refl _) _).alloc (by simp) _).trans (Below.mono HB (by simp; omega))).setCell (by simp) _).setCell (by simp) _).setCell (by simp) _).setCell (by simp) _).setCell (by simp) _)⟩

set_option maxHeartbeats 400000 in
theorem neg_zero (w : World) :
    Calls Yba.prog 12 #[dec 0 0 0 false] w fun e w' => e = .returned (dec 0 0 0 false) ∧ Below w.heap.size w w' := by
  unfold dec
  go_enter Yba.func12, Yba.ntmps12
  go_wp2_with fail
  refine (inline_zero _).mono ?_
  rintro e w2 ⟨rfl, hb⟩
  obtain ⟨hc, hf⟩ := bcell hb
  have HB : Hid _ := hb
  clear hb
  unfold dec
  go_wp2_with fail
  exact bodyPost_ret (v := dec 0 0 0 false) (by simp [results, Yba.results12, go_sem, dec, hc]) rfl
    ⟨rfl, (((((((((Below.refl _ _).alloc (Nat.le_refl _) _).alloc (by simp) _).trans (Below.mono HB (by simp; omega))).setCell (by simp) _).setCell (by simp) _).setCell (by simp) _).setCell (by simp) _).setCell (by simp) _)⟩

set_option maxHeartbeats 400000 in
theorem f_main_neg (n : Int) (w : World) (h0 : -9223372036854775808 ≤ n) (h1 : n ≤ 9223372036854775807) (hn : n < 0) :
    Calls Yba.prog 4 #[.int .i64 n] w fun e w' => e = .returned (.bool true) ∧ Below w.heap.size w w' := by
  have HF : Hid _ := fun w => fromInt_neg n w h0 h1 hn
  clear h0 h1
  go_enter Yba.func4, Yba.ntmps4
  go_wp2_with fail
  refine (HF.out _).mono ?_
  rintro e w1 ⟨m, rfl, hm, hb1⟩
  have HB1 : Hid (Below w.heap.size w w1) := hb1
  clear hb1
  unfold dec
  go_wp2_with fail
  refine (sign_neg m _).mono ?_
  rintro e w2 ⟨rfl, hb2⟩
  obtain ⟨hc, hf⟩ := bcell hb2
  have HB2 : Hid (Below w.heap.size w w2) := (Below.alloc HB1 (Below.size HB1) _).trans (hb2.mono (by have := Below.size HB1; simp; omega))
  clear hb2
  go_wp2_with fail
  refine (neg_neg m _).mono ?_
  rintro e w3 ⟨rfl, hb3⟩
  have HB3 : Hid (Below w.heap.size w w3) := Below.trans HB2 (hb3.mono (Below.size HB2))
  clear hb3 hc hf
  unfold dec
  go_wp2_with fail
  refine (sign_pos m _ hm).mono ?_
  rintro e w4 ⟨rfl, hb4⟩
  have HB4 : Hid (Below w.heap.size w w4) := Below.trans HB3 (hb4.mono (Below.size HB3))
  clear hb4
  go_wp2_with fail
  go_ret
  exact ⟨rfl, HB4⟩

set_option maxHeartbeats 400000 in
theorem f_main_pos (n : Int) (w : World) (h0 : -9223372036854775808 ≤ n) (h1 : n ≤ 9223372036854775807) (hn : 0 < n) :
    Calls Yba.prog 4 #[.int .i64 n] w fun e w' => e = .returned (.bool true) ∧ Below w.heap.size w w' := by
  have HF : Hid _ := fun w => fromInt_pos n w h0 h1 hn
  clear h0 h1
  have hn2 : ¬ n < 0 := by omega
  go_enter Yba.func4, Yba.ntmps4
  go_wp2_with fail
  refine (HF.out _).mono ?_
  rintro e w1 ⟨m, rfl, hm, hb1⟩
  have HB1 : Hid (Below w.heap.size w w1) := hb1
  clear hb1
  unfold dec
  go_wp2_with fail
  refine (sign_pos m _ hm).mono ?_
  rintro e w2 ⟨rfl, hb2⟩
  obtain ⟨hc, hf⟩ := bcell hb2
  have HB2 : Hid (Below w.heap.size w w2) := (Below.alloc HB1 (Below.size HB1) _).trans (hb2.mono (by have := Below.size HB1; simp; omega))
  clear hb2
  go_wp2_with fail
  refine (neg_pos m _ hm).mono ?_
  rintro e w3 ⟨rfl, hb3⟩
  have HB3 : Hid (Below w.heap.size w w3) := Below.trans HB2 (hb3.mono (Below.size HB2))
  clear hb3 hc hf
  unfold dec
  go_wp2_with fail
  refine (sign_neg m _).mono ?_
  rintro e w4 ⟨rfl, hb4⟩
  have HB4 : Hid (Below w.heap.size w w4) := Below.trans HB3 (hb4.mono (Below.size HB3))
  clear hb4
  go_wp2_with fail
  go_ret
  exact ⟨rfl, HB4⟩

set_option maxHeartbeats 400000 in
theorem f_main_zero (w : World) :
    Calls Yba.prog 4 #[.int .i64 0] w fun e w' => e = .returned (.bool true) ∧ Below w.heap.size w w' := by
  go_enter Yba.func4, Yba.ntmps4
  go_wp2_with fail
  refine (fromInt_zero _).mono ?_
  rintro e w1 ⟨rfl, hb1⟩
  have HB1 : Hid (Below w.heap.size w w1) := hb1
  clear hb1
  unfold dec
  go_wp2_with fail
  refine (sign_zero _).mono ?_
  rintro e w2 ⟨rfl, hb2⟩
  obtain ⟨hc, hf⟩ := bcell hb2
  have HB2 : Hid (Below w.heap.size w w2) := (Below.alloc HB1 (Below.size HB1) _).trans (hb2.mono (by have := Below.size HB1; simp; omega))
  clear hb2
  go_wp2_with fail
  refine (neg_zero _).mono ?_
  rintro e w3 ⟨rfl, hb3⟩
  have HB3 : Hid (Below w.heap.size w w3) := Below.trans HB2 (hb3.mono (Below.size HB2))
  clear hb3 hc hf
  unfold dec
  go_wp2_with fail
  refine (sign_zero _).mono ?_
  rintro e w4 ⟨rfl, hb4⟩
  have HB4 : Hid (Below w.heap.size w w4) := Below.trans HB3 (hb4.mono (Below.size HB3))
  clear hb4
  go_wp2_with fail
  go_ret
  exact ⟨rfl, HB4⟩

end Go.Proofs.Ybulkfqbm
