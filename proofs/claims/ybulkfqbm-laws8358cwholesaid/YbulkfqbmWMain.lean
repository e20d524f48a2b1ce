import Derived.Test.YbulkfqbmWCmp
namespace Go.Proofs.Ybulkfqbm
open Go.RowKit

set_option maxHeartbeats 400000 in
theorem bigsign_zero (v : Value) (bs : List Int) (neg : Bool) (w : World) (hv : ByteSl w v bs) (hl : bs.length ≤ 1048576) (hz : ∀ j, j < bs.length → byteAt bs j = 0) :
    Calls Yba.prog 8 #[v, .bool neg] w fun e w' => e = .returned (.int .i64 0) ∧ w' = w := by
  obtain ⟨a, cap, rfl, hcap, hr, h⟩ := hv
  have HR : Hid _ := hr
  have HZ : Hid _ := hz
  clear hr hz
  go_enter Yba.func8, Yba.ntmps8
  go_wp2_with fail
  go_loop [5] (fun t => ∃ k : Nat, k ≤ bs.length ∧ t = .int .i64 k) (fun t => bs.length - (intOf t).toNat)
  case atStart => exact ⟨0, Nat.zero_le _, rfl⟩
  case round =>
    obtain ⟨k, hk, rfl⟩ := hrel
    by_cases hlt : k < bs.length
    · obtain ⟨b, off, rfl, hb, hc⟩ := h (by omega)
      have hc1 := hc k hlt
      rw [HZ.out k hlt] at hc1
      clear hc
      go_wp2_with fail
      go_round
      case rel => exact ⟨k + 1, by omega, by go_num⟩
      case measure => simp [intOf]; omega
    · go_wp2_with fail
      go_ret
      exact ⟨rfl, rfl⟩

set_option maxHeartbeats 400000 in
theorem bigsign_not (v : Value) (bs : List Int) (neg : Bool) (w : World) (hv : ByteSl w v bs) (hl : bs.length ≤ 1048576) (hz : ¬ ∀ j, j < bs.length → byteAt bs j = 0) :
    Calls Yba.prog 8 #[v, .bool neg] w fun e w' => e = .returned (.int .i64 (if neg then -1 else 1)) ∧ w' = w := by
  obtain ⟨a, cap, rfl, hcap, hr, h⟩ := hv
  have HR : Hid _ := hr
  have HZ : Hid _ := hz
  clear hr hz
  go_enter Yba.func8, Yba.ntmps8
  go_wp2_with fail
  go_loop [5] (fun t => ∃ k : Nat, k ≤ bs.length ∧ t = .int .i64 k ∧ Hid (∀ j, j < k → byteAt bs j = 0)) (fun t => bs.length - (intOf t).toNat)
  case atStart => exact ⟨0, Nat.zero_le _, rfl, fun j h => by omega⟩
  case round =>
    obtain ⟨k, hk, rfl, hzk⟩ := hrel
    by_cases hlt : k < bs.length
    · obtain ⟨b, off, rfl, hb, hc⟩ := h (by omega)
      have hc1 := hc k hlt
      clear hc
      by_cases hbk : byteAt bs k = 0
      · have HBK : Hid _ := hbk
        rw [hbk] at hc1
        clear hbk
        go_wp2_with fail
        go_round
        case rel => exact ⟨k + 1, by omega, by go_num, fun j hj => by
          by_cases e : j = k
          · rw [e]; exact HBK
          · exact hzk.out j (by omega)⟩
        case measure => simp [intOf]; omega
      · have hne : (byteAt bs k != 0) = true := by simpa using hbk
        clear hbk
        cases neg
        all_goals
          go_wp2_with fail
          go_ret
          exact ⟨rfl, rfl⟩
    · exact absurd (fun j hj => hzk.out j (by omega)) HZ.out

/-- a Decimal in its five cells -/
def decB (hi lo : Int) (big : Value) (scale : Int) (neg : Bool) : Value := .agg #[.int .u64 hi, .int .u64 lo, big, .int .i32 scale, .bool neg]

set_option maxHeartbeats 400000 in
theorem dsign_neg (hi lo scale : Int) (w : World) :
    Calls Yba.prog 9 #[decB hi lo (.pointer none) scale true] w fun e w' => e = .returned (.int .i64 (-1)) ∧ Below w.heap.size w w' := by
  unfold decB
  go_enter Yba.func9, Yba.ntmps9
  go_wp2
  go_ret
  exact ⟨rfl, (Below.refl _ _).alloc (Nat.le_refl _) _⟩

set_option maxHeartbeats 400000 in
theorem dsign_zero (scale : Int) (w : World) :
    Calls Yba.prog 9 #[decB 0 0 (.pointer none) scale false] w fun e w' => e = .returned (.int .i64 0) ∧ Below w.heap.size w w' := by
  unfold decB
  go_enter Yba.func9, Yba.ntmps9
  go_wp2
  go_ret
  exact ⟨rfl, ((Below.refl _ _).alloc (Nat.le_refl _) _).alloc (by simp) _⟩

set_option maxHeartbeats 400000 in
theorem dsign_hi (hi lo scale : Int) (w : World) (h : (hi == 0) = false) :
    Calls Yba.prog 9 #[decB hi lo (.pointer none) scale false] w fun e w' => e = .returned (.int .i64 1) ∧ Below w.heap.size w w' := by
  unfold decB
  go_enter Yba.func9, Yba.ntmps9
  go_wp2
  go_ret
  exact ⟨rfl, ((Below.refl _ _).alloc (Nat.le_refl _) _).alloc (by simp) _⟩

set_option maxHeartbeats 400000 in
theorem dsign_lo (lo scale : Int) (w : World) (h : (lo == 0) = false) :
    Calls Yba.prog 9 #[decB 0 lo (.pointer none) scale false] w fun e w' => e = .returned (.int .i64 1) ∧ Below w.heap.size w w' := by
  unfold decB
  go_enter Yba.func9, Yba.ntmps9
  go_wp2
  go_ret
  exact ⟨rfl, ((Below.refl _ _).alloc (Nat.le_refl _) _).alloc (by simp) _⟩

set_option maxHeartbeats 400000 in
/-- the sign of a Decimal that holds a big.Int -/
theorem dsign_big (hi lo scale : Int) (neg : Bool) (Z : Nat) (s : Int) (w : World)
    (hs : ∀ o, Calls Yba.prog 21 #[.pointer (some ⟨Z, 0, none⟩)] (w.alloc o) fun e w' => e = .returned (.int .i64 s) ∧ w' = w.alloc o) :
    Calls Yba.prog 9 #[decB hi lo (.pointer (some ⟨Z, 0, none⟩)) scale neg] w fun e w' => e = .returned (.int .i64 s) ∧ Below w.heap.size w w' := by
  have HS : Hid _ := hs
  clear hs
  unfold decB
  go_enter Yba.func9, Yba.ntmps9
  go_wp2_with (go_at_call 21; refine (HS.out _).mono ?_; rintro e w' ⟨rfl, rfl⟩)
  go_ret
  exact ⟨rfl, (Below.refl _ _).alloc (Nat.le_refl _) _⟩

theorem bcellW {W w1 : World} (hb : Below W.heap.size W w1) : (∀ b o, b < W.heap.size → w1.cell? ⟨b, o, none⟩ = W.cell? ⟨b, o, none⟩) ∧ (∀ b o, b < W.heap.size → w1.frozen? ⟨b, o, none⟩ = W.frozen? ⟨b, o, none⟩) :=
  ⟨fun b o h => hb.cell (p := ⟨b, o, none⟩) h, fun b o h => hb.frozen (p := ⟨b, o, none⟩) h⟩

set_option maxHeartbeats 400000 in
theorem w_long (hi lo scale : Int) (neg hasBig bneg : Bool) (a : Option Addr) (n cap : Nat) (w : World) (hn : 1048576 < n) :
    Calls Yba.prog 3 #[.int .u64 hi, .int .u64 lo, .int .i32 scale, .bool neg, .bool hasBig, .slice a n cap, .bool bneg] w fun e w' => e = .returned (.bool true) ∧ w' = w := by
  go_enter Yba.func3, Yba.ntmps3
  go_wp2_with fail
  go_ret
  exact ⟨rfl, rfl⟩

set_option maxRecDepth 100000 in
set_option maxHeartbeats 1000000 in
theorem w_neg (hi lo scale : Int) (bneg : Bool) (a : Option Addr) (n cap : Nat) (w : World) (hn : n ≤ 1048576) :
    Calls Yba.prog 3 #[.int .u64 hi, .int .u64 lo, .int .i32 scale, .bool true, .bool false, .slice a n cap, .bool bneg] w fun e w' => e = .returned (.bool true) ∧ Below w.heap.size w w' := by
  go_enter Yba.func3, Yba.ntmps3
  go_wp2_with fail
  refine (dsign_neg _ _ _ _).mono ?_
  rintro e w1 ⟨rfl, hb⟩
  obtain ⟨hc, hf⟩ := bcellW hb
  have HB : Hid (Below w.heap.size w w1) := ((Below.refl _ _).alloc (Nat.le_refl _) _).trans (hb.mono (by simp))
  clear hb
  go_wp2_with fail
  go_ret
  exact ⟨rfl, HB⟩

set_option maxRecDepth 100000 in
set_option maxHeartbeats 1000000 in
theorem w_zero (scale : Int) (bneg : Bool) (a : Option Addr) (n cap : Nat) (w : World) (hn : n ≤ 1048576) :
    Calls Yba.prog 3 #[.int .u64 0, .int .u64 0, .int .i32 scale, .bool false, .bool false, .slice a n cap, .bool bneg] w fun e w' => e = .returned (.bool true) ∧ Below w.heap.size w w' := by
  go_enter Yba.func3, Yba.ntmps3
  go_wp2_with fail
  refine (dsign_zero _ _).mono ?_
  rintro e w1 ⟨rfl, hb⟩
  obtain ⟨hc, hf⟩ := bcellW hb
  have HB : Hid (Below w.heap.size w w1) := ((Below.refl _ _).alloc (Nat.le_refl _) _).trans (hb.mono (by simp))
  clear hb
  go_wp2_with fail
  go_ret
  exact ⟨rfl, HB⟩

set_option maxRecDepth 100000 in
set_option maxHeartbeats 1000000 in
theorem w_hi (hi lo scale : Int) (bneg : Bool) (a : Option Addr) (n cap : Nat) (w : World) (hn : n ≤ 1048576) (h : (hi == 0) = false) :
    Calls Yba.prog 3 #[.int .u64 hi, .int .u64 lo, .int .i32 scale, .bool false, .bool false, .slice a n cap, .bool bneg] w fun e w' => e = .returned (.bool true) ∧ Below w.heap.size w w' := by
  go_enter Yba.func3, Yba.ntmps3
  go_wp2_with fail
  refine (dsign_hi _ _ _ _ h).mono ?_
  rintro e w1 ⟨rfl, hb⟩
  obtain ⟨hc, hf⟩ := bcellW hb
  have HB : Hid (Below w.heap.size w w1) := ((Below.refl _ _).alloc (Nat.le_refl _) _).trans (hb.mono (by simp))
  clear hb
  go_wp2_with fail
  go_ret
  exact ⟨rfl, HB⟩

set_option maxRecDepth 100000 in
set_option maxHeartbeats 1000000 in
theorem w_lo (lo scale : Int) (bneg : Bool) (a : Option Addr) (n cap : Nat) (w : World) (hn : n ≤ 1048576) (h : (lo == 0) = false) :
    Calls Yba.prog 3 #[.int .u64 0, .int .u64 lo, .int .i32 scale, .bool false, .bool false, .slice a n cap, .bool bneg] w fun e w' => e = .returned (.bool true) ∧ Below w.heap.size w w' := by
  go_enter Yba.func3, Yba.ntmps3
  go_wp2_with fail
  refine (dsign_lo _ _ _ h).mono ?_
  rintro e w1 ⟨rfl, hb⟩
  obtain ⟨hc, hf⟩ := bcellW hb
  have HB : Hid (Below w.heap.size w w1) := ((Below.refl _ _).alloc (Nat.le_refl _) _).trans (hb.mono (by simp))
  clear hb
  go_wp2_with fail
  go_ret
  exact ⟨rfl, HB⟩
end Go.Proofs.Ybulkfqbm
