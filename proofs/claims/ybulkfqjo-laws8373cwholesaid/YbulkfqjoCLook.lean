import Derived.Test.YbulkfqjoCMake
namespace Go.Proofs.Ybulkfqjo
open Go.RowKit

theorem size92 : (Yba.prog.info? 92).map (fun i => i.size) = some 22 := by kernel_rfl
theorem size47 : (Yba.prog.info? 47).map (fun i => i.size) = some 51 := by kernel_rfl
theorem size65 : (Yba.prog.info? 65).map (fun i => i.size) = some 32 := by kernel_rfl
theorem comp28 : (Yba.prog.info? 28).map (fun i => i.comparable) = some true := by kernel_rfl
theorem eqlIn28 (w : World) (d : Nat) (a : Addr) : (Op.equalIn (d + 1) 28 (.pointer (some a)) (.pointer (some a))).run Yba.prog w = .ok true w := by
  obtain ⟨j, hj, hs⟩ := Option.map_eq_some_iff.1 size92
  simp [Op.equalIn, run_underlying Yba.underlying28, sizeOf, typeInfo, hj, run_sameAddr_same]
theorem eqlIn27 (w : World) (d : Nat) (a : Addr) : (Op.equalIn (d + 1) 27 (.pointer (some a)) (.pointer (some a))).run Yba.prog w = .ok true w := by
  obtain ⟨j, hj, hs⟩ := Option.map_eq_some_iff.1 size47
  simp [Op.equalIn, run_underlying Yba.underlying27, sizeOf, typeInfo, hj, run_sameAddr_same]
theorem eqlIn25 (w : World) (d : Nat) (a : Addr) : (Op.equalIn (d + 1) 25 (.pointer (some a)) (.pointer (some a))).run Yba.prog w = .ok true w := by
  obtain ⟨j, hj, hs⟩ := Option.map_eq_some_iff.1 size65
  simp [Op.equalIn, run_underlying Yba.underlying25, sizeOf, typeInfo, hj, run_sameAddr_same]
theorem eqlIn32 (w : World) (d : Nat) (a : Addr) : (Op.equalIn (d + 1 + 1) 32 (.iface 28 (.pointer (some a))) (.iface 28 (.pointer (some a)))).run Yba.prog w = .ok true w := by
  obtain ⟨j, hj, hs⟩ := Option.map_eq_some_iff.1 comp28
  have := eqlIn28 w d a
  rw [Op.equalIn]
  simp [run_underlying Yba.underlying32, typeInfo, hj, hs, this]
theorem neq28 (w : World) (a : Addr) : (binOp .neq 28 (.pointer (some a)) (.pointer (some a))).run Yba.prog w = .ok (.bool false) w := by
  simp only [binOp]
  simp [Op.equal, Op.maxDepth, eqlIn28 w 9999 a]
theorem neq27 (w : World) (a : Addr) : (binOp .neq 27 (.pointer (some a)) (.pointer (some a))).run Yba.prog w = .ok (.bool false) w := by
  simp only [binOp]
  simp [Op.equal, Op.maxDepth, eqlIn27 w 9999 a]
theorem neq25 (w : World) (a : Addr) : (binOp .neq 25 (.pointer (some a)) (.pointer (some a))).run Yba.prog w = .ok (.bool false) w := by
  simp only [binOp]
  simp [Op.equal, Op.maxDepth, eqlIn25 w 9999 a]
theorem neq32 (w : World) (a : Addr) : (binOp .neq 32 (.iface 28 (.pointer (some a))) (.iface 28 (.pointer (some a)))).run Yba.prog w = .ok (.bool false) w := by
  simp only [binOp]
  simp [Op.equal, Op.maxDepth, eqlIn32 w 9998 a]

set_option maxRecDepth 100000 in
set_option maxHeartbeats 1600000 in
theorem same_any (q : Option Addr) (n : Nat) (E : Nat → Nat) (w : World) (hn : n ≤ 1048576) (hq : PRow w 28 q n E) :
    Calls Yba.prog 6 #[.slice q n n, .slice q n n] w fun e w' => e = .returned (.bool true) ∧ ∃ m, w' = w.drewN m := by
  have hnil : ∀ w, (binOp .eql 23 (.slice q n n) (.slice none 0 0)).run Yba.prog w = .ok (.bool q.isNone) w := fun w => Lib.run_eql_slice_nil w _ _ q n n 0 0 Yba.underlying23
  have HQ : Hid (PRow w 28 q n E) := hq
  clear hq
  generalize q.isNone = z at hnil
  go_enter Yba.func6, Yba.ntmps6
  go_upto_region 4 with fail
  go_loopw [5] (fun s5 wr => ∃ k m : Nat, s5 = .int .i64 (k : Int) ∧ k ≤ n ∧ wr = w.drewN m) (fun s5 _ => n - (intOf s5).toNat)
  case atStart => exact ⟨0, 0, rfl, by omega, rfl⟩
  case round =>
    obtain ⟨k, m, rfl, hk, rfl⟩ := hrel
    by_cases hlt : k < n
    · obtain ⟨b, rfl, hc⟩ := HQ.out.get hlt
      have hlt' : (k : Int) < (n : Int) := by omega
      have hq := neq28
      go_upto_region 6 with fail
      go_quiet (fail)
      go_wp2_with fail
      go_roundw
      case rel => exact ⟨k + 1, _, by simp, by omega, rfl⟩
      case measure => simp [intOf]; omega
    · obtain rfl : k = n := by omega
      have hlt' : ¬ (k : Int) < (k : Int) := by omega
      go_wp2_with fail
      go_ret
      exact ⟨rfl, m, rfl⟩

/-- an end as it should be -/
def Fit (fired c cc : Bool) (x : Nat) (v : Value) : Prop := if fired && !c then cc = true ∧ v = .slice none 0 0 else cc = c ∧ ∃ a, v = .slice a (x % 4) (x % 4)

set_option maxRecDepth 100000 in
set_option maxHeartbeats 3200000 in
theorem ends_any (q p : Option Addr) (n cap : Nat) (E : Nat → Nat) (cc : Nat → Bool) (v : Nat → Value) (c l : Nat → Bool) (x : Nat → Nat) (fired : Bool) (w : World) (hn : n ≤ 1048576) (hq : PRow w 28 q n E)
    (he : ∀ i, i < n → EndAt w (E i) (cc i) (v i)) (hx : XAt w p n c l x) (hf : ∀ i, i < n → Fit fired (c i) (cc i) (x i) (v i)) :
    Calls Yba.prog 7 #[.slice q n n, .slice p n cap, .bool fired] w fun e w' => e = .returned (.bool true) ∧ ∃ m, w' = w.drewN m := by
  have H : Hid (PRow w 28 q n E ∧ (∀ i, i < n → EndAt w (E i) (cc i) (v i)) ∧ XAt w p n c l x ∧ (∀ i, i < n → Fit fired (c i) (cc i) (x i) (v i))) := ⟨hq, he, hx, hf⟩
  clear hq he hx hf
  go_enter Yba.func7, Yba.ntmps7
  go_upto_region 4 with fail
  go_loopw [7] (fun s7 wr => ∃ k m : Nat, s7 = .int .i64 (k : Int) ∧ k ≤ n ∧ wr = w.drewN m) (fun s7 _ => n - (intOf s7).toNat)
  case atStart => exact ⟨0, 0, rfl, by omega, rfl⟩
  case round =>
    obtain ⟨k, m, rfl, hk, rfl⟩ := hrel
    by_cases hlt : k < n
    · obtain ⟨hq, he, hx, hf⟩ := H.out
      obtain ⟨b, rfl, hc⟩ := hq.get hlt
      obtain ⟨hx1, _, hx2⟩ := hx
      obtain ⟨xb, xo, rfl, _, hcx⟩ := hx2 (by omega)
      obtain ⟨cx0, cx1, _⟩ := hcx k hlt
      have hx256 := hx1 k
      obtain ⟨cs, h0, hs, h1, h4, h6⟩ := he k hlt
      have c1 := (cell_blk h0 1).trans h1
      have c4 := (cell_blk h0 4).trans h4
      have c6 := (cell_blk h0 6).trans h6
      have hfk := hf k hlt
      have hlt' : (k : Int) < (n : Int) := by omega
      clear hq he hx1 hx2 hcx hf h0 hs h1 h4 h6
      generalize c k = ck at cx0 hfk
      generalize x k = xk at cx1 hfk hx256
      generalize v k = vk at c4 hfk
      generalize cc k = cck at c6 hfk
      generalize E k = ek at hc c1 c4 c6
      cases fired <;> cases ck
      · obtain ⟨rfl, a, rfl⟩ : cck = false ∧ ∃ a, vk = .slice a (xk % 4) (xk % 4) := hfk
        go_upto_region 13 with fail
        go_quiet (fail)
        go_wp2_with fail
        go_roundw
        case rel => exact ⟨k + 1, _, by simp, by omega, rfl⟩
        case measure => simp [intOf]; omega
      · obtain ⟨rfl, a, rfl⟩ : cck = true ∧ ∃ a, vk = .slice a (xk % 4) (xk % 4) := hfk
        go_upto_region 13 with fail
        go_quiet (fail)
        go_wp2_with fail
        go_roundw
        case rel => exact ⟨k + 1, _, by simp, by omega, rfl⟩
        case measure => simp [intOf]; omega
      · obtain ⟨rfl, rfl⟩ : cck = true ∧ vk = .slice none 0 0 := hfk
        have hnil : ∀ w, (binOp .neq 83 (.slice none 0 0) (.slice none 0 0)).run Yba.prog w = .ok (.bool false) w := fun w => by simpa using run_neq_slice_nil (P := Yba.prog) (w := w) 83 99 none 0 0 Yba.underlying83
        go_wp2_with fail
        go_roundw
        case rel => exact ⟨k + 1, _, by simp, by omega, rfl⟩
        case measure => simp [intOf]; omega
      · obtain ⟨rfl, a, rfl⟩ : cck = true ∧ ∃ a, vk = .slice a (xk % 4) (xk % 4) := hfk
        go_upto_region 13 with fail
        go_quiet (fail)
        go_wp2_with fail
        go_roundw
        case rel => exact ⟨k + 1, _, by simp, by omega, rfl⟩
        case measure => simp [intOf]; omega
    · obtain rfl : k = n := by omega
      have hlt' : ¬ (k : Int) < (k : Int) := by omega
      go_wp2_with fail
      go_ret
      exact ⟨rfl, m, rfl⟩
end Go.Proofs.Ybulkfqjo
