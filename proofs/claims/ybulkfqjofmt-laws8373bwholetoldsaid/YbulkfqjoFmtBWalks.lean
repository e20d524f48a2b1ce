import Derived.Test.YbulkfqjoFmtBFmt
import Derived.Deep.OwnRows
import Derived.Deep.QuietTactic
import Derived.BigQuiet
import Derived.WideLaws
namespace Go.Proofs.YbulkfqjoFmt
open Go.RowKit Go.Extern.Stop Go.Stop Go.Extern

theorem info5 : (Ybaf.prog.info? 5).map (fun i => (i.zero, i.size, i.bytes)) = some (some (.int .u8 0), 1, 1) := by kernel_rfl
theorem slnil (w : World) (a : Option Addr) (n c : Nat) : (binOp .eql 22 (.slice a n c) (.slice none 0 0)).run Ybaf.prog w = .ok (.bool a.isNone) w := Lib.run_eql_slice_nil w _ _ a n c 0 0 Ybaf.underlying22

/-- 'g' with 'x' at 'q' -/
def upd (g : Nat → Int) (q : Nat) (x : Int) (j : Nat) : Int := if j = q then x else g j
theorem upd_same (g : Nat → Int) (q : Nat) (x : Int) : upd g q x q = x := if_pos rfl
theorem upd_other (g : Nat → Int) {q j : Nat} (x : Int) (h : j ≠ q) : upd g q x j = g j := if_neg h
theorem bel_drewN {B k : Nat} {w w' : World} (h : Below B w w') : Below B w (w'.drewN k) := ⟨h.os, h.tape, h.output, h.size, h.block⟩

/-- row 'B' holds the bytes 'g' -/
def Bytes (w : World) (B n : Nat) (g : Nat → Int) : Prop := w.rowIs B 5 n (fun j => .int .u8 (g j))
theorem Bytes.set {w : World} {B n : Nat} {g : Nat → Int} (h : Bytes w B n g) (q : Nat) (x : Int) : Bytes (w.setCell ⟨B, q, none⟩ (.int .u8 x)) B n (upd g q x) :=
  (World.rowIs.set h q (.int .u8 x)).congr (fun j _ => by by_cases e : j = q <;> simp [upd, e])
theorem Bytes.below {w w' : World} {B n : Nat} {g : Nat → Int} (h : Bytes w B n g) (hb : Below w.heap.size w w') : Bytes w' B n g := World.rowIs.of_block h (hb.block B (World.rowIs.lt h))
theorem Bytes.ext {w : World} {B n : Nat} {g f : Nat → Int} (h : Bytes w B n g) (e : ∀ j, j < n → g j = f j) : Bytes w B n f := World.rowIs.congr h (fun j hj => by rw [e j hj])

set_option maxHeartbeats 400000 in
theorem clone_nil (n cap : Nat) (w : World) : Calls Ybaf.prog 4 #[.slice none n cap] w fun e w' => e = .returned (.slice none 0 0) ∧ w' = w := by
  have hq := slnil
  go_enter Ybaf.func4, Ybaf.ntmps4
  go_wp2
  go_ret
  exact ⟨rfl, rfl⟩

set_option maxHeartbeats 400000 in
theorem clone_any (a : Addr) (n cap : Nat) (f : Nat → Int) (w : World) (hn : n ≤ 1048576) (hb : 0 < n → a.spot = none ∧ a.block < w.heap.size ∧ ∀ j, j < n → w.cell? ⟨a.block, a.off + j, none⟩ = some (.int .u8 (f j))) :
    Calls Ybaf.prog 4 #[.slice (some a) n cap] w fun e w' => e = .returned (.slice (some ⟨w.heap.size, 0, none⟩) n n) ∧ Bytes w' w.heap.size n f ∧ Below w.heap.size w w' ∧ Hid (w'.heap.size = w.heap.size + 1) := by
  have hq := slnil
  have hmk := run_make_row' 22 5 (.int .u8 0) 1 Ybaf.underlying22 info5 rfl .i64 .i64 n (by omega) (by omega)
  go_enter Ybaf.func4, Ybaf.ntmps4
  go_wp2
  go_loopw [4] (fun i wr => ∃ k : Nat, ∃ g : Nat → Int, k ≤ n ∧ i = .int .i64 k ∧ Hid (Bytes wr w.heap.size n g) ∧ Hid (∀ j, j < k → g j = f j) ∧ Hid (Below w.heap.size w wr) ∧ Hid (wr.heap.size = w.heap.size + 1)) (fun i _ => n - (intOf i).toNat)
  case atStart => exact ⟨0, fun _ => 0, Nat.zero_le _, rfl, World.rowIs_made _ _ _ _, fun j h => by omega, (Below.refl _ _).alloc (Nat.le_refl _) _, World.size_alloc _ _⟩
  case round =>
    obtain ⟨k, g, hk, rfl, hrow, hg, hbl, hsz⟩ := hrel
    clear hmk
    by_cases hlt : k < n
    · obtain ⟨hs, hab, hc⟩ := hb (by omega)
      obtain ⟨b, off, spot⟩ := a
      subst hs
      have hck := (Below.cell hbl (p := ⟨b, off + k, none⟩) hab).trans (hc k hlt)
      have hcq := World.rowIs.cell hrow hlt
      have hfq := World.rowIs.frozen hrow k
      clear hc hb
      go_wp2
      go_roundw
      case rel => exact ⟨k + 1, upd g k (f k), by omega, by go_num, Bytes.set hrow k (f k), fun j hj => by
          by_cases e : j = k
          · rw [e, upd_same]
          · rw [upd_other _ _ e]; exact hg.out j (by omega), Below.setCell hbl (Nat.le_refl _) _, (World.size_setCell _ _ _).trans hsz⟩
      case measure => simp [intOf]; omega
    · have : k = n := by omega
      subst this
      go_wp2
      go_ret
      exact ⟨rfl, Bytes.ext hrow (fun j hj => hg.out j hj), hbl, hsz⟩

set_option maxHeartbeats 400000 in
theorem same_nil (w : World) : Calls Ybaf.prog 6 #[.slice none 0 0, .slice none 0 0] w fun e w' => e = .returned (.bool true) ∧ ∃ k, w' = w.drewN k := by
  have hq := slnil
  go_enter Ybaf.func6, Ybaf.ntmps6
  go_wp2
  refine wp_loop_rounds 1 ?_
  rw [rounds_succ]
  go_wp2
  go_ret
  exact ⟨rfl, 0, rfl⟩

set_option maxHeartbeats 400000 in
theorem same_any (A B n c d : Nat) (g : Nat → Int) (w : World) (hn : n ≤ 1048576) (hA : Bytes w A n g) (hB : Bytes w B n g) :
    Calls Ybaf.prog 6 #[.slice (some ⟨A, 0, none⟩) n c, .slice (some ⟨B, 0, none⟩) n d] w fun e w' => e = .returned (.bool true) ∧ ∃ k, w' = w.drewN k := by
  have hq := slnil
  have HA : Hid _ := hA
  have HB : Hid _ := hB
  clear hA hB
  go_enter Ybaf.func6, Ybaf.ntmps6
  go_wp2
  go_loopw [5] (fun i wr => ∃ k m : Nat, k ≤ n ∧ i = .int .i64 k ∧ wr = w.drewN m) (fun i _ => n - (intOf i).toNat)
  case atStart => exact ⟨0, 0, Nat.zero_le _, rfl, rfl⟩
  case round =>
    obtain ⟨k, m, hk, rfl, rfl⟩ := hrel
    by_cases hlt : k < n
    · have ca := World.rowIs.cell HA hlt
      have cb := World.rowIs.cell HB hlt
      have hlt' : (k : Int) < (n : Int) := by omega
      go_wp2_with fail
      go_quiet (fail)
      go_wp2_with fail
      go_roundw
      case rel => exact ⟨k + 1, _, by omega, by go_num, rfl⟩
      case measure => simp [intOf]; omega
    · have : k = n := by omega
      subst this
      go_wp2
      go_ret
      exact ⟨rfl, _, rfl⟩
end Go.Proofs.YbulkfqjoFmt
