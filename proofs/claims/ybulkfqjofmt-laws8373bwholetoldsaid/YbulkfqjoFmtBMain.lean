import Derived.Test.YbulkfqjoFmtBParse
import Derived.Deep.DeepCutAuto
import Derived.Deep.CutBlock
namespace Go.Proofs.YbulkfqjoFmt
open Go.RowKit Go.Extern.Stop Go.Stop Go.Extern

set_option maxRecDepth 100000 in
set_option maxHeartbeats 1000000 in
theorem b_long (a : Option Addr) (n cap : Nat) (fold : Bool) (w : World) (hn : 1048576 < n) :
    Calls Ybaf.prog 3 #[.slice a n cap, .bool fold] w fun e w' => e = .returned (.bool true) ∧ w' = w := by
  go_enter Ybaf.func3, Ybaf.ntmps3
  go_wp2_with fail
  go_ret
  exact ⟨rfl, rfl⟩

set_option maxRecDepth 100000 in
set_option maxHeartbeats 1000000 in
theorem b_nil (F : Interp) (cap : Nat) (fold : Bool) (w : World) (hF : F.answers w.tape) :
    Calls Ybaf.prog 3 #[.slice none 0 cap, .bool fold] w fun e w' => e = .returned (.bool true) ∧ Below w.heap.size w w' := by
  have HF : Hid (F.answers w.tape) := hF
  clear hF
  cases fold
  · go_enter Ybaf.func3, Ybaf.ntmps3
    go_wp2_with (go_at_call 4; refine (clone_nil _ _ _).mono ?_; rintro e wn ⟨rfl, hw⟩; obtain rfl := hw.symm)
    refine (parse_len F none 0 0 _ (by exact HF) (by decide)).mono ?_
    rintro e w1 ⟨x, rfl, hb⟩
    have HB : Hid (Below w.heap.size w w1) := (((Below.refl _ _).alloc (Nat.le_refl _) _).alloc (by simp) _).trans (hb.mono (by simp; omega))
    clear hb
    go_wp2_with (go_at_call 6; refine (same_nil _).mono ?_; rintro e w' ⟨rfl, k, rfl⟩)
    go_ret
    exact ⟨rfl, bel_drewN HB⟩
  · go_enter Ybaf.func3, Ybaf.ntmps3
    go_wp2_with (go_at_call 4; refine (clone_nil _ _ _).mono ?_; rintro e wn ⟨rfl, hw⟩; obtain rfl := hw.symm)
    refine wp_loop_rounds 1 ?_
    rw [rounds_succ]
    go_wp2_with (go_at_call 4; refine (clone_nil _ _ _).mono ?_; rintro e wn ⟨rfl, hw⟩; obtain rfl := hw.symm)
    refine (parse_len F none 0 0 _ (by exact HF) (by decide)).mono ?_
    rintro e w1 ⟨x, rfl, hb⟩
    have HB : Hid (Below w.heap.size w w1) := (((Below.refl _ _).alloc (Nat.le_refl _) _).alloc (by simp) _).trans (hb.mono (by simp; omega))
    clear hb
    go_wp2_with (go_at_call 6; refine (same_nil _).mono ?_; rintro e w' ⟨rfl, k, rfl⟩)
    go_ret
    exact ⟨rfl, bel_drewN HB⟩
end Go.Proofs.YbulkfqjoFmt
