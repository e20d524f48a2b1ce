import Derived.Test.YbulkfqjoFmtBWalks
namespace Go.Proofs.YbulkfqjoFmt
open Go.RowKit Go.Extern.Stop Go.Stop Go.Extern

set_option maxHeartbeats 400000 in
theorem parse_ok (A c : Nat) (g : Nat → Int) (w : World) (hA : Bytes w A 2 g) (h0 : 0 ≤ g 0) (h0' : g 0 < 4) (h1 : 0 ≤ g 1) (h1' : g 1 ≤ 4) :
    Calls Ybaf.prog 5 #[.slice (some ⟨A, 0, none⟩) 2 c] w fun e w' => e = .returned (.tuple #[.int .i64 (g 0), .int .i64 (g 1), .nilIface]) ∧ ∃ k, w' = w.drewN k := by
  have c0 := World.rowIs.cell hA (show 0 < 2 by omega)
  have c1 := World.rowIs.cell hA (show 1 < 2 by omega)
  have q0 : ¬ 4 ≤ g 0 := by omega
  have q1 : ¬ 4 < g 1 := by omega
  clear hA
  go_enter Ybaf.func5, Ybaf.ntmps5
  go_wp2_with fail
  go_quiet (fail)
  go_wp2_with fail
  go_ret3
  exact ⟨rfl, _, rfl⟩

set_option maxHeartbeats 400000 in
theorem parse_len (F : Interp) (a : Option Addr) (n c : Nat) (w : World) (hF : F.answers w.tape) (hn : n ≠ 2) :
    Calls Ybaf.prog 5 #[.slice a n c] w fun e w' => ∃ x, e = .returned (.tuple #[.int .i64 0, .int .i64 0, .iface 37 (.pointer (some x))]) ∧ Below w.heap.size w w' := by
  have hm := malformed_any F a n c w hF
  have hb : ((n : Int) != 2) = true := by simp; omega
  go_enter Ybaf.func5, Ybaf.ntmps5
  go_wp2_with fail
  refine hm.mono ?_
  rintro e w' ⟨x, rfl, hbl⟩
  have HB : Hid _ := hbl
  clear hbl hm
  go_wp2_with fail
  go_ret3
  exact ⟨x, rfl, HB⟩

set_option maxHeartbeats 400000 in
theorem parse_bad0 (F : Interp) (A c : Nat) (g : Nat → Int) (w : World) (hF : F.answers w.tape) (hA : Bytes w A 2 g) (h0 : 4 ≤ g 0) :
    Calls Ybaf.prog 5 #[.slice (some ⟨A, 0, none⟩) 2 c] w fun e w' => ∃ x, e = .returned (.tuple #[.int .i64 0, .int .i64 0, .iface 37 (.pointer (some x))]) ∧ Below w.heap.size w w' := by
  have hm := malformed_any F (some ⟨A, 0, none⟩) 2 c w hF
  have c0 := World.rowIs.cell hA (show 0 < 2 by omega)
  clear hA
  go_enter Ybaf.func5, Ybaf.ntmps5
  go_wp2_with fail
  refine hm.mono ?_
  rintro e w' ⟨x, rfl, hbl⟩
  have HB : Hid _ := hbl
  clear hbl hm
  go_wp2_with fail
  go_ret3
  exact ⟨x, rfl, HB⟩

set_option maxHeartbeats 400000 in
theorem parse_bad1 (F : Interp) (A c : Nat) (g : Nat → Int) (w : World) (hF : F.answers w.tape) (hA : Bytes w A 2 g) (h0 : g 0 < 4) (h1 : 4 < g 1) :
    Calls Ybaf.prog 5 #[.slice (some ⟨A, 0, none⟩) 2 c] w fun e w' => ∃ x, e = .returned (.tuple #[.int .i64 0, .int .i64 0, .iface 37 (.pointer (some x))]) ∧ Below w.heap.size w w' := by
  have hm := malformed_any F (some ⟨A, 0, none⟩) 2 c w hF
  have c0 := World.rowIs.cell hA (show 0 < 2 by omega)
  have c1 := World.rowIs.cell hA (show 1 < 2 by omega)
  have q0 : ¬ 4 ≤ g 0 := by omega
  clear hA
  go_enter Ybaf.func5, Ybaf.ntmps5
  go_wp2_with fail
  refine hm.mono ?_
  rintro e w' ⟨x, rfl, hbl⟩
  have HB : Hid _ := hbl
  clear hbl hm
  go_wp2_with fail
  go_ret3
  exact ⟨x, rfl, HB⟩
end Go.Proofs.YbulkfqjoFmt
