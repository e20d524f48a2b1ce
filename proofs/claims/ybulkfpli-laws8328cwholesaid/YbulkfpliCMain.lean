import Derived.Test.YbulkfpliCPlain
import Derived.Deep.DeepCutAuto
import Derived.Deep.CutBlock
namespace Go.Proofs.Ybulkfpli
open Go.RowKit Go.WideMaps Go.Maps

set_option maxRecDepth 100000 in
set_option maxHeartbeats 400000 in
theorem main_big (head log slug part rev v : ByteArray) (nilRevs : Bool) (a b : Option Addr) (n cap m cap' : Nat) (sel : Int) (w : World) (hn : 4096 < n) :
    Calls Yba.prog 3 #[.string head, .string log, .bool nilRevs, .slice a n cap, .slice b m cap', .string slug, .int .u8 sel, .string part, .string rev, .string v] w
      fun e w' => e = .returned (.bool true) ∧ w' = w := by
  go_enter Yba.func3, Yba.ntmps3
  go_wp2
  go_ret
  exact ⟨rfl, rfl⟩

set_option maxRecDepth 100000 in
set_option maxHeartbeats 1000000 in
theorem main_nil (head log slug part rev v : ByteArray) (a b : Option Addr) (n cap m cap' : Nat) (sel : Int) (w : World) (hn : n ≤ 4096)
    (hs0 : 0 ≤ sel) (hs1 : sel ≤ 255) (hrev : rev.size ≤ maxLen) (hvs : v.size ≤ maxLen) :
    Calls Yba.prog 3 #[.string head, .string log, .bool true, .slice a n cap, .slice b m cap', .string slug, .int .u8 sel, .string part, .string rev, .string v] w
      fun e w' => e = .returned (.bool true) ∧ Below w.heap.size w w' := by
  go_enter Yba.func3, Yba.ntmps3
  go_upto_block 0 with fail
  go_cut [21] (fun s wx => (∃ p : ByteArray, s = .string p) ∧ wx = w)
  case first =>
    go_wp2
    all_goals (go_meet; case rel => exact ⟨⟨_, rfl⟩, rfl⟩)
  case rest =>
    obtain ⟨⟨p, rfl⟩, rfl⟩ := hcut
    have hbn := Blk.new wc #[.string head, .string log, .map none] 26
    have hbl : Below wc.heap.size wc (wc.alloc (.cells #[.string head, .string log, .map none] 26)) := (Below.refl _ _).alloc (Nat.le_refl _) _
    have hme : ∀ (w : World) (r : Option Nat), (binOp .eql 24 (.map r) (.map none)).run Yba.prog w = .ok (.bool r.isNone) w := fun w r => run_eql_map_nil w _ _ _ r Yba.underlying24
    have HBN : Hid _ := hbn
    have HBL : Hid _ := hbl
    clear hbn hbl
    by_cases hp1 : p = ⟨#[104, 101, 97, 100]⟩
    · subst hp1
      go_wp2_with fail
      refine (set_head_b _ _ _ _ _ _ _ _ HBN).mono ?_
      rintro e w' ⟨rfl, hb', hg'⟩
      have HF : Hid (Below wc.heap.size wc w') := Below.grown HBL hg' (by simp) (by intro k e; cases e; exact Nat.le_refl _)
      have c0 := hb'.cell 0
      have c1 := hb'.cell 1
      have c2 := hb'.cell 2
      simp at c0 c1 c2
      clear hb' hg'
      go_wp2
      go_ret
      exact ⟨rfl, HF⟩
    · by_cases hp2 : p = ⟨#[108, 111, 103]⟩
      · subst hp2
        go_wp2_with fail
        refine (set_log_b _ _ _ _ _ _ _ _ HBN).mono ?_
        rintro e w' ⟨rfl, hb', hg'⟩
        have HF : Hid (Below wc.heap.size wc w') := Below.grown HBL hg' (by simp) (by intro k e; cases e; exact Nat.le_refl _)
        have c0 := hb'.cell 0
        have c1 := hb'.cell 1
        have c2 := hb'.cell 2
        simp at c0 c1 c2
        clear hb' hg'
        go_wp2
        go_ret
        exact ⟨rfl, HF⟩
      · go_wp2_with fail
        refine (set_nil _ _ _ _ _ _ _ _ HBN hrev hvs hp1 hp2).mono ?_
        rintro e w' ⟨rfl, M, hM, hb', hown', hg'⟩
        have HF : Hid (Below wc.heap.size wc w') := Below.grown HBL hg' (by simp) (by intro k e; cases e; exact Nat.le_refl _)
        have c0 := hb'.cell 0
        have c1 := hb'.cell 1
        have c2 := hb'.cell 2
        simp at c0 c1 c2
        clear hb' hg'
        have hn1 : (p.toList == [104, 101, 97, 100]) = false := str_ne_lit _ hp1
        have hn2 : (p.toList == [108, 111, 103]) = false := str_ne_lit _ hp2
        have hlen := fun ty => hown'.len Yba.underlying24 ty
        rw [show Maps.size (DataW.put (.map []) (.string rev.data.toList) (.lit (.string v.data.toList)) : DataW Unit) = 1 from rfl] at hlen
        have hlk := look w' M 1 _ rev v hown' hrev (has_put_same isMap_empty (kOf_key rev) _) (fun z => atKey_put_same isMap_empty (kOf_key rev) (dOf v) z)
        clear hown'
        go_wp2
        refine wp_loop_rounds 1 ?_
        rw [rounds_succ]
        go_wp2
        refine wp_loop_rounds 1 ?_
        rw [rounds_succ]
        go_wp2
        go_ret
        exact ⟨rfl, HF⟩
end Go.Proofs.Ybulkfpli
