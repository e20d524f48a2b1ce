import Derived.Test.YbulkfqjoFmtBMain
namespace Go.Proofs.YbulkfqjoFmt
open Go.RowKit Go.Extern.Stop Go.Stop Go.Extern

theorem stripe_yes (x : Int) (h0 : 0 ≤ x) (h1 : x < 4) : (#[Value.bool true, Value.bool true, Value.bool true, Value.bool true, Value.bool false, Value.bool false, Value.bool false, Value.bool false] : Array Value)[x.toNat]? = some (.bool true) := by
  obtain ⟨n, rfl⟩ := Int.eq_ofNat_of_zero_le h0
  rw [Int.toNat_natCast]
  match n, h1 with
  | 0, _ => rfl
  | 1, _ => rfl
  | 2, _ => rfl
  | 3, _ => rfl
  | n + 4, h => omega
theorem stripe_no (x : Int) (h0 : 4 ≤ x) (h1 : x < 8) : (#[Value.bool true, Value.bool true, Value.bool true, Value.bool true, Value.bool false, Value.bool false, Value.bool false, Value.bool false] : Array Value)[x.toNat]? = some (.bool false) := by
  obtain ⟨n, rfl⟩ := Int.eq_ofNat_of_zero_le (show 0 ≤ x by omega)
  rw [Int.toNat_natCast]
  match n, h0, h1 with
  | 0, h, _ => omega
  | 1, h, _ => omega
  | 2, h, _ => omega
  | 3, h, _ => omega
  | 4, _, _ => rfl
  | 5, _, _ => rfl
  | 6, _, _ => rfl
  | 7, _, _ => rfl
  | n + 8, _, h => omega
theorem place_yes (x : Int) (h0 : 0 ≤ x) (h1 : x ≤ 4) : (#[Value.bool true, Value.bool true, Value.bool true, Value.bool true, Value.bool true, Value.bool false, Value.bool false, Value.bool false] : Array Value)[x.toNat]? = some (.bool true) := by
  obtain ⟨n, rfl⟩ := Int.eq_ofNat_of_zero_le h0
  rw [Int.toNat_natCast]
  match n, h1 with
  | 0, _ => rfl
  | 1, _ => rfl
  | 2, _ => rfl
  | 3, _ => rfl
  | 4, _ => rfl
  | n + 5, h => omega
theorem place_no (x : Int) (h0 : 4 < x) (h1 : x < 8) : (#[Value.bool true, Value.bool true, Value.bool true, Value.bool true, Value.bool true, Value.bool false, Value.bool false, Value.bool false] : Array Value)[x.toNat]? = some (.bool false) := by
  obtain ⟨n, rfl⟩ := Int.eq_ofNat_of_zero_le (show 0 ≤ x by omega)
  rw [Int.toNat_natCast]
  match n, h0, h1 with
  | 0, h, _ => omega
  | 1, h, _ => omega
  | 2, h, _ => omega
  | 3, h, _ => omega
  | 4, h, _ => omega
  | 5, _, _ => rfl
  | 6, _, _ => rfl
  | 7, _, _ => rfl
  | n + 8, _, h => omega

theorem tab_at {l : List Value} {k : Nat} {v : Value} (e : l.toArray[k]? = some v) : ∀ h : k < l.length, l[k]'h = v := fun h => by
  rw [List.getElem?_toArray, List.getElem?_eq_getElem h] at e
  exact Option.some.inj e

theorem bel2 (w : World) (o p : Obj) : Below w.heap.size w ((w.alloc o).alloc p) := ((Below.refl _ _).alloc (Nat.le_refl _) _).alloc (by simp) _

set_option maxRecDepth 100000 in
set_option maxHeartbeats 4000000 in
theorem b_main (F : Interp) (a : Addr) (n cap : Nat) (f : Nat → Int) (fold : Bool) (w : World) (hF : F.answers w.tape) (hn : n ≤ 1048576) (hr : ∀ j, 0 ≤ f j ∧ f j ≤ 255)
    (hb : 0 < n → a.spot = none ∧ a.block < w.heap.size ∧ ∀ j, j < n → w.cell? ⟨a.block, a.off + j, none⟩ = some (.int .u8 (f j))) :
    Calls Ybaf.prog 3 #[.slice (some a) n cap, .bool fold] w fun e w' => e = .returned (.bool true) ∧ Below w.heap.size w w' := by
  have HF : Hid (F.answers w.tape) := hF
  have HR : Hid (∀ j, 0 ≤ f j ∧ f j ≤ 255) := hr
  have HBd : Hid (0 < n → a.spot = none ∧ a.block < w.heap.size ∧ ∀ j, j < n → w.cell? ⟨a.block, a.off + j, none⟩ = some (.int .u8 (f j))) := hb
  clear hF hr hb
  go_enter Ybaf.func3, Ybaf.ntmps3
  go_wp2_with fail
  refine (clone_any a n cap f w hn HBd).mono ?_
  rintro e w1 ⟨rfl, hrow, hbl, hsz⟩
  have HRow : Hid (Bytes w1 w.heap.size n f) := hrow
  have HBl : Hid (Below w.heap.size w w1) := hbl
  clear hrow hbl
  go_upto_if 21 with fail
  go_cut [6] (fun _ wx => ∃ g : Nat → Int, (∀ j, 0 ≤ g j ∧ g j ≤ 255) ∧ Hid (Bytes wx w.heap.size n g) ∧ Hid (Below w.heap.size w wx) ∧ Hid (wx.heap.size = w.heap.size + 1))
  case first =>
    cases fold
    · go_wp2_with fail
      go_meet
      case rel => exact ⟨f, HR, HRow, HBl, hsz⟩
    · go_wp2_with fail
      go_loopw [6] (fun i wr => ∃ k : Nat, ∃ g : Nat → Int, k ≤ n ∧ i = .int .i64 k ∧ Hid (∀ j, 0 ≤ g j ∧ g j ≤ 255) ∧ Hid (Bytes wr w.heap.size n g) ∧ Hid (Below w.heap.size w wr) ∧ Hid (wr.heap.size = w.heap.size + 1)) (fun i _ => n - (intOf i).toNat)
      case atStart => exact ⟨0, f, Nat.zero_le _, rfl, HR, HRow, HBl, hsz⟩
      case round =>
        obtain ⟨k, g, hk, rfl, hg, hrow, hbl, hsz'⟩ := hrel
        by_cases hlt : k < n
        · obtain ⟨hs, hab, hc⟩ := HBd.out (by omega)
          obtain ⟨b, off, spot⟩ := a
          subst hs
          have hck := (Below.cell hbl (p := ⟨b, off + k, none⟩) hab).trans (hc k hlt)
          have hcq := World.rowIs.cell hrow hlt
          have hfq := World.rowIs.frozen hrow k
          have hfk := HR.out k
          obtain ⟨f0, f1⟩ := hfk
          clear hc HBd
          go_wp2_with fail
          go_roundw
          case rel => exact ⟨k + 1, upd g k (f k % 8), by omega, by go_num, fun j => by
              by_cases e : j = k
              · rw [e, upd_same]; omega
              · rw [upd_other _ _ e]; exact hg.out j, Bytes.set hrow k (f k % 8), Below.setCell hbl (Nat.le_refl _) _, (World.size_setCell _ _ _).trans hsz'⟩
          case measure => simp [intOf]; omega
        · have : k = n := by omega
          subst this
          go_wp2_with fail
          go_meet
          case rel => exact ⟨g, hg, hrow, hbl, hsz'⟩
  case rest =>
    obtain ⟨g, hg, hrow, hbl, hsz⟩ := hcut
    have HG : Hid (∀ j, 0 ≤ g j ∧ g j ≤ 255) := hg
    clear hg
    go_wp2_with fail
    refine (clone_any ⟨w.heap.size, 0, none⟩ n n g wc hn (fun _ => ⟨rfl, World.rowIs.lt hrow, fun j hj => by rw [Nat.zero_add]; exact World.rowIs.cell hrow hj⟩)).mono ?_
    rintro e w2 ⟨rfl, hrow2, hbl2, hsz2⟩
    have HA2 : Hid (Bytes w2 w.heap.size n g) := Bytes.below hrow hbl2
    have HS2 : Hid (Bytes w2 wc.heap.size n g) := hrow2
    have HB2 : Hid (Below w.heap.size w w2) := Below.trans hbl (hbl2.mono (Below.size hbl))
    have HF2 : Hid (F.answers w2.tape) := by
      have := Below.tape HB2
      rw [this]; exact HF
    clear hrow2 hbl2 hsz2 hrow hbl hsz HBd HRow HBl
    generalize wc.heap.size = S at *
    by_cases h2 : n = 2
    · subst h2
      obtain ⟨l0, u0⟩ := HG.out 0
      obtain ⟨l1, u1⟩ := HG.out 1
      by_cases h8 : g 0 < 8
      · by_cases h18 : g 1 < 8
        · by_cases h4 : g 0 < 4
          · by_cases h14 : g 1 ≤ 4
            ·
              have hS := World.rowIs.lt HS2
              have hS1 : S < w2.heap.size + 1 := by omega
              have c0 := World.rowIs.cell HS2 (show 0 < 2 by omega)
              have c1 := World.rowIs.cell HS2 (show 1 < 2 by omega)
              have hs := tab_at (stripe_yes (g 0) l0 h4)
              have hp := tab_at (place_yes (g 1) l1 h14)
              go_wp2_with fail
              have hb0 := bel2 w2 (.cells #[.bool true, .bool true, .bool true, .bool true, .bool false, .bool false, .bool false, .bool false] 24) (.cells #[.bool true, .bool true, .bool true, .bool true, .bool true, .bool false, .bool false, .bool false] 24)
              refine (parse_ok w.heap.size 2 g _ (Bytes.below HA2 hb0) l0 h4 l1 h14).mono ?_
              rintro e w3 ⟨rfl, kk, hw3⟩
              have hb23 : Below w2.heap.size w2 w3 := by rw [hw3]; exact bel_drewN hb0
              have HA3 : Hid (Bytes w3 w.heap.size 2 g) := Bytes.below HA2 hb23
              have HS3 : Hid (Bytes w3 S 2 g) := Bytes.below HS2 hb23
              have HB3 : Hid (Below w.heap.size w w3) := Below.trans HB2 (hb23.mono (Below.size HB2))
              clear hb0 hw3 hb23
              go_wp2_with (go_at_call 6; refine (same_any _ _ _ _ _ g _ hn HA3 HS3).mono ?_; rintro e w4 ⟨rfl, k, rfl⟩)
              go_ret
              exact ⟨rfl, bel_drewN HB3⟩
            ·
              have hS := World.rowIs.lt HS2
              have hS1 : S < w2.heap.size + 1 := by omega
              have c0 := World.rowIs.cell HS2 (show 0 < 2 by omega)
              have c1 := World.rowIs.cell HS2 (show 1 < 2 by omega)
              have hs := tab_at (stripe_yes (g 0) l0 h4)
              have hp := tab_at (place_no (g 1) (by omega) h18)
              go_wp2_with fail
              have hb0 := bel2 w2 (.cells #[.bool true, .bool true, .bool true, .bool true, .bool false, .bool false, .bool false, .bool false] 24) (.cells #[.bool true, .bool true, .bool true, .bool true, .bool true, .bool false, .bool false, .bool false] 24)
              refine (parse_bad1 F w.heap.size 2 g _ (by exact HF2) (Bytes.below HA2 hb0) h4 (by omega)).mono ?_
              rintro e w3 ⟨x, rfl, hb3⟩
              have hb23 := hb0.trans (hb3.mono hb0.size)
              have HA3 : Hid (Bytes w3 w.heap.size 2 g) := Bytes.below HA2 hb23
              have HS3 : Hid (Bytes w3 S 2 g) := Bytes.below HS2 hb23
              have HB3 : Hid (Below w.heap.size w w3) := Below.trans HB2 (hb23.mono (Below.size HB2))
              clear hb0 hb3 hb23
              go_wp2_with (go_at_call 6; refine (same_any _ _ _ _ _ g _ hn HA3 HS3).mono ?_; rintro e w4 ⟨rfl, k, rfl⟩)
              go_ret
              exact ⟨rfl, bel_drewN HB3⟩
          ·
            have hS := World.rowIs.lt HS2
            have hS1 : S < w2.heap.size + 1 := by omega
            have c0 := World.rowIs.cell HS2 (show 0 < 2 by omega)
            have c1 := World.rowIs.cell HS2 (show 1 < 2 by omega)
            have hs := tab_at (stripe_no (g 0) (by omega) h8)
            go_wp2_with fail
            have hb0 := bel2 w2 (.cells #[.bool true, .bool true, .bool true, .bool true, .bool false, .bool false, .bool false, .bool false] 24) (.cells #[.bool true, .bool true, .bool true, .bool true, .bool true, .bool false, .bool false, .bool false] 24)
            refine (parse_bad0 F w.heap.size 2 g _ (by exact HF2) (Bytes.below HA2 hb0) (by omega)).mono ?_
            rintro e w3 ⟨x, rfl, hb3⟩
            have hb23 := hb0.trans (hb3.mono hb0.size)
            have HA3 : Hid (Bytes w3 w.heap.size 2 g) := Bytes.below HA2 hb23
            have HS3 : Hid (Bytes w3 S 2 g) := Bytes.below HS2 hb23
            have HB3 : Hid (Below w.heap.size w w3) := Below.trans HB2 (hb23.mono (Below.size HB2))
            clear hb0 hb3 hb23
            go_wp2_with (go_at_call 6; refine (same_any _ _ _ _ _ g _ hn HA3 HS3).mono ?_; rintro e w4 ⟨rfl, k, rfl⟩)
            go_ret
            exact ⟨rfl, bel_drewN HB3⟩
        · by_cases h4 : g 0 < 4
          ·
            have hS := World.rowIs.lt HS2
            have hS1 : S < w2.heap.size + 1 := by omega
            have c0 := World.rowIs.cell HS2 (show 0 < 2 by omega)
            have c1 := World.rowIs.cell HS2 (show 1 < 2 by omega)
            go_wp2_with fail
            have hb0 := bel2 w2 (.cells #[.bool true, .bool true, .bool true, .bool true, .bool false, .bool false, .bool false, .bool false] 24) (.cells #[.bool true, .bool true, .bool true, .bool true, .bool true, .bool false, .bool false, .bool false] 24)
            refine (parse_bad1 F w.heap.size 2 g _ (by exact HF2) (Bytes.below HA2 hb0) h4 (by omega)).mono ?_
            rintro e w3 ⟨x, rfl, hb3⟩
            have hb23 := hb0.trans (hb3.mono hb0.size)
            have HA3 : Hid (Bytes w3 w.heap.size 2 g) := Bytes.below HA2 hb23
            have HS3 : Hid (Bytes w3 S 2 g) := Bytes.below HS2 hb23
            have HB3 : Hid (Below w.heap.size w w3) := Below.trans HB2 (hb23.mono (Below.size HB2))
            clear hb0 hb3 hb23
            go_wp2_with (go_at_call 6; refine (same_any _ _ _ _ _ g _ hn HA3 HS3).mono ?_; rintro e w4 ⟨rfl, k, rfl⟩)
            go_ret
            exact ⟨rfl, bel_drewN HB3⟩
          ·
            have hS := World.rowIs.lt HS2
            have hS1 : S < w2.heap.size + 1 := by omega
            have c0 := World.rowIs.cell HS2 (show 0 < 2 by omega)
            have c1 := World.rowIs.cell HS2 (show 1 < 2 by omega)
            go_wp2_with fail
            have hb0 := bel2 w2 (.cells #[.bool true, .bool true, .bool true, .bool true, .bool false, .bool false, .bool false, .bool false] 24) (.cells #[.bool true, .bool true, .bool true, .bool true, .bool true, .bool false, .bool false, .bool false] 24)
            refine (parse_bad0 F w.heap.size 2 g _ (by exact HF2) (Bytes.below HA2 hb0) (by omega)).mono ?_
            rintro e w3 ⟨x, rfl, hb3⟩
            have hb23 := hb0.trans (hb3.mono hb0.size)
            have HA3 : Hid (Bytes w3 w.heap.size 2 g) := Bytes.below HA2 hb23
            have HS3 : Hid (Bytes w3 S 2 g) := Bytes.below HS2 hb23
            have HB3 : Hid (Below w.heap.size w w3) := Below.trans HB2 (hb23.mono (Below.size HB2))
            clear hb0 hb3 hb23
            go_wp2_with (go_at_call 6; refine (same_any _ _ _ _ _ g _ hn HA3 HS3).mono ?_; rintro e w4 ⟨rfl, k, rfl⟩)
            go_ret
            exact ⟨rfl, bel_drewN HB3⟩
      ·
        have hS := World.rowIs.lt HS2
        have hS1 : S < w2.heap.size + 1 := by omega
        have c0 := World.rowIs.cell HS2 (show 0 < 2 by omega)
        have c1 := World.rowIs.cell HS2 (show 1 < 2 by omega)
        go_wp2_with fail
        have hb0 := bel2 w2 (.cells #[.bool true, .bool true, .bool true, .bool true, .bool false, .bool false, .bool false, .bool false] 24) (.cells #[.bool true, .bool true, .bool true, .bool true, .bool true, .bool false, .bool false, .bool false] 24)
        refine (parse_bad0 F w.heap.size 2 g _ (by exact HF2) (Bytes.below HA2 hb0) (by omega)).mono ?_
        rintro e w3 ⟨x, rfl, hb3⟩
        have hb23 := hb0.trans (hb3.mono hb0.size)
        have HA3 : Hid (Bytes w3 w.heap.size 2 g) := Bytes.below HA2 hb23
        have HS3 : Hid (Bytes w3 S 2 g) := Bytes.below HS2 hb23
        have HB3 : Hid (Below w.heap.size w w3) := Below.trans HB2 (hb23.mono (Below.size HB2))
        clear hb0 hb3 hb23
        go_wp2_with (go_at_call 6; refine (same_any _ _ _ _ _ g _ hn HA3 HS3).mono ?_; rintro e w4 ⟨rfl, k, rfl⟩)
        go_ret
        exact ⟨rfl, bel_drewN HB3⟩
    ·
      have hb2 : ((n : Int) == 2) = false := beq_eq_false_iff_ne.2 (by omega)
      go_wp2_with fail
      have hb0 := bel2 w2 (.cells #[.bool true, .bool true, .bool true, .bool true, .bool false, .bool false, .bool false, .bool false] 24) (.cells #[.bool true, .bool true, .bool true, .bool true, .bool true, .bool false, .bool false, .bool false] 24)
      refine (parse_len F _ n n _ (by exact HF2) h2).mono ?_
      rintro e w3 ⟨x, rfl, hb3⟩
      have hb23 := hb0.trans (hb3.mono hb0.size)
      have HA3 : Hid (Bytes w3 w.heap.size n g) := Bytes.below HA2 hb23
      have HS3 : Hid (Bytes w3 S n g) := Bytes.below HS2 hb23
      have HB3 : Hid (Below w.heap.size w w3) := Below.trans HB2 (hb23.mono (Below.size HB2))
      clear hb0 hb3 hb23
      go_wp2_with (go_at_call 6; refine (same_any _ _ _ _ _ g _ hn HA3 HS3).mono ?_; rintro e w4 ⟨rfl, k, rfl⟩)
      go_ret
      exact ⟨rfl, bel_drewN HB3⟩
end Go.Proofs.YbulkfqjoFmt
