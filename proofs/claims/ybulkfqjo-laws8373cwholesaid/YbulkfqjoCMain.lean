import Derived.Test.YbulkfqjoCParts
namespace Go.Proofs.Ybulkfqjo
open Go.RowKit

set_option maxRecDepth 100000 in
set_option maxHeartbeats 6400000 in
theorem main_node (ended done : Bool) (p0 p1 p2 : Option Addr) (n cap : Nat → Nat) (c l : Nat → Nat → Bool) (x : Nat → Nat → Nat) (w : World) (hn : n 0 + n 1 + n 2 ≤ 1048576) (hx0 : XAt w p0 (n 0) (c 0) (l 0) (x 0)) (hx1 : XAt w p1 (n 1) (c 1) (l 1) (x 1)) (hx2 : XAt w p2 (n 2) (c 2) (l 2) (x 2)) :
    Calls Yba.prog 3 #[.bool ended, .bool true, .bool done, .slice p0 (n 0) (cap 0), .slice p1 (n 1) (cap 1), .slice p2 (n 2) (cap 2)] w fun e w' => e = .returned (.bool true) ∧ Below w.heap.size w w' := by
  have HX0 : Hid (XAt w p0 (n 0) (c 0) (l 0) (x 0)) := hx0
  have HX1 : Hid (XAt w p1 (n 1) (c 1) (l 1) (x 1)) := hx1
  have HX2 : Hid (XAt w p2 (n 2) (c 2) (l 2) (x 2)) := hx2
  clear hx0 hx1 hx2
  have hw : ¬ (1048576 < ((n 0 : Nat) : Int) + ((n 1 : Nat) : Int) + ((n 2 : Nat) : Int)) := by omega
  go_enter Yba.func3, Yba.ntmps3
  go_wp2_with fail
  refine (make_any p0 (n 0) (cap 0) (c 0) (l 0) (x 0) w (by omega) HX0.out).mono ?_
  rintro e w1 ⟨v0, rfl, q0, E0, I0, rfl, hm0⟩
  have HM0 : Hid (Made w p0 (n 0) (c 0) (x 0) q0 E0 I0 w1) := hm0
  clear hm0
  go_wp2_with fail
  refine (make_any p1 (n 1) (cap 1) (c 1) (l 1) (x 1) w1 (by omega) (HX1.out.below rfl HM0.out.bel)).mono ?_
  rintro e w2 ⟨v1, rfl, q1, E1, I1, rfl, hm1⟩
  have HM1 : Hid (Made w1 p1 (n 1) (c 1) (x 1) q1 E1 I1 w2) := hm1
  clear hm1
  go_wp2_with fail
  refine (make_any p2 (n 2) (cap 2) (c 2) (l 2) (x 2) w2 (by omega) ((HX2.out.below rfl HM0.out.bel).below rfl HM1.out.bel)).mono ?_
  rintro e w3 ⟨v2, rfl, q2, E2, I2, rfl, hm2⟩
  obtain ⟨E, I, hE⟩ := ends_made (p := pick3 p0 p1 p2) (l := l) HM0.out HM1.out hm2
  have HE : Hid (Ends w (pick3 p0 p1 p2) n c l x (pick3 q0 q1 q2) E I w3) := hE
  clear hm2 hE HM0 HM1
  go_upto_if 38 with fail
  go_cut [16, 17] (fun s16 s17 wx => ∃ N lp lb, s16 = .pointer (some ⟨N, 0, none⟩) ∧ s17 = .slice lp (n 0) (n 0) ∧ Hid (Ends w (pick3 p0 p1 p2) n c l x (pick3 q0 q1 q2) E I wx) ∧ Hid (Noded w done p0 lp (n 0) lb (E 0) (l 0) N wx))
  case first =>
    cases p0 with
    | none =>
      have hn0 : n 0 = 0 := HX0.out.2.1 rfl
      go_wp2_with fail
      go_meet
      case rel =>
        have hb : ∀ o, Below w3.heap.size w3 (w3.alloc o) := fun o => (Below.refl _ _).alloc (Nat.le_refl _) _
        have := HE.out.bel.size
        exact ⟨w3.heap.size, none, fun _ => 0, rfl, by rw [hn0], HE.out.kept (hb _), ⟨rfl, ⟨_, alloc_at _ _ _ rfl, rfl, by rw [hn0]; rfl, rfl⟩, Or.inl ⟨rfl, hn0⟩, fun i hi => by omega, fun i j hi => by omega, fun i hi => by omega, this⟩⟩
    | some a =>
      have hmk : ∀ w, (Instr.makeSlice 26 (.int .i64 ((n 0 : Nat) : Int)) (.int .i64 ((n 0 : Nat) : Int))).run Yba.prog w = .ok (.slice (some ⟨w.heap.size, 0, none⟩) (n 0) (n 0)) (w.alloc (.cells (madeCells #[.pointer none] (n 0)) 27)) := fun w => run_make_row' 26 27 (.pointer none) 8 Yba.underlying26 info27 rfl .i64 .i64 (n 0) (by omega) (by omega) w
      have H0 : Hid (LK w3 (n 0) (fun _ => 0) (E 0) (l 0) 0 (w3.alloc (.cells (madeCells #[.pointer none] (n 0)) 27))) :=
        ⟨(World.rowIs_made w3 (.pointer none) (n 0) 27).congr (fun i _ => by simp), fun i hi => by omega, fun i hi => by omega, fun i j hi => by omega, (Below.refl _ _).alloc (Nat.le_refl _) _⟩
      go_upto_region 12 with fail
      go_loopw [18] (fun s18 wr => ∃ k : Nat, s18 = .int .i64 (k : Int) ∧ k ≤ n 0 ∧ ∃ lb, Hid (LK w3 (n 0) lb (E 0) (l 0) k wr)) (fun s18 _ => n 0 - (intOf s18).toNat)
      case atStart => exact ⟨0, rfl, by omega, _, H0⟩
      case round =>
        obtain ⟨k, rfl, hk, lb, hr⟩ := hrel
        by_cases hlt : k < n 0
        · obtain ⟨b, o, hpa, hb, hc⟩ := HX0.out.2.2 (by omega)
          obtain rfl : a = ⟨b, o, none⟩ := by injection hpa
          have hbw := HE.out.bel.size
          have hbr := hr.out.bel.size
          have e2 := ((hr.out.bel.cell (p := ⟨b, _, none⟩) (Nat.lt_of_lt_of_le hb hbw)).trans (HE.out.bel.cell (p := ⟨b, _, none⟩) hb)).trans (hc k hlt).2.2
          obtain ⟨qb, hq0, hqc⟩ := (HE.out.row 0 (by omega)).get hlt
          obtain rfl : q0 = some ⟨qb, 0, none⟩ := hq0
          have hql : qb < w3.heap.size := World.block_lt_of_cell? _ _ hqc
          have hqc' := (hr.out.bel.cell (p := ⟨qb, k, none⟩) hql).trans hqc
          have hlw : w3.heap.size < wr.heap.size := hr.out.row.lt
          have hck := hr.out.row.cell hlt
          rw [if_neg (Nat.lt_irrefl k)] at hck
          have hfk := hr.out.row.frozen k
          have hlt' : (k : Int) < ((n 0 : Nat) : Int) := by omega
          clear hc hpa hqc
          go_upto_region 14 with fail
          go_region
          go_wp2_with fail
          go_roundw
          case rel =>
            refine ⟨k + 1, by simp, by omega, _, hr.out.step hlt ((Below.refl _ _).alloc (by simp) _).drew ?_⟩
            exact ⟨_, alloc_at _ _ _ (by simp), rfl, rfl, rfl⟩
          case measure => simp [intOf]; omega
        · obtain rfl : k = n 0 := by omega
          have hlt' : ¬ ((n 0 : Nat) : Int) < ((n 0 : Nat) : Int) := by omega
          go_wp2_with fail
          go_meet
          case rel =>
            have hb : ∀ o, Below wr.heap.size wr (wr.alloc o) := fun o => (Below.refl _ _).alloc (Nat.le_refl _) _
            have kc : ∀ o, Chg (fun _ => False) wr (wr.alloc o) := fun o => Below.chg (hb o)
            have h3 := HE.out.bel.size
            have h4 := hr.out.bel.size
            have h := hr.out
            exact ⟨wr.heap.size, some ⟨w3.heap.size, 0, none⟩, lb, rfl, rfl, (HE.out.kept h.bel).kept (hb _), ⟨rfl, ⟨_, alloc_at _ _ _ rfl, rfl, rfl, rfl⟩,
              (kc _).prow (Or.inr ⟨w3.heap.size, rfl, h.row.congr fun i hi => by rw [if_pos hi]⟩) (fun _ _ h => h), fun i hi => (kc _).link (h.links i hi) id, h.inj, fun i hi => by have := h.ge i hi; omega, by omega⟩⟩
  case rest =>
    obtain ⟨N, lp, lb, rfl, rfl, HE', HN⟩ := hcut
    clear HE
    go_upto_region 16 with fail
    go_cut [19] (fun s19 wx => ∃ B, s19 = .pointer (some ⟨B, 0, none⟩) ∧ Hid (Ends w (pick3 p0 p1 p2) n c l x (pick3 q0 q1 q2) E I wx) ∧ Hid (Noded w done p0 lp (n 0) lb (E 0) (l 0) N wx) ∧
      Hid (SimAt wx B (.pointer (some ⟨N, 0, none⟩)) ended (.slice q1 (n 1) (n 1)) (.slice q2 (n 2) (n 2)) ∧ w.heap.size ≤ B))
    case first =>
      go_wp2_with fail
      go_meet
      case rel =>
        have hb : ∀ o, Below wc.heap.size wc (wc.alloc o) := fun o => (Below.refl _ _).alloc (Nat.le_refl _) _
        exact ⟨wc.heap.size, rfl, HE'.out.kept (hb _), HN.out.kept (hb _), ⟨_, alloc_at _ _ _ rfl, rfl, rfl, rfl, rfl, rfl⟩, HE'.out.bel.size⟩
    case rest =>
      clear HE' HN
      obtain ⟨B, rfl, HE, HN, HS⟩ := hcut
      cases ended with
      | true =>
        go_wp2_with fail
        refine (settle_ended B _ _ _ _ HS.out.1).mono ?_
        rintro e w' ⟨rfl, rfl⟩
        clear hw
        have HA : Hid (After w (pick3 p0 p1 p2) n c l x (pick3 q0 q1 q2) E false w') := after_still HE.out
        have c5 : w'.cell? ⟨B, 5, none⟩ = some (.pointer (some ⟨N, 0, none⟩)) := by obtain ⟨cs, h0, hs, h5, h25, h29, h30⟩ := HS.out.1; exact (cell_blk h0 5).trans h5
        have c25 : w'.cell? ⟨B, 25, none⟩ = some (.bool true) := by obtain ⟨cs, h0, hs, h5, h25, h29, h30⟩ := HS.out.1; exact (cell_blk h0 25).trans h25
        have c29 : w'.cell? ⟨B, 29, none⟩ = some (.slice q1 (n 1) (n 1)) := by obtain ⟨cs, h0, hs, h5, h25, h29, h30⟩ := HS.out.1; exact (cell_blk h0 29).trans h29
        have c30 : w'.cell? ⟨B, 30, none⟩ = some (.slice q2 (n 2) (n 2)) := by obtain ⟨cs, h0, hs, h5, h25, h29, h30⟩ := HS.out.1; exact (cell_blk h0 30).trans h30
        have d13 : w'.cell? ⟨N, 13, none⟩ = some (.slice lp (n 0) (n 0)) := by obtain ⟨cs, h0, hs, h13, h18⟩ := HN.out.node; exact (cell_blk h0 13).trans h13
        have d18 : w'.cell? ⟨N, 18, none⟩ = some (.bool done) := by obtain ⟨cs, h0, hs, h13, h18⟩ := HN.out.node; exact (cell_blk h0 18).trans h18
        have hq := neq25
        go_wp2_with fail
        refine (same_any q1 (n 1) (E 1) w' (by omega) (HE.out.row 1 (by omega))).mono ?_
        rintro e wA ⟨rfl, m1, rfl⟩
        go_wp2_with fail
        refine (same_any q2 (n 2) (E 2) (w'.drewN m1) (by omega) (HE.out.row 2 (by omega))).mono ?_
        rintro e wA ⟨rfl, m2, rfl⟩
        have hnil : ∀ w, (binOp .eql 26 (.slice lp (n 0) (n 0)) (.slice none 0 0)).run Yba.prog w = .ok (.bool lp.isNone) w := fun w => Lib.run_eql_slice_nil w _ _ lp (n 0) (n 0) 0 0 Yba.underlying26
        generalize lp.isNone = z at hnil
        go_upto_region 39 with fail
        go_loopw [22] (fun s22 wr => ∃ k m : Nat, s22 = .int .i64 (k : Int) ∧ k ≤ n 0 ∧ wr = w'.drewN m) (fun s22 _ => n 0 - (intOf s22).toNat)
        case atStart => exact ⟨0, _, rfl, by omega, rfl⟩
        case round =>
          obtain ⟨k, m, rfl, hk, rfl⟩ := hrel
          by_cases hlt : k < n 0
          · obtain ⟨L, rfl, hLc⟩ := HN.out.row.get hlt
            obtain ⟨b, o, hpa, hb, hc⟩ := HX0.out.2.2 (by omega)
            obtain rfl : p0 = some ⟨b, o, none⟩ := hpa
            have e2 := (HE.out.bel.cell (p := ⟨b, _, none⟩) hb).trans (hc k hlt).2.2
            obtain ⟨qb, hq0, hqc⟩ := (HE.out.row 0 (by omega)).get hlt
            obtain rfl : q0 = some ⟨qb, 0, none⟩ := hq0
            have l1 : w'.cell? ⟨lb k, 1, none⟩ = some (.iface 28 (.pointer (some ⟨E 0 k, 0, none⟩))) := by obtain ⟨cs, h0, hs, h1, h4⟩ := HN.out.links k hlt; exact (cell_blk h0 1).trans h1
            have l4 : w'.cell? ⟨lb k, 4, none⟩ = some (.bool (l 0 k)) := by obtain ⟨cs, h0, hs, h1, h4⟩ := HN.out.links k hlt; exact (cell_blk h0 4).trans h4
            have hq27 := neq27
            have hq32 := neq32
            have hlt' : (k : Int) < ((n 0 : Nat) : Int) := by omega
            clear hc hb
            go_upto_region 41 with fail
            go_quiet (fail)
            go_wp2_with fail
            go_roundw
            case rel => exact ⟨k + 1, _, by simp, by omega, rfl⟩
            case measure => simp [intOf]; omega
          · obtain rfl : k = n 0 := by omega
            have hlt' : ¬ ((n 0 : Nat) : Int) < ((n 0 : Nat) : Int) := by omega
            clear hq hnil
            go_wp2_with fail
            refine (HA.out.call 0 (by omega) (by omega) HX0.out (cap 0) m).mono ?_
            rintro e wA ⟨rfl, m3, rfl⟩
            go_wp2_with fail
            refine (HA.out.call 1 (by omega) (by omega) HX1.out (cap 1) m3).mono ?_
            rintro e wA ⟨rfl, m4, rfl⟩
            go_wp2_with fail
            refine (HA.out.call 2 (by omega) (by omega) HX2.out (cap 2) m4).mono ?_
            rintro e wA ⟨rfl, m5, rfl⟩
            go_wp2_with fail
            go_ret
            exact ⟨rfl, below_drewN HA.out.bel _⟩
      | false =>
        go_wp2_with fail
        cases done with
        | false =>
          refine (settle_busy B N _ _ _ _ HS.out.1 HN.out.node).mono ?_
          rintro e w' ⟨rfl, rfl⟩
          clear hw
          have HA : Hid (After w (pick3 p0 p1 p2) n c l x (pick3 q0 q1 q2) E false w') := after_still HE.out
          have c5 : w'.cell? ⟨B, 5, none⟩ = some (.pointer (some ⟨N, 0, none⟩)) := by obtain ⟨cs, h0, hs, h5, h25, h29, h30⟩ := HS.out.1; exact (cell_blk h0 5).trans h5
          have c25 : w'.cell? ⟨B, 25, none⟩ = some (.bool false) := by obtain ⟨cs, h0, hs, h5, h25, h29, h30⟩ := HS.out.1; exact (cell_blk h0 25).trans h25
          have c29 : w'.cell? ⟨B, 29, none⟩ = some (.slice q1 (n 1) (n 1)) := by obtain ⟨cs, h0, hs, h5, h25, h29, h30⟩ := HS.out.1; exact (cell_blk h0 29).trans h29
          have c30 : w'.cell? ⟨B, 30, none⟩ = some (.slice q2 (n 2) (n 2)) := by obtain ⟨cs, h0, hs, h5, h25, h29, h30⟩ := HS.out.1; exact (cell_blk h0 30).trans h30
          have d13 : w'.cell? ⟨N, 13, none⟩ = some (.slice lp (n 0) (n 0)) := by obtain ⟨cs, h0, hs, h13, h18⟩ := HN.out.node; exact (cell_blk h0 13).trans h13
          have d18 : w'.cell? ⟨N, 18, none⟩ = some (.bool false) := by obtain ⟨cs, h0, hs, h13, h18⟩ := HN.out.node; exact (cell_blk h0 18).trans h18
          have hq := neq25
          go_wp2_with fail
          refine (same_any q1 (n 1) (E 1) w' (by omega) (HE.out.row 1 (by omega))).mono ?_
          rintro e wA ⟨rfl, m1, rfl⟩
          go_wp2_with fail
          refine (same_any q2 (n 2) (E 2) (w'.drewN m1) (by omega) (HE.out.row 2 (by omega))).mono ?_
          rintro e wA ⟨rfl, m2, rfl⟩
          have hnil : ∀ w, (binOp .eql 26 (.slice lp (n 0) (n 0)) (.slice none 0 0)).run Yba.prog w = .ok (.bool lp.isNone) w := fun w => Lib.run_eql_slice_nil w _ _ lp (n 0) (n 0) 0 0 Yba.underlying26
          generalize lp.isNone = z at hnil
          go_upto_region 39 with fail
          go_loopw [22] (fun s22 wr => ∃ k m : Nat, s22 = .int .i64 (k : Int) ∧ k ≤ n 0 ∧ wr = w'.drewN m) (fun s22 _ => n 0 - (intOf s22).toNat)
          case atStart => exact ⟨0, _, rfl, by omega, rfl⟩
          case round =>
            obtain ⟨k, m, rfl, hk, rfl⟩ := hrel
            by_cases hlt : k < n 0
            · obtain ⟨L, rfl, hLc⟩ := HN.out.row.get hlt
              obtain ⟨b, o, hpa, hb, hc⟩ := HX0.out.2.2 (by omega)
              obtain rfl : p0 = some ⟨b, o, none⟩ := hpa
              have e2 := (HE.out.bel.cell (p := ⟨b, _, none⟩) hb).trans (hc k hlt).2.2
              obtain ⟨qb, hq0, hqc⟩ := (HE.out.row 0 (by omega)).get hlt
              obtain rfl : q0 = some ⟨qb, 0, none⟩ := hq0
              have l1 : w'.cell? ⟨lb k, 1, none⟩ = some (.iface 28 (.pointer (some ⟨E 0 k, 0, none⟩))) := by obtain ⟨cs, h0, hs, h1, h4⟩ := HN.out.links k hlt; exact (cell_blk h0 1).trans h1
              have l4 : w'.cell? ⟨lb k, 4, none⟩ = some (.bool (l 0 k)) := by obtain ⟨cs, h0, hs, h1, h4⟩ := HN.out.links k hlt; exact (cell_blk h0 4).trans h4
              have hq27 := neq27
              have hq32 := neq32
              have hlt' : (k : Int) < ((n 0 : Nat) : Int) := by omega
              clear hc hb
              go_upto_region 41 with fail
              go_quiet (fail)
              go_wp2_with fail
              go_roundw
              case rel => exact ⟨k + 1, _, by simp, by omega, rfl⟩
              case measure => simp [intOf]; omega
            · obtain rfl : k = n 0 := by omega
              have hlt' : ¬ ((n 0 : Nat) : Int) < ((n 0 : Nat) : Int) := by omega
              clear hq hnil
              go_wp2_with fail
              refine (HA.out.call 0 (by omega) (by omega) HX0.out (cap 0) m).mono ?_
              rintro e wA ⟨rfl, m3, rfl⟩
              go_wp2_with fail
              refine (HA.out.call 1 (by omega) (by omega) HX1.out (cap 1) m3).mono ?_
              rintro e wA ⟨rfl, m4, rfl⟩
              go_wp2_with fail
              refine (HA.out.call 2 (by omega) (by omega) HX2.out (cap 2) m4).mono ?_
              rintro e wA ⟨rfl, m5, rfl⟩
              go_wp2_with fail
              go_ret
              exact ⟨rfl, below_drewN HA.out.bel _⟩
        | true =>
          refine (settle_fires B N lp q1 q2 n lb (l 0) E c I wc hn ⟨HS.out.1, HN.out.node, HN.out.row, HE.out.row 1 (by omega), HE.out.row 2 (by omega), HN.out.links, HN.out.linj, HE.out.grp⟩).mono ?_
          rintro e w' ⟨rfl, hs', hn', hl', he', hch⟩
          have HA : Hid (After w (pick3 p0 p1 p2) n c l x (pick3 q0 q1 q2) E true w') := after_fired HE.out HN.out HS.out.1 HS.out.2 he' hch
          have HR : Hid (PRow w' 27 lp (n 0) lb) := hch.prow HN.out.row (not_mine HE.out HN.out HS.out.1 (by decide) (by decide) (by decide) (by decide))
          have HL : Hid (∀ i, i < n 0 → LinkAt w' (lb i) (E 0 i) false) := hl'
          have c5 : w'.cell? ⟨B, 5, none⟩ = some (.pointer (some ⟨N, 0, none⟩)) := by obtain ⟨cs, h0, hs, h5, h25, h29, h30⟩ := hs'; exact (cell_blk h0 5).trans h5
          have c25 : w'.cell? ⟨B, 25, none⟩ = some (.bool true) := by obtain ⟨cs, h0, hs, h5, h25, h29, h30⟩ := hs'; exact (cell_blk h0 25).trans h25
          have c29 : w'.cell? ⟨B, 29, none⟩ = some (.slice none 0 0) := by obtain ⟨cs, h0, hs, h5, h25, h29, h30⟩ := hs'; exact (cell_blk h0 29).trans h29
          have c30 : w'.cell? ⟨B, 30, none⟩ = some (.slice none 0 0) := by obtain ⟨cs, h0, hs, h5, h25, h29, h30⟩ := hs'; exact (cell_blk h0 30).trans h30
          have d13 : w'.cell? ⟨N, 13, none⟩ = some (.slice none 0 0) := by obtain ⟨cs, h0, hs, h13, h18⟩ := hn'; exact (cell_blk h0 13).trans h13
          have d18 : w'.cell? ⟨N, 18, none⟩ = some (.bool true) := by obtain ⟨cs, h0, hs, h13, h18⟩ := hn'; exact (cell_blk h0 18).trans h18
          have hq := neq25
          have hnil23 : ∀ w, (binOp .neq 23 (.slice none 0 0) (.slice none 0 0)).run Yba.prog w = .ok (.bool false) w := fun w => by simpa using run_neq_slice_nil (P := Yba.prog) (w := w) 23 28 none 0 0 Yba.underlying23
          have hnil26 : ∀ w, (binOp .neq 26 (.slice none 0 0) (.slice none 0 0)).run Yba.prog w = .ok (.bool false) w := fun w => by simpa using run_neq_slice_nil (P := Yba.prog) (w := w) 26 27 none 0 0 Yba.underlying26
          clear hw hs' hn' hl' he' hch HE HN HS
          go_upto_region 29 with fail
          go_loop [21] (fun s21 => ∃ k : Nat, s21 = .int .i64 (k : Int) ∧ k ≤ n 0) (fun s21 => n 0 - (intOf s21).toNat)
          case atStart => exact ⟨0, rfl, by omega⟩
          case round =>
            obtain ⟨k, rfl, hk⟩ := hrel
            by_cases hlt : k < n 0
            · obtain ⟨L, rfl, hLc⟩ := HR.out.get hlt
              have l4 : w'.cell? ⟨lb k, 4, none⟩ = some (.bool false) := by obtain ⟨cs, h0, hs, h1, h4⟩ := HL.out k hlt; exact (cell_blk h0 4).trans h4
              have hlt' : (k : Int) < ((n 0 : Nat) : Int) := by omega
              go_wp2_with fail
              go_round
              case rel => exact ⟨k + 1, by simp, by omega⟩
              case measure => simp [intOf]; omega
            · obtain rfl : k = n 0 := by omega
              have hlt' : ¬ ((n 0 : Nat) : Int) < ((n 0 : Nat) : Int) := by omega
              clear hq hnil23 hnil26
              go_wp2_with fail
              refine (HA.out.call 0 (by omega) (by omega) HX0.out (cap 0) 0).mono ?_
              rintro e wA ⟨rfl, m3, rfl⟩
              go_wp2_with fail
              refine (HA.out.call 1 (by omega) (by omega) HX1.out (cap 1) m3).mono ?_
              rintro e wA ⟨rfl, m4, rfl⟩
              go_wp2_with fail
              refine (HA.out.call 2 (by omega) (by omega) HX2.out (cap 2) m4).mono ?_
              rintro e wA ⟨rfl, m5, rfl⟩
              go_wp2_with fail
              go_ret
              exact ⟨rfl, below_drewN HA.out.bel _⟩
end Go.Proofs.Ybulkfqjo
