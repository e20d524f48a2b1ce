import Derived.Test.YbulkfqjoCParts
namespace Go.Proofs.Ybulkfqjo
open Go.RowKit

set_option maxRecDepth 100000 in
set_option maxHeartbeats 1600000 in
theorem main_big (ended hasNode done : Bool) (p0 p1 p2 : Option Addr) (n0 n1 n2 k0 k1 k2 : Nat) (w : World) (h0 : n0 ≤ 140737488355328) (h1 : n1 ≤ 140737488355328) (h2 : n2 ≤ 140737488355328) (hn : 1048576 < n0 + n1 + n2) :
    Calls Yba.prog 3 #[.bool ended, .bool hasNode, .bool done, .slice p0 n0 k0, .slice p1 n1 k1, .slice p2 n2 k2] w fun e w' => e = .returned (.bool true) ∧ w' = w := by
  have hw : 1048576 < ((n0 : Nat) : Int) + ((n1 : Nat) : Int) + ((n2 : Nat) : Int) := by omega
  go_enter Yba.func3, Yba.ntmps3
  go_wp2_with fail
  go_ret
  exact ⟨rfl, rfl⟩

set_option maxRecDepth 100000 in
set_option maxHeartbeats 3200000 in
theorem main_bare (ended done : Bool) (p0 p1 p2 : Option Addr) (n cap : Nat → Nat) (c l : Nat → Nat → Bool) (x : Nat → Nat → Nat) (w : World) (hn : n 0 + n 1 + n 2 ≤ 1048576) (hx0 : XAt w p0 (n 0) (c 0) (l 0) (x 0)) (hx1 : XAt w p1 (n 1) (c 1) (l 1) (x 1)) (hx2 : XAt w p2 (n 2) (c 2) (l 2) (x 2)) :
    Calls Yba.prog 3 #[.bool ended, .bool false, .bool done, .slice p0 (n 0) (cap 0), .slice p1 (n 1) (cap 1), .slice p2 (n 2) (cap 2)] w fun e w' => e = .returned (.bool true) ∧ Below w.heap.size w w' := by
  have HX0 : Hid (XAt w p0 (n 0) (c 0) (l 0) (x 0)) := hx0
  have HX1 : Hid (XAt w p1 (n 1) (c 1) (l 1) (x 1)) := hx1
  have HX2 : Hid (XAt w p2 (n 2) (c 2) (l 2) (x 2)) := hx2
  clear hx0 hx1 hx2
  have hw : ¬ (1048576 < ((n 0 : Nat) : Int) + ((n 1 : Nat) : Int) + ((n 2 : Nat) : Int)) := by omega
  go_enter Yba.func3, Yba.ntmps3
  go_wp2_with fail
  refine (make_any p0 (n 0) (cap 0) (c 0) (l 0) (x 0) w (by omega) HX0.out).mono ?_
  rintro e w1 ⟨v0, rfl, q0, E0, I0, rfl, hm0⟩
  have HM0 : Hid (Made w p0 (n 0) (c 0) (x 0) q0 E0 I0 w1) := hm0
  clear hm0
  go_wp2_with fail
  refine (make_any p1 (n 1) (cap 1) (c 1) (l 1) (x 1) w1 (by omega) (HX1.out.below rfl HM0.out.bel)).mono ?_
  rintro e w2 ⟨v1, rfl, q1, E1, I1, rfl, hm1⟩
  have HM1 : Hid (Made w1 p1 (n 1) (c 1) (x 1) q1 E1 I1 w2) := hm1
  clear hm1
  go_wp2_with fail
  refine (make_any p2 (n 2) (cap 2) (c 2) (l 2) (x 2) w2 (by omega) ((HX2.out.below rfl HM0.out.bel).below rfl HM1.out.bel)).mono ?_
  rintro e w3 ⟨v2, rfl, q2, E2, I2, rfl, hm2⟩
  obtain ⟨E, I, hE⟩ := ends_made (p := pick3 p0 p1 p2) (l := l) HM0.out HM1.out hm2
  have HE : Hid (Ends w (pick3 p0 p1 p2) n c l x (pick3 q0 q1 q2) E I w3) := hE
  clear hm2 hE HM0 HM1
  go_upto_region 16 with fail
  go_cut [19] (fun s19 wx => ∃ B, s19 = .pointer (some ⟨B, 0, none⟩) ∧ Hid (Ends w (pick3 p0 p1 p2) n c l x (pick3 q0 q1 q2) E I wx) ∧
    Hid (SimAt wx B (.pointer none) ended (.slice q1 (n 1) (n 1)) (.slice q2 (n 2) (n 2)) ∧ w.heap.size ≤ B))
  case first =>
    go_wp2_with fail
    go_meet
    case rel =>
      have hb : ∀ o, Below w3.heap.size w3 (w3.alloc o) := fun o => (Below.refl _ _).alloc (Nat.le_refl _) _
      exact ⟨w3.heap.size, rfl, HE.out.kept (hb _), ⟨_, alloc_at _ _ _ rfl, rfl, rfl, rfl, rfl, rfl⟩, HE.out.bel.size⟩
  case rest =>
    clear HE
    obtain ⟨B, rfl, HE, HS⟩ := hcut
    have HT : Hid (Calls Yba.prog 5 #[.pointer (some ⟨B, 0, none⟩)] wc fun e w' => e = .returned (.tuple #[]) ∧ w' = wc) := by
      cases ended
      · exact settle_bare B _ _ _ HS.out.1
      · exact settle_ended B _ _ _ _ HS.out.1
    have HA : Hid (After w (pick3 p0 p1 p2) n c l x (pick3 q0 q1 q2) E false wc) := after_still HE.out
    have c5 : wc.cell? ⟨B, 5, none⟩ = some (.pointer none) := by obtain ⟨cs, h0, hs, h5, h25, h29, h30⟩ := HS.out.1; exact (cell_blk h0 5).trans h5
    have c25 : wc.cell? ⟨B, 25, none⟩ = some (.bool ended) := by obtain ⟨cs, h0, hs, h5, h25, h29, h30⟩ := HS.out.1; exact (cell_blk h0 25).trans h25
    have c29 : wc.cell? ⟨B, 29, none⟩ = some (.slice q1 (n 1) (n 1)) := by obtain ⟨cs, h0, hs, h5, h25, h29, h30⟩ := HS.out.1; exact (cell_blk h0 29).trans h29
    have c30 : wc.cell? ⟨B, 30, none⟩ = some (.slice q2 (n 2) (n 2)) := by obtain ⟨cs, h0, hs, h5, h25, h29, h30⟩ := HS.out.1; exact (cell_blk h0 30).trans h30
    clear hw HS
    cases ended
    all_goals (
      go_wp2_with fail
      refine HT.out.mono ?_
      rintro e w' ⟨rfl, rfl⟩
      clear HT
      go_wp2_with fail
      refine (same_any q1 (n 1) (E 1) w' (by omega) (HE.out.row 1 (by omega))).mono ?_
      rintro e wA ⟨rfl, m1, rfl⟩
      go_wp2_with fail
      refine (same_any q2 (n 2) (E 2) (w'.drewN m1) (by omega) (HE.out.row 2 (by omega))).mono ?_
      rintro e wA ⟨rfl, m2, rfl⟩
      go_wp2_with fail
      refine (HA.out.call 0 (by omega) (by omega) HX0.out (cap 0) (m1 + m2)).mono ?_
      rintro e wA ⟨rfl, m3, rfl⟩
      go_wp2_with fail
      refine (HA.out.call 1 (by omega) (by omega) HX1.out (cap 1) m3).mono ?_
      rintro e wA ⟨rfl, m4, rfl⟩
      go_wp2_with fail
      refine (HA.out.call 2 (by omega) (by omega) HX2.out (cap 2) m4).mono ?_
      rintro e wA ⟨rfl, m5, rfl⟩
      go_wp2_with fail
      go_ret
      exact ⟨rfl, below_drewN HA.out.bel _⟩)
end Go.Proofs.Ybulkfqjo
