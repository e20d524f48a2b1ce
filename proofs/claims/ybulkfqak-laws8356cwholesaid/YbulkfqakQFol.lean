import Derived.Test.YbulkfqakQStep
namespace Go.Proofs.Ybulkfqak
open Go.RowKit

/-- what 'steps' reads: the boxes that it has caught, block i's first instruction and its end -/
structure Env (w : World) (b7 b4 b5 b3 F I O C K nb N i lo hi : Nat) : Prop where
  c7 : w.cell? ⟨b7, 0, none⟩ = some (.slice (some ⟨F, 0, none⟩) nb nb)
  c4 : w.cell? ⟨b4, 0, none⟩ = some (.slice (some ⟨I, 0, none⟩) N N)
  c5 : w.cell? ⟨b5, 0, none⟩ = some (.slice (some ⟨O, 0, none⟩) N N)
  c3 : w.cell? ⟨b3, 0, none⟩ = some (.pointer (some ⟨C, 0, none⟩))
  cF : w.cell? ⟨F, i, none⟩ = some (.int .i64 (lo : Int))
  cO : ∀ k, k < N → w.cell? ⟨O, k, none⟩ = some (.int .u32 ((3 * k : Nat) : Int))
  cC : w.cell? ⟨C, 2, none⟩ = some (.slice (some ⟨K, 0, none⟩) nb nb)
  cK : w.cell? ⟨K, i * 11 + 1, none⟩ = some (.int .u32 ((3 * hi : Nat) : Int))

/-- what 'steps' leaves: it has gone to the end, or an instruction has stopped it -/
def StepsPost (J Jx : Nat → World → Prop) (lo hi : Nat) (e : Ending) (w' : World) : Prop :=
  ∃ r, e = .returned (.bool r) ∧ Hid ((r = true ∧ J hi w') ∨ (r = false ∧ ∃ k, lo ≤ k ∧ k < hi ∧ Jx k w'))

set_option maxRecDepth 100000 in
set_option maxHeartbeats 4000000 in
theorem steps_any (b7 b4 b5 b3 F I O C K nb N i lo hi S : Nat) (rec : Value) (J Jx : Nat → World → Prop) (hi0 : i < nb) (hlh : lo ≤ hi) (hhN : hi ≤ N) (hN : N ≤ 65536)
    (hread : ∀ k w, J k w → Env w b7 b4 b5 b3 F I O C K nb N i lo hi) (hdraw : ∀ k w m, J k w → J k (w.drewN m))
    (hstep : ∀ k w, lo ≤ k → k < hi → J k w → Calls Yba.prog 16 #[.pointer (some ⟨S, 0, none⟩), .pointer (some ⟨I, k * 26, none⟩), .int .u32 ((3 * k : Nat) : Int), rec] w fun e w' => ∃ r, e = .returned (.bool r) ∧ Hid ((r = true ∧ J (k + 1) w') ∨ (r = false ∧ Jx k w')))
    (w : World) (h0 : J lo w) :
    Calls Yba.prog 15 #[.int .i64 (i : Int), .pointer (some ⟨S, 0, none⟩), rec, .pointer (some ⟨b7, 0, none⟩), .pointer (some ⟨b4, 0, none⟩), .pointer (some ⟨b5, 0, none⟩), .pointer (some ⟨b3, 0, none⟩)] w (StepsPost J Jx lo hi) := by
  have HR : Hid (∀ k w, J k w → Env w b7 b4 b5 b3 F I O C K nb N i lo hi) := hread
  have HD : Hid (∀ k w m, J k w → J k (w.drewN m)) := hdraw
  have HS : Hid (∀ k w, lo ≤ k → k < hi → J k w → Calls Yba.prog 16 #[.pointer (some ⟨S, 0, none⟩), .pointer (some ⟨I, k * 26, none⟩), .int .u32 ((3 * k : Nat) : Int), rec] w fun e w' => ∃ r, e = .returned (.bool r) ∧ Hid ((r = true ∧ J (k + 1) w') ∨ (r = false ∧ Jx k w'))) := hstep
  have H0 : Hid (J lo w) := h0
  clear hread hdraw hstep h0
  obtain ⟨c7, c4, c5, c3, cF, cO, cC, cK⟩ := HR.out lo w H0.out
  have hii : (i : Int) < (nb : Int) := by omega
  go_enter Yba.func15, Yba.ntmps15
  go_upto_region 2 with fail
  clear c7 c4 c5 c3 cF cO cC cK
  go_loopw [11] (fun s11 wr => ∃ k : Nat, s11 = .int .i64 (k : Int) ∧ lo ≤ k ∧ k ≤ hi ∧ Hid (J k wr)) (fun s11 _ => hi - (intOf s11).toNat)
  case atStart => exact ⟨lo, rfl, by omega, by omega, H0⟩
  case round =>
    obtain ⟨k, rfl, hk1, hk2, hJ⟩ := hrel
    obtain ⟨c7, c4, c5, c3, cF, cO, cC, cK⟩ := HR.out k wr hJ.out
    by_cases hlt : k < hi
    · have hkN : (k : Int) < (N : Int) := by omega
      have cOk := cO k (by omega)
      have hd : decide (((3 * k : Nat) : Int) < ((3 * hi : Nat) : Int)) = true := decide_eq_true (by omega)
      have hkh : (3 : Int) * (k : Int) < 3 * (hi : Int) := by omega
      clear cO
      go_upto_region 2 with fail
      go_quiet (fail)
      go_upto_region 4 with fail
      go_cut [47] (fun s47 wx => ∃ r, s47 = .bool (!r) ∧ Hid ((r = true ∧ J (k + 1) wx) ∨ (r = false ∧ Jx k wx)))
      case first =>
        go_region_with (go_at_call 16; refine (HS.out k _ hk1 hlt (HD.out k _ 1 (HD.out k _ nq hJ.out))).mono ?_; rintro e w1 ⟨r, rfl, hp⟩)
        all_goals go_wp2_with fail
        all_goals go_meet
        all_goals exact ⟨r, rfl, hp⟩
      case rest =>
        obtain ⟨r, rfl, hp⟩ := hcut
        cases r with
        | true =>
          go_wp2_with fail
          go_roundw
          case rel => exact ⟨k + 1, by simp, by omega, by omega, by rcases hp.out with ⟨_, h⟩ | ⟨h, _⟩; exact h; cases h⟩
          case measure => simp [intOf]; omega
        | false =>
          go_wp2_with fail
          go_ret
          exact ⟨false, rfl, Or.inr ⟨rfl, k, hk1, hlt, by rcases hp.out with ⟨h, _⟩ | ⟨_, h⟩; cases h; exact h⟩⟩
    · obtain rfl : k = hi := by omega
      by_cases hN' : k < N
      · have hkN : (k : Int) < (N : Int) := by omega
        have cOk := cO k (by omega)
        clear cO
        go_upto_region 2 with fail
        go_quiet (fail)
        go_wp2_with fail
        go_ret
        exact ⟨true, rfl, Or.inl ⟨rfl, HD.out k _ nq hJ.out⟩⟩
      · have hkN : ¬ (k : Int) < (N : Int) := by omega
        clear cO
        go_upto_region 2 with fail
        go_quiet (fail)
        go_wp2_with fail
        go_ret
        exact ⟨true, rfl, Or.inl ⟨rfl, HD.out k _ nq hJ.out⟩⟩
end Go.Proofs.Ybulkfqak
