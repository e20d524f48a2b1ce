import Derived.Test.YbulkfqakQBase
namespace Go.Proofs.Ybulkfqak
open Go.RowKit

theorem info21 : (Yba.prog.info? 21).map (fun i => (i.zero, i.size, i.bytes)) = some (some (.int .i32 0), 1, 4) := by kernel_rfl

/-- 'jumps' of a block: nil, or a row in new memory -/
def JRow (w : World) (B : Nat) (q : Option Addr) (n : Nat) (f : Nat → Nat) : Prop :=
  (q = none ∧ n = 0) ∨ ∃ g, q = some ⟨g, 0, none⟩ ∧ B ≤ g ∧ w.rowIs g 21 n (fun i => .int .i32 ((f i : Nat) : Int))

set_option maxRecDepth 100000 in
set_option maxHeartbeats 1000000 in
theorem jumps_any (p : Option Addr) (n cap nb : Nat) (g : Nat → Nat) (w : World) (hn : n ≤ 1048576) (h0 : 0 < nb) (hb : nb ≤ 65536) (h : KAt w p n g) :
    Calls Yba.prog 10 #[.slice p n cap, .int .i64 (nb : Int)] w fun e w' => ∃ q, e = .returned (.slice q n n) ∧ Hid (q.isNone = p.isNone ∧ JRow w' w.heap.size q n (fun i => g i % nb) ∧ Below w.heap.size w w') := by
  have hnil : ∀ w, (binOp .eql 28 (.slice p n cap) (.slice none 0 0)).run Yba.prog w = .ok (.bool p.isNone) w := fun w => Lib.run_eql_slice_nil w _ _ p n cap 0 0 Yba.underlying28
  have HK : Hid (KAt w p n g) := h
  cases p with
  | none =>
    obtain rfl : n = 0 := h.2.1 rfl
    clear h
    go_enter Yba.func10, Yba.ntmps10
    go_wp2_with fail
    go_ret
    exact ⟨none, rfl, rfl, Or.inl ⟨rfl, rfl⟩, Below.refl _ _⟩
  | some a =>
    clear h
    have hmk : ∀ w, (Instr.makeSlice 48 (.int .i64 (n : Int)) (.int .i64 (n : Int))).run Yba.prog w = .ok (.slice (some ⟨w.heap.size, 0, none⟩) n n) (w.alloc (.cells (madeCells #[.int .i32 0] n) 21)) := fun w => run_make_row' 48 21 (.int .i32 0) 4 Yba.underlying48 info21 rfl .i64 .i64 n (by omega) (by omega) w
    have H0 : Hid ((w.alloc (.cells (madeCells #[.int .i32 0] n) 21)).rowIs w.heap.size 21 n (fun i => .int .i32 (((if i < 0 then g i % nb else 0) : Nat) : Int)) ∧ Below w.heap.size w (w.alloc (.cells (madeCells #[.int .i32 0] n) 21))) :=
      ⟨(World.rowIs_made w (.int .i32 0) n 21).congr (fun i _ => by simp), (Below.refl _ _).alloc (Nat.le_refl _) _⟩
    go_enter Yba.func10, Yba.ntmps10
    go_upto_region 5 with fail
    go_loopw [15] (fun s15 wr => ∃ k : Nat, s15 = .int .i64 (k : Int) ∧ k ≤ n ∧ Hid (wr.rowIs w.heap.size 21 n (fun i => .int .i32 (((if i < k then g i % nb else 0) : Nat) : Int)) ∧ Below w.heap.size w wr)) (fun s15 _ => n - (intOf s15).toNat)
    case atStart => exact ⟨0, rfl, by omega, H0⟩
    case round =>
      obtain ⟨k, rfl, hk, hr⟩ := hrel
      by_cases hlt : k < n
      · obtain ⟨b, o, hpa, hbl, hc⟩ := HK.out.2.2 (by omega)
        obtain rfl : a = ⟨b, o, none⟩ := by injection hpa
        have e0 := (hr.out.2.cell (p := ⟨b, _, none⟩) hbl).trans (hc k hlt)
        have hg := HK.out.1 k
        have hlt' : (k : Int) < (n : Int) := by omega
        have hck := hr.out.1.cell hlt
        have hfk := hr.out.1.frozen k
        have hmod : ((g k : Nat) : Int) % (nb : Int) = ((g k % nb : Nat) : Int) := by simp
        have hml : g k % nb < nb := Nat.mod_lt _ h0
        have hwr : IntKind.i32.wrap (((g k : Nat) : Int) % (nb : Int)) = ((g k : Nat) : Int) % (nb : Int) := by
          rw [hmod, IntKind.wrap_i32]
          omega
        have HM : Hid (((g k : Nat) : Int) % (nb : Int) = ((g k % nb : Nat) : Int)) := hmod
        clear hmod
        have hnb : ((nb : Int) == 0) = false := beq_eq_false_iff_ne.2 (by omega)
        clear hc hpa
        go_wp2_with fail
        go_roundw
        case rel =>
          refine ⟨k + 1, by simp, by omega, (hr.out.1.set k _).congr ?_, hr.out.2.setCell (Nat.le_refl _) _⟩
          intro i hi
          by_cases e : i = k
          · subst e
            rw [if_pos rfl, if_pos (by omega)]
            rw [← HM.out]
          · rw [if_neg e]
            simp only [show (i < k + 1) ↔ (i < k) by omega]
        case measure => simp [intOf]; omega
      · obtain rfl : k = n := by omega
        have hlt' : ¬ (k : Int) < (k : Int) := by omega
        go_wp2_with fail
        go_ret
        refine ⟨some ⟨w.heap.size, 0, none⟩, rfl, rfl, Or.inr ⟨w.heap.size, rfl, Nat.le_refl _, hr.out.1.congr fun i hi => by rw [if_pos hi]⟩, hr.out.2⟩

/-- the depth behind 'c' instructions from 'k' on; false at one that cannot be followed -/
def runFrom (kd : Nat → Nat) : Nat → Nat → Int → Int × Bool
  | _, 0, d => (d, true)
  | k, c + 1, d => if kd k = 1 then runFrom kd (k + 1) c (d + 8) else if kd k = 2 then runFrom kd (k + 1) c (d - 8) else if kd k = 3 then (d, false) else runFrom kd (k + 1) c d

theorem runFrom_bound (kd : Nat → Nat) : ∀ (c k : Nat) (d : Int), d - 8 * (c : Int) ≤ (runFrom kd k c d).1 ∧ (runFrom kd k c d).1 ≤ d + 8 * (c : Int)
  | 0, k, d => by simp [runFrom]
  | c + 1, k, d => by
    unfold runFrom
    have h1 := runFrom_bound kd c (k + 1) (d + 8)
    have h2 := runFrom_bound kd c (k + 1) (d - 8)
    have h3 := runFrom_bound kd c (k + 1) d
    split
    · omega
    · split
      · omega
      · split
        · simp; omega
        · omega

set_option maxRecDepth 100000 in
set_option maxHeartbeats 1000000 in
theorem crun_any (b n lo hi : Nat) (kd : Nat → Nat) (d : Int) (w : World) (hr : w.rowIs b 3 n (fun i => .int .i64 ((kd i : Nat) : Int))) (hlo : lo ≤ hi) (hhi : hi ≤ n) (hn : n ≤ 1048576) (hd1 : -1000000000000 ≤ d) (hd2 : d ≤ 1000000000000) :
    Calls Yba.prog 12 #[.slice (some ⟨b, 0, none⟩) n n, .int .i64 (lo : Int), .int .i64 (hi : Int), .int .i64 d] w fun e w' =>
      e = .returned (.tuple #[.int .i64 (runFrom kd lo (hi - lo) d).1, .bool (runFrom kd lo (hi - lo) d).2]) ∧ w' = w := by
  have HR : Hid (w.rowIs b 3 n (fun i => .int .i64 ((kd i : Nat) : Int))) := hr
  clear hr
  obtain ⟨R, hR⟩ : ∃ R, R = runFrom kd lo (hi - lo) d := ⟨_, rfl⟩
  rw [← hR]
  have H : Hid (R = runFrom kd lo (hi - lo) d) := hR
  clear hR
  go_enter Yba.func12, Yba.ntmps12
  go_upto_region 2 with fail
  go_loop [3, 10] (fun s3 s10 => ∃ (k : Nat) (x : Int), s10 = .int .i64 (k : Int) ∧ s3 = .int .i64 x ∧ lo ≤ k ∧ k ≤ hi ∧ Hid (R = runFrom kd k (hi - k) x) ∧ d - 8 * ((k - lo : Nat) : Int) ≤ x ∧ x ≤ d + 8 * ((k - lo : Nat) : Int)) (fun _ s10 => hi - (intOf s10).toNat)
  case atStart => exact ⟨lo, d, rfl, rfl, by omega, by omega, H, by omega, by omega⟩
  case round =>
    obtain ⟨k, x, rfl, rfl, hk1, hk2, hx, hx1, hx2⟩ := hrel
    by_cases hlt : k < hi
    · have hck := HR.out.cell (i := k) (by omega)
      have hlt' : (k : Int) < (hi : Int) := by omega
      have hkn : (k : Int) < (n : Int) := by omega
      have hb1 : x + 8 ≤ 9223372036854775807 := by omega
      have hb2 : -9223372036854775808 ≤ x - 8 := by omega
      have hstep : Hid (hi - k = (hi - (k + 1)) + 1) := by show _ = _; omega
      have hx' : Hid (R = runFrom kd k (hi - (k + 1) + 1) x) := by rw [← hstep.out]; exact hx
      clear hx
      by_cases h1 : kd k = 1
      · rw [h1] at hck
        go_wp2_with fail
        go_round
        case rel => exact ⟨k + 1, x + 8, by simp, by go_num, by omega, by omega, by have := hx'.out; unfold runFrom at this; rw [if_pos h1] at this; exact this, by omega, by omega⟩
        case measure => simp [intOf]; omega
      · by_cases h2 : kd k = 2
        · rw [h2] at hck
          go_wp2_with fail
          go_round
          case rel => exact ⟨k + 1, x - 8, by simp, by go_num, by omega, by omega, by have := hx'.out; unfold runFrom at this; rw [if_neg h1, if_pos h2] at this; exact this, by omega, by omega⟩
          case measure => simp [intOf]; omega
        · by_cases h3 : kd k = 3
          · rw [h3] at hck
            have hfin : R = (x, false) := by have := hx'.out; unfold runFrom at this; rw [if_neg h1, if_neg h2, if_pos h3] at this; exact this
            subst hfin
            go_wp2_with fail
            exact bodyPost_ret (v := .tuple #[.int .i64 x, .bool false]) (by simp [results, Yba.results12, go_sem]) rfl ⟨rfl, rfl⟩
          · have e1 : (((kd k : Nat) : Int) == 1) = false := beq_eq_false_iff_ne.2 (by omega)
            have e2 : (((kd k : Nat) : Int) == 2) = false := beq_eq_false_iff_ne.2 (by omega)
            have e3 : (((kd k : Nat) : Int) == 3) = false := beq_eq_false_iff_ne.2 (by omega)
            have hfin : Hid (R = runFrom kd (k + 1) (hi - (k + 1)) x) := by have := hx'.out; unfold runFrom at this; rw [if_neg h1, if_neg h2, if_neg h3] at this; exact this
            generalize kd k = m at hck e1 e2 e3
            go_wp2_with fail
            go_round
            case rel => exact ⟨k + 1, x, by simp, rfl, by omega, by omega, hfin, by omega, by omega⟩
            case measure => simp [intOf]; omega
    · obtain rfl : k = hi := by omega
      have hlt' : ¬ (k : Int) < (k : Int) := by omega
      have hfin : R = (x, true) := by have := hx.out; simpa [runFrom] using this
      subst hfin
      go_wp2_with fail
      exact bodyPost_ret (v := .tuple #[.int .i64 x, .bool true]) (by simp [results, Yba.results12, go_sem]) rfl ⟨rfl, rfl⟩
end Go.Proofs.Ybulkfqak
