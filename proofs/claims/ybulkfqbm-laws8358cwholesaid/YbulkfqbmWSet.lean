import Derived.Test.YbulkfqbmWNat
namespace Go.Proofs.Ybulkfqbm
open Go.RowKit

def wAt (ws : List Int) (j : Nat) : Int := ws.getD j 0

/-- 'v' is a nat of the words 'ws', in a block from 'base' on -/
def NatIs (base : Nat) (w : World) (v : Value) (ws : List Int) : Prop :=
  ∃ (a : Option Addr) (cap : Nat), v = .slice a ws.length cap ∧ (0 < ws.length → ∃ b, a = some ⟨b, 0, none⟩ ∧ base ≤ b ∧ b < w.heap.size ∧ ∀ j, j < ws.length → w.cell? ⟨b, j, none⟩ = some (.int .u64 (wAt ws j)))

theorem wAt_map (g : Nat → Int) (m j : Nat) (h : j < m) : wAt ((List.range m).map g) j = g j := by
  unfold wAt; simp [List.getD, h]

theorem or_step (t : Nat) (x y : Int) (ht : t < 7) (hx0 : 0 ≤ x) (hx1 : x < 256 ^ t) (hy0 : 0 ≤ y) (hy1 : y ≤ 255) :
    bits .or .u64 x (IntKind.u64.wrap (y * 2 ^ (8 * t))) = x + y * 256 ^ t := by
  match t, ht with
  | 0, _ =>
    have e : x = 0 := by simp at hx1; omega
    subst e
    rw [show (y * 2 ^ (8 * 0) : Int) = y by simp, u64_wrap_id _ (by omega) (by omega)]
    exact (bits_join_low .u64 64 (by decide) wraps_u64 0 0 y (by omega) (by decide) (by omega) hy0 (by simp) (by omega)).trans (by simp)
  | 1, _ =>
    rw [show ((2 : Int) ^ (8 * 1)) = 256 by decide, show ((256 : Int) ^ 1) = 256 by decide] at *
    rw [u64_wrap_id _ (by omega) (by omega)]
    exact u64_or8 _ _ hx0 (by omega) (by omega) (by omega) (by omega)
  | 2, _ =>
    rw [show ((2 : Int) ^ (8 * 2)) = 65536 by decide, show ((256 : Int) ^ 2) = 65536 by decide] at *
    rw [u64_wrap_id _ (by omega) (by omega)]
    exact u64_or16 _ _ hx0 (by omega) (by omega) (by omega) (by omega)
  | 3, _ =>
    rw [show ((2 : Int) ^ (8 * 3)) = 16777216 by decide, show ((256 : Int) ^ 3) = 16777216 by decide] at *
    rw [u64_wrap_id _ (by omega) (by omega)]
    exact u64_or24 _ _ hx0 (by omega) (by omega) (by omega) (by omega)
  | 4, _ =>
    rw [show ((2 : Int) ^ (8 * 4)) = 4294967296 by decide, show ((256 : Int) ^ 4) = 4294967296 by decide] at *
    rw [u64_wrap_id _ (by omega) (by omega)]
    exact u64_or32 _ _ hx0 (by omega) (by omega) (by omega) (by omega)
  | 5, _ =>
    rw [show ((2 : Int) ^ (8 * 5)) = 1099511627776 by decide, show ((256 : Int) ^ 5) = 1099511627776 by decide] at *
    rw [u64_wrap_id _ (by omega) (by omega)]
    exact u64_or40 _ _ hx0 (by omega) (by omega) (by omega) (by omega)
  | 6, _ =>
    rw [show ((2 : Int) ^ (8 * 6)) = 281474976710656 by decide, show ((256 : Int) ^ 6) = 281474976710656 by decide] at *
    rw [u64_wrap_id _ (by omega) (by omega)]
    exact u64_or48 _ _ hx0 (by omega) (by omega) (by omega) (by omega)

theorem tail_step (t : Nat) (x y : Int) (hx0 : 0 ≤ x) (hx1 : x < 256 ^ t) (hy0 : 0 ≤ y) (hy1 : y ≤ 255) :
    0 ≤ x + y * 256 ^ t ∧ x + y * 256 ^ t < 256 ^ (t + 1) ∧ (x + y * 256 ^ t = 0 ↔ x = 0 ∧ y = 0) := by
  have hp : (0 : Int) < 256 ^ t := Int.pow_pos (by decide)
  rw [Int.pow_succ]
  generalize (256 : Int) ^ t = p at *
  have h1 : 0 ≤ y * p := Int.mul_nonneg hy0 (by omega)
  have h2 : y * p ≤ 255 * p := Int.mul_le_mul_of_nonneg_right hy1 (by omega)
  refine ⟨by omega, ?_, ⟨fun e => ⟨by omega, ?_⟩, fun ⟨e1, e2⟩ => by rw [e1, e2]; simp⟩⟩
  · omega
  · have h3 : y * p = 0 := by omega
    rcases Int.mul_eq_zero.1 h3 with h | h
    · exact h
    · omega

/-- 'g' with 'x' at 'q' -/
def upd (g : Nat → Int) (q : Nat) (x : Int) (j : Nat) : Int := if j = q then x else g j
theorem upd_same (g : Nat → Int) (q : Nat) (x : Int) : upd g q x q = x := if_pos rfl
theorem upd_other (g : Nat → Int) {q j : Nat} (x : Int) (h : j ≠ q) : upd g q x j = g j := if_neg h

/-- all bytes are 0 just where all whole words and the rest are -/
theorem groups (bs : List Int) (r q : Nat) (g : Nat → Int) (h : r + 8 * q = bs.length) (hg : ∀ j, j < q → (g j = 0 ↔ ∀ t, t < 8 → byteAt bs (bs.length - 8 * (j + 1) + t) = 0)) :
    (∀ i, i < bs.length → byteAt bs i = 0) ↔ (∀ j, j < q → g j = 0) ∧ ∀ i, i < r → byteAt bs i = 0 := by
  constructor
  · intro hz
    exact ⟨fun j hj => (hg j hj).2 fun t ht => hz _ (by omega), fun i hi => hz i (by omega)⟩
  · rintro ⟨h1, h2⟩ i hi
    by_cases hir : i < r
    · exact h2 i hir
    · have hj : (bs.length - 1 - i) / 8 < q := by omega
      have := (hg _ hj).1 (h1 _ hj) (i - (bs.length - 8 * ((bs.length - 1 - i) / 8 + 1))) (by omega)
      rwa [show bs.length - 8 * ((bs.length - 1 - i) / 8 + 1) + (i - (bs.length - 8 * ((bs.length - 1 - i) / 8 + 1))) = i from by omega] at this

theorem norm_zero {m n : Nat} {g : Nat → Int} (hm : m ≤ n) (hz : ∀ j, m ≤ j → j < n → g j = 0) (hl : m = 0 ∨ g (m - 1) ≠ 0) : (List.range m).map g = [] ↔ ∀ j, j < n → g j = 0 := by
  rw [List.map_eq_nil_iff, List.range_eq_nil]
  constructor
  · intro e j hj
    exact hz j (by omega) hj
  · intro h
    rcases hl with e | e
    · exact e
    · by_cases h0 : m = 0
      · exact h0
      · exact absurd (h (m - 1) (by omega)) e

theorem natIs_row {base B m cap zc : Nat} {g : Nat → Int} {w : World} (hrow : w.rowIs B 50 zc (fun j => .int .u64 (g j))) (hb : base ≤ B) (hm : m ≤ zc) : NatIs base w (.slice (some ⟨B, 0, none⟩) m cap) ((List.range m).map g) := by
  refine ⟨some ⟨B, 0, none⟩, cap, by simp, fun _ => ⟨B, rfl, hb, hrow.lt, fun j hj => ?_⟩⟩
  have hj' : j < m := by simpa using hj
  rw [wAt_map g m j hj']
  exact hrow.cell (by omega)

theorem bel_drewN {B k : Nat} {w w' : World} (h : Below B w w') : Below B w (w'.drewN k) := ⟨h.os, h.tape, h.output, h.size, h.block⟩

set_option maxHeartbeats 400000 in
theorem setBytes_nil (a : Option Addr) (cap : Nat) (w : World) : Calls Yba.prog 19 #[.slice none 0 0, .slice a 0 cap] w fun e w' => e = .returned (.slice none 0 0) ∧ w' = w := by
  go_enter Yba.func19, Yba.ntmps19
  go_wp2_with (go_at_call 26; refine (nmake_zero _).mono ?_; rintro e w' ⟨rfl, rfl⟩)
  refine wp_loop_rounds 1 ?_
  rw [rounds_succ]
  go_wp2_with (go_at_call 28; refine (norm_nil _).mono ?_; rintro e w' ⟨rfl, rfl⟩)
  go_ret
  exact ⟨rfl, rfl⟩

set_option maxRecDepth 100000 in
set_option maxHeartbeats 1000000 in
theorem setBytes_any (b off cap : Nat) (bs : List Int) (w : World) (hl : bs.length ≤ 1048576) (h0 : 0 < bs.length) (hcap : bs.length ≤ cap) (hr : ∀ j, 0 ≤ byteAt bs j ∧ byteAt bs j ≤ 255)
    (hb : b < w.heap.size) (hc : ∀ j, j < bs.length → w.cell? ⟨b, off + j, none⟩ = some (.int .u8 (byteAt bs j))) :
    Calls Yba.prog 19 #[.slice none 0 0, .slice (some ⟨b, off, none⟩) bs.length cap] w fun e w' => ∃ u ws, e = .returned u ∧ NatIs w.heap.size w' u ws ∧ (ws = [] ↔ ∀ j, j < bs.length → byteAt bs j = 0) ∧ ws.length ≤ 200000 ∧ Below w.heap.size w w' := by
  have HC : Hid (∀ j, j < bs.length → w.cell? ⟨b, off + j, none⟩ = some (.int .u8 (byteAt bs j))) := hc
  have HR : Hid (∀ j, 0 ≤ byteAt bs j ∧ byteAt bs j ≤ 255) := hr
  clear hc hr
  go_enter Yba.func19, Yba.ntmps19
  go_wp2_with fail
  rw [show ((bs.length : Int) + 8 - 1) / 8 = (((bs.length + 7) / 8 : Nat) : Int) from by omega]
  obtain ⟨n, hn, hn1, hn2⟩ : ∃ n, (bs.length + 7) / 8 = n ∧ bs.length ≤ 8 * n ∧ 8 * n ≤ bs.length + 7 := ⟨_, rfl, by omega, by omega⟩
  rw [hn]
  clear hn
  refine (nmake_any n (by omega) (by omega) _).mono ?_
  rintro e w1 ⟨zc, hzc, rfl, hrow, hbl, hsz⟩
  have HRow : Hid (w1.rowIs w.heap.size 50 zc (fun _ => .int .u64 0)) := hrow
  have HBl : Hid (Below w.heap.size w w1) := hbl
  clear hrow hbl
  go_wp2_with fail
  go_loopw [5, 6] (fun i k wr => ∃ r q : Nat, r + 8 * q = bs.length ∧ i = .int .i64 r ∧ k = .int .i64 q ∧ ∃ g : Nat → Int, Hid (wr.rowIs w.heap.size 50 zc (fun j => .int .u64 (g j))) ∧
      Hid (∀ j, j < q → (g j = 0 ↔ ∀ t, t < 8 → byteAt bs (bs.length - 8 * (j + 1) + t) = 0)) ∧ Hid (∀ j, q ≤ j → g j = 0) ∧ Hid (Below w.heap.size w wr) ∧ Hid (wr.heap.size = w.heap.size + 1)) (fun i _ _ => (intOf i).toNat)
  case atStart => exact ⟨bs.length, 0, by omega, rfl, rfl, fun _ => 0, HRow, fun j h => by omega, fun j _ => rfl, HBl, hsz⟩
  case round =>
    obtain ⟨r, q, hrq, rfl, rfl, g, hrow, hg1, hg2, hbl, hsz1⟩ := hrel
    have HRQ : Hid (r + 8 * q = bs.length) := hrq
    by_cases h8 : 8 ≤ r
    · obtain ⟨r', rfl⟩ : ∃ r', r = r' + 8 := ⟨r - 8, by omega⟩
      have hq1 : r' + 8 * q + 8 = bs.length := by omega
      have hcs : Hid (∀ j, j < 8 → wr.cell? ⟨b, off + r' + j, none⟩ = some (.int .u8 (byteAt bs (r' + j)))) := fun j hj => by
        have := HC.out (r' + j) (by omega)
        rw [Nat.add_assoc]
        exact (Below.cell hbl (p := ⟨b, off + (r' + j), none⟩) hb).trans this
      have HW : Hid _ := fun c => word_any b (off + r') c (fun j => byteAt bs (r' + j)) wr (fun j => HR.out _) hcs
      have hqn : q < n := by omega
      have hqz : q < zc := by omega
      have hrb : r' + 8 ≤ bs.length := by omega
      clear hrq hq1
      rw [show ((r' + 8 : Nat) : Int) = (r' : Int) + 8 from by omega]
      go_wp2_with fail
      refine (HW.out _).mono ?_
      rintro e w2 ⟨x, rfl, hx, kk, rfl⟩
      have HX : Hid _ := hx
      clear hx
      have hcq := World.rowIs.cell hrow hqz
      have hfq := World.rowIs.frozen hrow q
      go_wp2_with fail
      go_roundw
      case rel =>
        refine ⟨r', q + 1, by have := HRQ.out; omega, by go_num, by go_num, upd g q x, ?_, ?_, ?_, ?_, ?_⟩
        · exact (World.rowIs.set hrow q (.int .u64 x)).congr (fun j _ => by by_cases e : j = q <;> simp [upd, e])
        · intro j hj
          by_cases e : j = q
          · subst e
            have e2 : bs.length - 8 * (j + 1) = r' := by have := HRQ.out; omega
            rw [upd_same, e2]
            exact HX
          · rw [upd_other _ _ e]
            exact hg1.out j (by omega)
        · intro j hj
          rw [upd_other _ _ (by omega)]
          exact hg2.out j (by omega)
        · exact bel_drewN (Below.setCell hbl (Nat.le_refl _) _)
        · exact (World.size_setCell _ _ _).trans hsz1
      case measure => simp [intOf]; omega
    · have hr8 : r < 8 := by omega
      clear h8
      by_cases hr0 : r = 0
      · subst hr0
        have hqn : q = n := by omega
        subst hqn
        go_wp2_with fail
        refine (norm_any w.heap.size q zc g wr (by omega) hzc (fun j hj => World.rowIs.cell hrow (by omega))).mono ?_
        rintro e w2 ⟨m, hm, rfl, hz, hlast, rfl⟩
        have HZ : Hid _ := hz
        have HLast : Hid _ := hlast
        clear hz hlast
        go_wp2_with fail
        go_ret
        exact ⟨_, (List.range m).map g, rfl, natIs_row hrow.out (Nat.le_refl _) (by omega), (norm_zero hm HZ.out HLast.out).trans ⟨fun h => (groups bs 0 q g HRQ.out hg1.out).2 ⟨h, fun i hi => by omega⟩, fun h => ((groups bs 0 q g HRQ.out hg1.out).1 h).1⟩, by simp; omega, hbl⟩
      · have hqn : n = q + 1 := by omega
        subst hqn
        have HCb : Hid (∀ j, j < r → wr.cell? ⟨b, off + j, none⟩ = some (.int .u8 (byteAt bs j))) := fun j hj =>
          (Below.cell hbl (p := ⟨b, off + j, none⟩) hb).trans (HC.out j (by omega))
        have hrb : r ≤ bs.length := by omega
        go_wp2_with fail
        go_loop [5, 7, 8] (fun i d s => ∃ t : Nat, ∃ x : Int, t ≤ r ∧ i = .int .i64 ((r : Int) - t) ∧ s = .int .u64 (8 * (t : Int)) ∧ d = .int .u64 x ∧ 0 ≤ x ∧ Hid (x < 256 ^ t) ∧ Hid (x = 0 ↔ ∀ j, r - t ≤ j → j < r → byteAt bs j = 0)) (fun i _ _ => (intOf i).toNat)
        case atStart => exact ⟨0, 0, by omega, by go_num, rfl, rfl, by omega, (by decide : (0 : Int) < 256 ^ 0), ⟨fun _ j h1 h2 => by omega, fun _ => rfl⟩⟩
        case round =>
          obtain ⟨t, x, ht, rfl, rfl, rfl, hx0, hx1, hx2⟩ := hrel
          by_cases htr : t < r
          · have hcb := HCb.out (r - 1 - t) (by omega)
            have hbb := HR.out (r - 1 - t)
            have HT : Hid _ := tail_step t x (byteAt bs (r - 1 - t)) hx0 hx1 hbb.1 hbb.2
            have HO : Hid _ := or_step t x (byteAt bs (r - 1 - t)) (by omega) hx0 hx1 hbb.1 hbb.2
            obtain ⟨y0, y1⟩ := hbb
            have e1 : ((r : Int) - t - 1).toNat = r - 1 - t := by omega
            go_wp2_with fail
            go_round
            case rel =>
              refine ⟨t + 1, x + byteAt bs (r - 1 - t) * 256 ^ t, by omega, by go_num, by go_num, by rw [HO.out], HT.out.1, HT.out.2.1, HT.out.2.2.trans ⟨fun ⟨ha, hb⟩ j h1 h2 => ?_, fun h => ⟨hx2.out.2 fun j h1 h2 => h j (by omega) h2, h (r - 1 - t) (by omega) (by omega)⟩⟩⟩
              by_cases e : j = r - 1 - t
              · rw [e]; exact hb
              · exact hx2.out.1 ha j (by omega) h2
            case measure => simp [intOf]; omega
          · have htr' : t = r := by omega
            subst htr'
            have hcq := World.rowIs.cell hrow (show q < zc by omega)
            have hfq := World.rowIs.frozen hrow q
            have e1 : ((q : Int) + 1 - 1).toNat = q := by omega
            have hrow' : Hid (World.rowIs (wr.setCell ⟨w.heap.size, q, none⟩ (.int .u64 x)) w.heap.size 50 zc (fun j => .int .u64 (upd g q x j))) :=
              (World.rowIs.set hrow q (.int .u64 x)).congr (fun j _ => by by_cases e : j = q <;> simp [upd, e])
            go_wp2_with fail
            refine (norm_any w.heap.size (q + 1) zc (upd g q x) _ (by omega) hzc (fun j hj => World.rowIs.cell hrow' (by omega))).mono ?_
            rintro e w2 ⟨m, hm, rfl, hz, hlast, hw2⟩
            have HW2 : Hid _ := hw2
            have HZ : Hid _ := hz
            have HLast : Hid _ := hlast
            clear hz hlast hw2
            go_wp2_with fail
            go_ret
            have hbl2 : Below w.heap.size w w2 := by rw [HW2.out]; exact Below.setCell hbl (Nat.le_refl _) _
            have hrow2 : World.rowIs w2 w.heap.size 50 zc (fun j => .int .u64 (upd g q x j)) := by rw [HW2.out]; exact hrow'
            refine ⟨_, (List.range m).map (upd g q x), rfl, natIs_row hrow2 (Nat.le_refl _) (by omega), (norm_zero hm HZ.out HLast.out).trans ⟨fun h => ?_, fun h j hj => ?_⟩, by simp; omega, hbl2⟩
            · refine (groups bs t q g HRQ.out hg1.out).2 ⟨fun j hj => ?_, fun i hi => ?_⟩
              · rw [← upd_other g x (show j ≠ q by omega)]; exact h j (by omega)
              · exact hx2.out.1 (by rw [← upd_same g q x]; exact h q (by omega)) i (by omega) hi
            · obtain ⟨h1, h2⟩ := (groups bs t q g HRQ.out hg1.out).1 h
              by_cases e : j = q
              · rw [e, upd_same]; exact hx2.out.2 fun i _ hi => h2 i hi
              · rw [upd_other g x e]; exact h1 j (by omega)
end Go.Proofs.Ybulkfqbm
