import Derived.Test.YbulkfqjoCSettle
namespace Go.Proofs.Ybulkfqjo
open Go.RowKit

/-- the drawn ends that came in -/
def XAt (w : World) (p : Option Addr) (n : Nat) (c l : Nat → Bool) (x : Nat → Nat) : Prop :=
  (∀ i, x i < 256) ∧ (p = none → n = 0) ∧ (0 < n → ∃ b o, p = some ⟨b, o, none⟩ ∧ b < w.heap.size ∧ ∀ i, i < n →
    w.cell? ⟨b, o + i * 3, none⟩ = some (.bool (c i)) ∧ w.cell? ⟨b, o + i * 3 + 1, none⟩ = some (.int .u8 ((x i : Nat) : Int)) ∧ w.cell? ⟨b, o + i * 3 + 2, none⟩ = some (.bool (l i)))

theorem XAt.below {w w' : World} {p : Option Addr} {n : Nat} {c l : Nat → Bool} {x : Nat → Nat} {B : Nat} (h : XAt w p n c l x) (hB : B = w.heap.size) (k : Below B w w') : XAt w' p n c l x := by
  refine ⟨h.1, h.2.1, fun hn => ?_⟩
  subst hB
  obtain ⟨b, o, hp, hb, hc⟩ := h.2.2 hn
  refine ⟨b, o, hp, Nat.lt_of_lt_of_le hb k.size, fun i hi => ?_⟩
  rw [k.cell (p := ⟨b, _, none⟩) hb, k.cell (p := ⟨b, _, none⟩) hb, k.cell (p := ⟨b, _, none⟩) hb]
  exact hc i hi

theorem info28r : (Yba.prog.info? 28).map (fun i => (i.zero, i.size, i.bytes)) = some (some (.pointer none), 1, 8) := info28
theorem info99 : (Yba.prog.info? 99).map (fun i => (i.zero.isSome, decide (i.bytes ≤ 4096))) = some (true, true) := by kernel_rfl
theorem info99' : ∃ i z, Yba.prog.info? 99 = some i ∧ i.zero = some z ∧ i.bytes ≤ 4096 := by
  obtain ⟨i, hi, hz⟩ := Option.map_eq_some_iff.1 info99
  simp only [Prod.mk.injEq, decide_eq_true_eq] at hz
  obtain ⟨z, hz'⟩ := Option.isSome_iff_exists.1 hz.1
  exact ⟨i, z, hi, hz', hz.2⟩

/-- what stands in the loop of 'make' behind k rounds -/
structure MK (w0 : World) (n : Nat) (c : Nat → Bool) (x : Nat → Nat) (E : Nat → Nat) (I : Nat → Value) (k : Nat) (w : World) : Prop where
  row : w.rowIs w0.heap.size 28 n (fun i => if i < k then .pointer (some ⟨E i, 0, none⟩) else .pointer none)
  ends : ∀ i, i < k → EndAt w (E i) (c i) (I i)
  box : ∀ i, i < k → ∃ a, I i = .slice a (x i % 4) (x i % 4)
  ge : ∀ i, i < k → w0.heap.size < E i
  inj : ∀ i j, i < k → j < k → E i = E j → i = j
  bel : Below w0.heap.size w0 w

theorem alloc_at (w : World) (o : Obj) (b : Nat) (h : b = w.heap.size) : (w.alloc o).heap[b]? = some o := by subst h; exact heap_alloc_new _ _

theorem MK.step {w0 : World} {n : Nat} {c : Nat → Bool} {x : Nat → Nat} {E : Nat → Nat} {I : Nat → Value} {k : Nat} {w W : World} {v : Value} (hk : k < n) (h : MK w0 n c x E I k w)
    (hb : Below w.heap.size (w.setCell ⟨w0.heap.size, k, none⟩ (.pointer (some ⟨w.heap.size, 0, none⟩))) W) (he : EndAt W w.heap.size (c k) v) (hv : ∃ a, v = .slice a (x k % 4) (x k % 4)) :
    MK w0 n c x (fun i => if i = k then w.heap.size else E i) (fun i => if i = k then v else I i) (k + 1) W := by
  have hsz : (w.setCell ⟨w0.heap.size, k, none⟩ (.pointer (some ⟨w.heap.size, 0, none⟩))).heap.size = w.heap.size := by simp
  have kk : Chg (fun j => j = w0.heap.size) w (w.setCell ⟨w0.heap.size, k, none⟩ (.pointer (some ⟨w.heap.size, 0, none⟩))) := chg_set (S := fun j => j = w0.heap.size) (Chg.refl _ _) (a := ⟨w0.heap.size, k, none⟩) rfl _
  have hlt : w0.heap.size < w.heap.size := h.row.lt
  have r1 := h.row.set k (.pointer (some ⟨w.heap.size, 0, none⟩))
  have bel : Below w0.heap.size w0 (w.setCell ⟨w0.heap.size, k, none⟩ (.pointer (some ⟨w.heap.size, 0, none⟩))) := h.bel.setCell (Nat.le_refl _) _
  generalize w.setCell ⟨w0.heap.size, k, none⟩ (.pointer (some ⟨w.heap.size, 0, none⟩)) = w1 at hb hsz kk r1 bel
  rw [← hsz] at hb
  have kc : Chg (fun _ => False) w1 W := Below.chg hb
  refine ⟨?_, ?_, ?_, ?_, ?_, ?_⟩
  · refine (kc.row r1 id).congr fun i hi => ?_
    by_cases e : i = k
    · subst e; simp
    · simp only [if_neg e, show (i < k + 1) ↔ (i < k) by omega]
  · intro i hi
    by_cases e : i = k
    · subst e
      simpa using he
    · simp only [if_neg e]
      have hi' : i < k := by omega
      have := h.ge i hi'
      exact kc.end (kk.end (h.ends i hi') (by omega)) id
  · intro i hi
    by_cases e : i = k
    · subst e; simpa using hv
    · simp only [if_neg e]; exact h.box i (by omega)
  · intro i hi
    by_cases e : i = k
    · subst e; simpa using hlt
    · simp only [if_neg e]; exact h.ge i (by omega)
  · intro i j hi hj
    by_cases ei : i = k <;> by_cases ej : j = k
    · intro _; omega
    · subst ei
      have := (h.ends j (by omega)).lt
      simp only [ite_true, if_neg ej]
      intro e; omega
    · subst ej
      have := (h.ends i (by omega)).lt
      simp only [ite_true, if_neg ei]
      intro e; omega
    · simp only [if_neg ei, if_neg ej]
      exact h.inj i j (by omega) (by omega)
  · exact bel.trans ⟨hb.os, hb.tape, hb.output, hb.size, fun j hj => hb.block j (by omega)⟩

/-- what 'make' leaves -/
structure Made (w : World) (p : Option Addr) (n : Nat) (c : Nat → Bool) (x : Nat → Nat) (q : Option Addr) (E : Nat → Nat) (I : Nat → Value) (w' : World) : Prop where
  nil : q.isNone = p.isNone
  row : PRow w' 28 q n E
  ends : ∀ i, i < n → EndAt w' (E i) (c i) (I i)
  box : ∀ i, i < n → ∃ a, I i = .slice a (x i % 4) (x i % 4)
  ge : ∀ i, i < n → w.heap.size ≤ E i
  inj : ∀ i j, i < n → j < n → E i = E j → i = j
  bel : Below w.heap.size w w'

def MadeV (w : World) (p : Option Addr) (n : Nat) (c : Nat → Bool) (x : Nat → Nat) (v : Value) (w' : World) : Prop := ∃ q E I, v = .slice q n n ∧ Made w p n c x q E I w'

set_option maxRecDepth 100000 in
set_option maxHeartbeats 1600000 in
theorem make_any (p : Option Addr) (n cap : Nat) (c l : Nat → Bool) (x : Nat → Nat) (w : World) (hn : n ≤ 1048576) (hx : XAt w p n c l x) :
    Calls Yba.prog 4 #[.slice p n cap] w fun e w' => ∃ v, e = .returned v ∧ MadeV w p n c x v w' := by
  have HX : Hid (XAt w p n c l x) := hx
  have hnil : ∀ w, (binOp .eql 22 (.slice p n cap) (.slice none 0 0)).run Yba.prog w = .ok (.bool p.isNone) w := fun w => Lib.run_eql_slice_nil w _ _ p n cap 0 0 Yba.underlying22
  cases hp : p with
  | none =>
    subst hp
    obtain rfl : n = 0 := hx.2.1 rfl
    clear hx
    go_enter Yba.func4, Yba.ntmps4
    go_wp2_with fail
    go_ret
    exact ⟨_, rfl, none, fun _ => 0, fun _ => .slice none 0 0, rfl, rfl, Or.inl ⟨rfl, rfl⟩, fun i hi => by omega, fun i hi => by omega, fun i hi => by omega, fun i j hi => by omega, Below.refl _ _⟩
  | some a =>
    subst hp
    have hmk : ∀ w, (Instr.makeSlice 23 (.int .i64 (n : Int)) (.int .i64 (n : Int))).run Yba.prog w = .ok (.slice (some ⟨w.heap.size, 0, none⟩) n n) (w.alloc (.cells (madeCells #[.pointer none] n) 28)) := fun w => run_make_row' 23 28 (.pointer none) 8 Yba.underlying23 info28 rfl .i64 .i64 n (by omega) (by omega) w
    have H0 : Hid (MK w n c x (fun _ => 0) (fun _ => .slice none 0 0) 0 (w.alloc (.cells (madeCells #[.pointer none] n) 28))) :=
      ⟨(World.rowIs_made w (.pointer none) n 28).congr (fun i _ => by simp), fun i hi => by omega, fun i hi => by omega, fun i hi => by omega, fun i j hi => by omega, (Below.refl _ _).alloc (Nat.le_refl _) _⟩
    obtain ⟨i9, z9, hi9, hz9, hb9⟩ := info99'
    clear hx
    go_enter Yba.func4, Yba.ntmps4
    go_upto_region 5 with fail
    go_loopw [4] (fun s4 wr => ∃ k : Nat, s4 = .int .i64 (k : Int) ∧ k ≤ n ∧ ∃ E I, Hid (MK w n c x E I k wr)) (fun s4 _ => n - (intOf s4).toNat)
    case atStart => exact ⟨0, rfl, by omega, _, _, H0⟩
    case round =>
      obtain ⟨k, rfl, hk, E, I, hr⟩ := hrel
      by_cases hlt : k < n
      · obtain ⟨b, o, hpa, hb, hc⟩ := HX.out.2.2 (by omega)
        obtain rfl : a = ⟨b, o, none⟩ := by injection hpa
        have e0 := (hr.out.bel.cell (p := ⟨b, _, none⟩) hb).trans (hc k hlt).1
        have e1 := (hr.out.bel.cell (p := ⟨b, _, none⟩) hb).trans (hc k hlt).2.1
        have hx256 := HX.out.1 k
        have hlt' : (k : Int) < (n : Int) := by omega
        have hbr : b < wr.heap.size := Nat.lt_of_lt_of_le hb hr.out.bel.size
        clear hc hpa
        have hlw : w.heap.size < wr.heap.size := hr.out.row.lt
        have hck := hr.out.row.cell hlt
        rw [if_neg (Nat.lt_irrefl k)] at hck
        have hfk := hr.out.row.frozen k
        by_cases hm : x k % 4 = 0
        · have hpos : ¬ (0 : Int) < ((x k : Nat) : Int) % 4 := by omega
          go_wp2_with fail
          go_roundw
          case rel =>
            refine ⟨k + 1, by simp, by omega, _, _, hr.out.step (v := .slice none 0 0) hlt ((Below.refl _ _).alloc (by simp) _) ?_ ⟨none, by rw [hm]⟩⟩
            exact ⟨_, alloc_at _ _ _ (by simp), rfl, rfl, rfl, rfl⟩
          case measure => simp [intOf]; omega
        · have hpos : (0 : Int) < ((x k : Nat) : Int) % 4 := by omega
          obtain ⟨D, hD⟩ : ∃ D, ∀ w, (Instr.makeSlice 83 (.int .i64 (((x k : Nat) : Int) % 4)) (.int .i64 (((x k : Nat) : Int) % 4))).run Yba.prog w = .ok (.slice (some ⟨w.heap.size, 0, none⟩) (x k % 4) (x k % 4)) (w.alloc (.cells D 99)) := by
            refine ⟨madeCells z9.cells (x k % 4 * i9.size), fun w => (run_make w 83 99 i9 z9 Yba.underlying83 hi9 hz9 .i64 .i64 _ _ (by omega) (Int.le_refl _) ?_ (by omega)).trans ?_⟩
            · have : (i9.bytes : Int) * (((x k : Nat) : Int) % 4) ≤ 4096 * 3 := Int.mul_le_mul (by omega) (by omega) (by omega) (by omega)
              omega
            · rw [show (((x k : Nat) : Int) % 4).toNat = x k % 4 by omega]
          clear hi9 hz9 hb9
          go_wp2_with fail
          go_roundw
          case rel =>
            refine ⟨k + 1, by simp, by omega, _, _, hr.out.step (v := .slice (some ⟨wr.heap.size + 1, 0, none⟩) (x k % 4) (x k % 4)) hlt (((Below.refl _ _).alloc (by simp) _).alloc (by simp) _) ?_ ⟨_, rfl⟩⟩
            exact ⟨_, (Below.heap_alloc _ _ _ (by simp)).trans (alloc_at _ _ _ (by simp)), rfl, rfl, rfl, rfl⟩
          case measure => simp [intOf]; omega
      · obtain rfl : k = n := by omega
        have hlt' : ¬ (k : Int) < (k : Int) := by omega
        go_wp2_with fail
        go_ret
        have h := hr.out
        refine ⟨_, rfl, some ⟨w.heap.size, 0, none⟩, E, I, rfl, rfl, Or.inr ⟨w.heap.size, rfl, h.row.congr fun i hi => by rw [if_pos hi]⟩, h.ends, h.box, fun i hi => Nat.le_of_lt (h.ge i hi), h.inj, h.bel⟩
end Go.Proofs.Ybulkfqjo
