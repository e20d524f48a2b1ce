import Derived.Test.YbulkfqakLPre
namespace Go.Proofs.Ybulkfqak
open Go.RowKit Go.Shelf

/-- the code from a region on -/
def headIs (r : Nat) : Code → Bool
  | .region k _ _ => k == r
  | .seq a _ => headIs r a
  | _ => false
def fromRegion (r : Nat) : Code → Option Code
  | .seq a c => if headIs r a = true then some (.seq a c) else fromRegion r c
  | _ => none
noncomputable def tl4 (r : Nat) : Code := (Yba.f4.body.bind (fromRegion r)).getD .skip

/-- the depths stay small -/
theorem Done.good {nb : Nat} {p : Prg nb} (hst : ∀ i, i < nb → p.st (i + 1) - p.st i ≤ 65536) {s r : St} {b : Bool} (h : Done p s r b) : ∀ t, Good nb s t → ∃ t', Good nb r t' := by
  have hstep : ∀ (s : St) (l : List Nat) (i : Nat) (s' : St) (b : Bool) (t : Nat), s.stack = l ++ [i] → p.step { s with stack := l } i = (s', b) → Good nb s t → Good nb s' (t + 1) := by
    intro s l i s' b t e hs hg
    have hg1 := hg.pop e
    have hi := hg.stk i (by rw [e]; simp)
    unfold Prg.step at hs
    split at hs
    · injection hs with h1 h2; subst h1; exact hg1
    · split at hs
      · injection hs with h1 h2; subst h1; exact hg1
      · have hb := runFrom_bound p.kd (p.st (i + 1) - p.st i) (p.st i) (s.delta i)
        have h1 := hg.bnd i hi.1 hi.2
        have h2 := hst i hi.1
        have := Good.visit (nb := nb) (t := t + 1) (d := (p.run i (s.delta i)).1) (by unfold Prg.run; omega) (by unfold Prg.run; omega) (p.succ i) _ hg1
        rw [show s' = (visit (p.run i (s.delta i)).1 { s with stack := l } (p.succ i)).1 by rw [hs]]
        exact this
  induction h with
  | stop s e => exact fun t hg => ⟨t, hg⟩
  | bad s l i s' e hs => exact fun t hg => ⟨t + 1, hstep s l i s' false t e hs hg⟩
  | go s l i s' r b e hs _ ih => exact fun t hg => ih (t + 1) (hstep s l i s' true t e hs hg)
theorem Done.bnd {nb : Nat} {p : Prg nb} (hnb : nb ≤ 65536) (h0 : 0 < nb) (hst : ∀ i, i < nb → p.st (i + 1) - p.st i ≤ 65536) {r : St} {b : Bool} (h : Done p s00 r b) (i : Nat) (hi : i < nb) (hs : r.seen i = true) : -90000000000 ≤ r.delta i ∧ r.delta i ≤ 90000000000 := by
  obtain ⟨t, hg⟩ := h.good hst 0 (good00 nb h0)
  have h1 := hg.bnd i hi hs
  have h2 := hg.cnt
  omega

theorem info40 : (Yba.prog.info? 40).map (fun i => (i.zero, i.size, i.bytes)) = some (some (.int .u32 0), 1, 4) := by kernel_rfl
theorem info48 : (Yba.prog.info? 48).map (fun i => (i.zero, i.size, i.bytes)) = some (some (.slice none 0 0), 1, 24) := by kernel_rfl
theorem info4 : (Yba.prog.info? 4).map (fun i => (i.zero, i.size, i.bytes)) = some (some (.bool false), 1, 1) := by kernel_rfl
theorem info2 : (Yba.prog.info? 2).map (fun i => (i.zero, i.size, i.bytes)) = some (some (.int .i64 0), 1, 8) := by kernel_rfl
theorem info46 : (Yba.prog.info? 46).map (fun i => (i.zero.isSome, i.size, decide (i.bytes ≤ 1000000))) = some (true, 26, true) := by kernel_rfl
theorem info54 : (Yba.prog.info? 54).map (fun i => (i.zero.isSome, i.size, decide (i.bytes ≤ 1000000))) = some (true, 11, true) := by kernel_rfl

theorem make_any {t e : TypeId} {size : Nat} (ht : Yba.prog.underlying t = some (.slice e)) (hi : (Yba.prog.info? e).map (fun i => (i.zero.isSome, i.size, decide (i.bytes ≤ 1000000))) = some (true, size, true)) (n : Nat) (hn : n ≤ 65537) :
    ∃ MS : Array Value, MS.size = n * size ∧ ∀ w, (Instr.makeSlice t (.int .i64 (n : Int)) (.int .i64 (n : Int))).run Yba.prog w = .ok (.slice (some ⟨w.heap.size, 0, none⟩) n n) (w.alloc (.cells MS e)) := by
  obtain ⟨i, hi, hzz⟩ := Option.map_eq_some_iff.1 hi
  simp only [Prod.mk.injEq, decide_eq_true_eq] at hzz
  obtain ⟨hz, hs, hb⟩ := hzz
  obtain ⟨z, hz⟩ := Option.isSome_iff_exists.1 hz
  refine ⟨madeCells z.cells (n * size), size_madeCells _ _, fun w => ?_⟩
  have hbb : (i.bytes : Int) * (n : Int) ≤ 1000000 * 65537 := Int.mul_le_mul (by omega) (by omega) (by omega) (by omega)
  have hr := run_make (P := Yba.prog) w t e i z ht hi hz .i64 .i64 (n : Int) (n : Int) (by omega) (Int.le_refl _) (by omega) (by omega)
  simp only [Int.toNat_natCast, hs] at hr
  exact hr
theorem row_any (w : World) (MS : Array Value) (e : TypeId) : (w.alloc (.cells MS e)).rowIs w.heap.size e MS.size (fun j => (MS[j]?).getD undef) :=
  ⟨_, heap_alloc_new _ _, rfl, fun i hi => by simp [hi]⟩
theorem make33 (n : Nat) (hn : n ≤ 65537) (w : World) : (Instr.makeSlice 33 (.int .i64 (n : Int)) (.int .i64 (n : Int))).run Yba.prog w = .ok (.slice (some ⟨w.heap.size, 0, none⟩) n n) (w.alloc (.cells (madeCells #[.int .i64 0] n) 3)) := run_make_row' 33 3 (.int .i64 0) 8 Yba.underlying33 info3 rfl .i64 .i64 n (by omega) (by omega) w
theorem make35 (n : Nat) (hn : n ≤ 65537) (w : World) : (Instr.makeSlice 35 (.int .i64 (n : Int)) (.int .i64 (n : Int))).run Yba.prog w = .ok (.slice (some ⟨w.heap.size, 0, none⟩) n n) (w.alloc (.cells (madeCells #[.int .u32 0] n) 40)) := run_make_row' 35 40 (.int .u32 0) 4 Yba.underlying35 info40 rfl .i64 .i64 n (by omega) (by omega) w
theorem make48 (n : Nat) (hn : n ≤ 65537) (w : World) : (Instr.makeSlice 48 (.int .i64 (n : Int)) (.int .i64 (n : Int))).run Yba.prog w = .ok (.slice (some ⟨w.heap.size, 0, none⟩) n n) (w.alloc (.cells (madeCells #[.int .i32 0] n) 21)) := run_make_row' 48 21 (.int .i32 0) 4 Yba.underlying48 info21 rfl .i64 .i64 n (by omega) (by omega) w
theorem make49 (n : Nat) (hn : n ≤ 65537) (w : World) : (Instr.makeSlice 49 (.int .i64 (n : Int)) (.int .i64 (n : Int))).run Yba.prog w = .ok (.slice (some ⟨w.heap.size, 0, none⟩) n n) (w.alloc (.cells (madeCells #[.slice none 0 0] n) 48)) := run_make_row' 49 48 (.slice none 0 0) 24 Yba.underlying49 info48 rfl .i64 .i64 n (by omega) (by omega) w
theorem make72 (n : Nat) (hn : n ≤ 65537) (w : World) : (Instr.makeSlice 72 (.int .i64 (n : Int)) (.int .i64 (n : Int))).run Yba.prog w = .ok (.slice (some ⟨w.heap.size, 0, none⟩) n n) (w.alloc (.cells (madeCells #[.bool false] n) 4)) := run_make_row' 72 4 (.bool false) 1 Yba.underlying72 info4 rfl .i64 .i64 n (by omega) (by omega) w
theorem make73 (n : Nat) (hn : n ≤ 65537) (w : World) : (Instr.makeSlice 73 (.int .i64 (n : Int)) (.int .i64 (n : Int))).run Yba.prog w = .ok (.slice (some ⟨w.heap.size, 0, none⟩) n n) (w.alloc (.cells (madeCells #[.int .i64 0] n) 2)) := run_make_row' 73 2 (.int .i64 0) 8 Yba.underlying73 info2 rfl .i64 .i64 n (by omega) (by omega) w
def z60 : Array Value := #[.int .u32 0, .int .u8 0, .int .u8 0, .int .i64 0, .int .i64 0, .int .i64 0, .bool false]
theorem made60 (n j : Nat) (hj : j < n * 7) : (madeCells z60 (n * 7))[j]? = some (preF 0 j) := by
  have h7 : j % 7 = 0 ∨ j % 7 = 1 ∨ j % 7 = 2 ∨ j % 7 = 3 ∨ j % 7 = 4 ∨ j % 7 = 5 ∨ j % 7 = 6 := by omega
  unfold preF
  rw [if_neg (by omega)]
  rcases h7 with h | h | h | h | h | h | h <;> simp [madeCells, hj, z60, h, zc7]
theorem make55 (n : Nat) (hn : n ≤ 65537) : ∃ MS : Array Value, (∀ w : World, (w.alloc (.cells MS 60)).rowIs w.heap.size 60 (n * 7) (preF 0)) ∧ ∀ w, (Instr.makeSlice 55 (.int .i64 (n : Int)) (.int .i64 (n : Int))).run Yba.prog w = .ok (.slice (some ⟨w.heap.size, 0, none⟩) n n) (w.alloc (.cells MS 60)) := by
  obtain ⟨i, hi, hz, hs, hb⟩ := info_parts info60
  refine ⟨madeCells z60 (n * 7), fun w => ⟨_, heap_alloc_new _ _, size_madeCells _ _, fun j hj => made60 n j hj⟩, fun w => ?_⟩
  have hr := run_make (P := Yba.prog) w 55 60 i (.agg z60) Yba.underlying55 hi hz .i64 .i64 (n : Int) (n : Int) (by omega) (Int.le_refl _) (by rw [hb]; omega) (by omega)
  simp only [Int.toNat_natCast, hs, Value.cells] at hr
  exact hr
/-- a new object lies at the heap's end -/
theorem Below.new (w : World) (o : Obj) : Below w.heap.size w (w.alloc o) := (Below.refl _ _).alloc (Nat.le_refl _) _
end Go.Proofs.Ybulkfqak
