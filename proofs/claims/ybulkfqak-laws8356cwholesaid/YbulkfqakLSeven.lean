import Derived.Test.YbulkfqakLPre
import Derived.Laws.StructEq
namespace Go.Proofs.Ybulkfqak
open Go.RowKit Go.Shelf

/-- a cell of a reading or a writing -/
def Cell7 (c : Nat) (v : Value) : Prop :=
  match c with
  | 0 => ∃ a, v = .int .u32 a
  | 1 => ∃ a, v = .int .u8 a
  | 2 => ∃ a, v = .int .u8 a
  | 3 => ∃ a, v = .int .i64 a
  | 4 => ∃ a, v = .int .i64 a
  | 5 => ∃ a, v = .int .i64 a
  | _ => ∃ a, v = .bool a
def All7 (xs : List Value) : Prop := xs.length % 7 = 0 ∧ ∀ i v, xs[i]? = some v → Cell7 (i % 7) v
theorem All7.app {xs ys : List Value} (h : All7 xs) (k : All7 ys) : All7 (xs ++ ys) := by
  refine ⟨?_, fun i v hv => ?_⟩
  · rw [List.length_append]; have := h.1; have := k.1; omega
  · by_cases hi : i < xs.length
    · rw [List.getElem?_append_left hi] at hv
      exact h.2 i v hv
    · rw [List.getElem?_append_right (by omega)] at hv
      have := k.2 _ v hv
      have e : (i - xs.length) % 7 = i % 7 := by have := h.1; omega
      rwa [e] at this
theorem All7.nil : All7 [] := ⟨rfl, fun i v hv => by simp at hv⟩
theorem All7.acc (off use lo hi : Int) (sure : Bool) : All7 (accCells off use lo hi sure) := by
  refine ⟨by simp [accCells], fun i v hv => ?_⟩
  have hi7 : i < 7 := by
    have := (List.getElem?_eq_some_iff.1 hv).1
    exact this
  have hc : i = 0 ∨ i = 1 ∨ i = 2 ∨ i = 3 ∨ i = 4 ∨ i = 5 ∨ i = 6 := by omega
  rcases hc with rfl | rfl | rfl | rfl | rfl | rfl | rfl <;> (simp [accCells] at hv; subst hv; exact ⟨_, rfl⟩)
theorem All7.from (kd : Nat → Nat) : ∀ (c k : Nat) (d : Int), All7 (accFrom kd k c d)
  | 0, _, _ => All7.nil
  | c + 1, k, d => by
    unfold accFrom
    split
    · exact (All7.acc _ _ _ _ _).app (All7.from kd c _ _)
    · split
      · exact (All7.acc _ _ _ _ _).app (All7.from kd c _ _)
      · split
        · exact All7.nil
        · exact All7.from kd c _ _
theorem All7.to {nb : Nat} (p : Prg nb) (sn : Nat → Bool) (dl : Nat → Int) {xs0 : List Value} (h : All7 xs0) : ∀ i, All7 (accTo p sn dl xs0 i)
  | 0 => h
  | i + 1 => by
    unfold accTo
    refine (All7.to p sn dl h i).app ?_
    split
    · exact All7.from _ _ _ _
    · exact All7.nil
def preL (np : Nat) : List Value := (List.range (np * 7)).map (preF np)
theorem All7.pre (np : Nat) : All7 (preL np) := by
  refine ⟨by simp [preL], fun i v hv => ?_⟩
  unfold preL at hv
  rw [List.getElem?_map] at hv
  have hi : i < np * 7 := by
    by_cases hi : i < np * 7
    · exact hi
    · rw [List.getElem?_eq_none (by simp; omega)] at hv; cases hv
  rw [List.getElem?_range hi] at hv
  injection hv with hv
  subst hv
  unfold preF
  have h7 : i % 7 = 0 ∨ i % 7 = 1 ∨ i % 7 = 2 ∨ i % 7 = 3 ∨ i % 7 = 4 ∨ i % 7 = 5 ∨ i % 7 = 6 := by omega
  split
  · rename_i hh; rw [hh.1]; exact ⟨_, rfl⟩
  · rcases h7 with h | h | h | h | h | h | h <;> (rw [h]; exact ⟨_, rfl⟩)
theorem own_made {W : World} {A np base : Nat} (h : W.rowIs A 60 (np * 7) (preF np)) (hb : base ≤ A) (hnp : np ≤ 7) : W.ownsRow base 60 7 (.slice (some ⟨A, 0, none⟩) np np) np (preL np) := by
  obtain ⟨c, h1, h2, h3⟩ := h
  refine ⟨by simp [preL], Or.inr ⟨A, np, c, rfl, hb, h1, Nat.le_refl _, by unfold maxLen; omega, h2, ?_⟩⟩
  rw [List.take_of_length_le (by simp [h2])]
  refine List.ext_getElem? fun i => ?_
  unfold preL
  by_cases hi : i < np * 7
  · rw [List.getElem?_map, List.getElem?_range hi]
    simpa using h3 i hi
  · rw [List.getElem?_eq_none (by simp [h2]; omega), List.getElem?_eq_none (by simp; omega)]
theorem neq60 (a b c d e f : Int) (g : Bool) (w : World) : (binOp .neq 60 (.agg #[.int .u32 a, .int .u8 b, .int .u8 c, .int .i64 d, .int .i64 e, .int .i64 f, .bool g]) (.agg #[.int .u32 a, .int .u8 b, .int .u8 c, .int .i64 d, .int .i64 e, .int .i64 f, .bool g])).run Yba.prog w = .ok (.bool false) w := by
  rw [run_neq_struct, run_equalIn_agg w 9999 60 _ _ (by kernel_rfl) (by kernel_rfl)]
  simp [go_sem]
theorem neq60_all {xs : List Value} (h : All7 xs) (n : Nat) (hn : xs.length = n * 7) (k : Nat) (hk : k < n) (w : World) :
    (binOp .neq 60 (.agg #[(xs[k * 7]?).getD undef, (xs[k * 7 + 1]?).getD undef, (xs[k * 7 + 2]?).getD undef, (xs[k * 7 + 3]?).getD undef, (xs[k * 7 + 4]?).getD undef, (xs[k * 7 + 5]?).getD undef, (xs[k * 7 + 6]?).getD undef]) (.agg #[(xs[k * 7]?).getD undef, (xs[k * 7 + 1]?).getD undef, (xs[k * 7 + 2]?).getD undef, (xs[k * 7 + 3]?).getD undef, (xs[k * 7 + 4]?).getD undef, (xs[k * 7 + 5]?).getD undef, (xs[k * 7 + 6]?).getD undef])).run Yba.prog w = .ok (.bool false) w := by
  have hc : ∀ c, c < 7 → ∃ v, xs[k * 7 + c]? = some v ∧ Cell7 c v := fun c hc => by
    have hl : k * 7 + c < xs.length := by omega
    refine ⟨xs[k * 7 + c], List.getElem?_eq_getElem hl, ?_⟩
    have := h.2 (k * 7 + c) _ (List.getElem?_eq_getElem hl)
    rwa [show (k * 7 + c) % 7 = c by omega] at this
  obtain ⟨v0, e0, a, rfl⟩ := hc 0 (by omega)
  obtain ⟨v1, e1, b, rfl⟩ := hc 1 (by omega)
  obtain ⟨v2, e2, c, rfl⟩ := hc 2 (by omega)
  obtain ⟨v3, e3, d, rfl⟩ := hc 3 (by omega)
  obtain ⟨v4, e4, e, rfl⟩ := hc 4 (by omega)
  obtain ⟨v5, e5, f, rfl⟩ := hc 5 (by omega)
  obtain ⟨v6, e6, g, rfl⟩ := hc 6 (by omega)
  rw [Nat.add_zero] at e0
  rw [e0, e1, e2, e3, e4, e5, e6]
  exact neq60 a b c d e f g w
end Go.Proofs.Ybulkfqak
