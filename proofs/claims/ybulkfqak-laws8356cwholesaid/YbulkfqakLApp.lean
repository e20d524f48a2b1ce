import Derived.Test.YbulkfqakLBase
namespace Go.Proofs.Ybulkfqak
open Go.RowKit Go.Shelf

theorem app_nil (w : World) (ty : TypeId) : (Builtin.append_ #[48, 48] ty #[.slice none 0 0, .slice none 0 0]).run Yba.prog w = .ok (.slice none 0 0) w := by
  obtain ⟨i, hi, hz0, hz1, hz2⟩ := info_parts info21
  have h1 : Yba.prog.underlying 48 = some (.slice 21) := Yba.underlying48
  simp [Builtin.append_, run_underlying h1, sizeOf, typeInfo, hi, Builtin.lenOf, Builtin.firstCells]
theorem app_none (w : World) (ty : TypeId) (a : Addr) (n cap : Nat) (hn : n ≤ cap) : (Builtin.append_ #[48, 48] ty #[.slice (some a) n cap, .slice none 0 0]).run Yba.prog w = .ok (.slice (some a) n cap) w := by
  obtain ⟨i, hi, hz0, hz1, hz2⟩ := info_parts info21
  have h1 : Yba.prog.underlying 48 = some (.slice 21) := Yba.underlying48
  simp [Builtin.append_, run_underlying h1, sizeOf, typeInfo, hi, Builtin.lenOf, Builtin.firstCells, hn, storeCells]

theorem app_js {w : World} {base B n m : Nat} {v : Value} {xs : List Value} {q : Option Addr} {f : Nat → Nat} (ty : TypeId) (hown : w.ownsRow base 21 1 v n xs) (hj : JRow w B q m f) (hb : n + m ≤ 2000000) (hbase : base ≤ w.heap.size) :
    ∃ v' w', (Builtin.append_ #[48, 48] ty #[v, .slice q m m]).run Yba.prog w = .ok v' w' ∧ w'.ownsRow base 21 1 v' (n + m) (xs ++ (List.range m).map (fun j => Value.int .i32 ((f j : Nat) : Int))) ∧ w.grownBy w' v.ownBlock := by
  rcases hj with ⟨rfl, rfl⟩ | ⟨g, rfl, _, hr⟩
  · have e1 : xs ++ (List.range 0).map (fun j => Value.int .i32 ((f j : Nat) : Int)) = xs := by simp
    rcases hown.2 with ⟨rfl, rfl⟩ | ⟨g, cap, cur, rfl, h1, h2, h3, h4, h5, h6⟩
    · exact ⟨_, _, app_nil w ty, by rw [e1]; exact hown, gb_refl _ _⟩
    · exact ⟨_, _, app_none w ty _ n cap h3, by rw [e1]; exact hown, gb_refl _ _⟩
  · obtain ⟨i, hi, hz0, hz1, hz2⟩ := info_parts info21
    obtain ⟨v', w', h1, h2, h3, _⟩ := run_append_own (P := Yba.prog) w base 48 ty 21 i (.int .i32 0) 1 4 Yba.underlying48 hi hz0 hz1 hz2 rfl (by omega) v n xs hown ⟨g, 0, none⟩ m m ((List.range m).map (fun j => Value.int .i32 ((f j : Nat) : Int))) (by simp) (fun j u hu => by
      simp only [List.getElem?_map] at hu
      have hj : j < m := by
        rcases Nat.lt_or_ge j m with h | h
        · exact h
        · rw [List.getElem?_eq_none (by simpa using h)] at hu; cases hu
      rw [List.getElem?_range hj] at hu
      rw [Addr.add_mid, Nat.zero_add, hr.cell hj]
      exact hu) (fun u hu => by
      simp only [List.mem_map] at hu
      obtain ⟨j, _, rfl⟩ := hu
      rfl) (by simp [maxLen]; omega) (by omega) hbase
    exact ⟨v', w', h1, h2, h3⟩
theorem wpList_append_js {ops : Array Oper} {rest : List Oper} {o : Oper} {a : Act} {Q : Exit → Act → World → Prop} (w : World) (hgd : o.guard = none) (s x : Operand) (ho : o.op = .call { callee := .builtin .append, args := #[s, x], argTypes := #[48, 48] })
    (base B n m : Nat) (v : Value) (xs : List Value) (q : Option Addr) (f : Nat → Nat) (hs : a.eval s = v) (hown : w.ownsRow base 21 1 v n xs) (hx : a.eval x = .slice q m m) (hj : JRow w B q m f) (hb : n + m ≤ 2000000) (hbase : base ≤ w.heap.size)
    (h : ∀ v' w', w'.ownsRow base 21 1 v' (n + m) (xs ++ (List.range m).map (fun j => Value.int .i32 ((f j : Nat) : Int))) → w.grownBy w' v.ownBlock → wpList Yba.prog ops Q rest (a.put o.dst v') w') : wpList Yba.prog ops Q (o :: rest) a w := by
  refine wpList_plain hgd fun _ hK => ?_
  obtain ⟨v', w', hr, h2, h3⟩ := app_js o.type hown hj hb hbase
  unfold Oper.wp execOp
  simp only [ho, resolve, invoke, builtin, Sem.run_bind, Sem.run_pure, Result.andThen_ok, List.map_toArray, List.map_cons, List.map_nil, hs, hx, hr]
  exact hK _ _ (h v' w' h2 h3)
end Go.Proofs.Ybulkfqak
