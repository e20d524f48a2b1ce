import Derived.Test.YbulkfqakQRel
import Derived.Deep.LoopGhost
import Derived.Deep.CutBlock
import Derived.Sort.CutIn
import Derived.Stop.RegionWithIn
import Derived.Maps.OwnIn
namespace Go.Proofs.Ybulkfqak
open Go.RowKit Go.Shelf
attribute [-simp] Yba.isAgg95
attribute [local go_sem] Oper.semAt_some

def loopsOf : Code → List Code
  | .loop c => [c]
  | .seq a b => loopsOf a ++ loopsOf b
  | .block _ c => loopsOf c
  | .scope c => loopsOf c
  | .cond _ a b => loopsOf a ++ loopsOf b
  | _ => []
noncomputable def lp11 (k : Nat) : Code := (((Yba.f11.body.map loopsOf).getD [])[k]?).getD .skip
def mk (D : Nat) : Deferred := { target := .collected D, args := #[] }
def Marks (n : Nat) (Ds : List Nat) (W : World) : Prop := Ds.Nodup ∧ ∀ D, D ∈ Ds → n ≤ D ∧ W.heap[D]? = some (.deferred (some []))
noncomputable def zv95 : Value := ((Yba.prog.info? 95).bind (·.zero)).getD undef
theorem z95run (w : World) : (zeroValue 95).run Yba.prog w = .ok zv95 w := by kernel_rfl
def aggSize : Value → Nat
  | .agg c => c.size
  | _ => 0
theorem z95size : aggSize zv95 = 130 := by kernel_rfl
theorem zero95 : ∃ Z : Array Value, Z.size = 130 ∧ ∀ w, (zeroValue 95).run Yba.prog w = .ok (.agg Z) w := by
  have h1 := z95size
  have h2 := z95run
  generalize zv95 = v at h1 h2
  cases v <;> first | exact ⟨_, h1, h2⟩ | (simp [aggSize] at h1)

section
variable {x : Cx} {nb : Nat} {p : Prg nb} {q : Nat → Option Addr} {fi la : Nat → Int} {w0 : World} {v0 : Value} {n0 : Nat} {xs0 : List Value}
/-- the state is laid, to be stepped -/
structure Copied (x : Cx) (S : Nat) (d : Int) (w0 W : World) : Prop where
  rng : W.rangeAt S 0 (stCells x.A d)
  blk : ∃ c, W.heap[S]? = some (.cells c 95 (0, 0)) ∧ c.size = 130
  ne : S ≠ x.ST
  new : w0.heap.size ≤ S
theorem own_pop {W : World} {base g cap : Nat} {l : List Nat} {i : Nat} (h : W.ownsRow base 21 1 (.slice (some ⟨g, 0, none⟩) (l.length + 1) cap) (l.length + 1) (encS (l ++ [i]))) : W.ownsRow base 21 1 (.slice (some ⟨g, 0, none⟩) l.length cap) l.length (encS l) := by
  obtain ⟨hb, c, hc, hs, hn, hm, ht⟩ := own21_at h
  refine ⟨by simp [encS], Or.inr ⟨g, cap, c, rfl, hb, hc, by omega, hm, by omega, ?_⟩⟩
  have := congrArg (List.take l.length) ht
  rw [List.take_take, Nat.min_eq_left (by omega)] at this
  simpa [encS] using this
theorem gb_refl (W : World) (row : Option Nat) : W.grownBy W row := ⟨rfl, rfl, rfl, Nat.le_refl _, fun _ _ _ => rfl⟩
theorem gb_alloc (W : World) (o : Obj) (row : Option Nat) : W.grownBy (W.alloc o) row := World.grownBy_alloc W o row
/-- a state is copied into new memory -/
theorem copied {W : World} {stk : List Nat} {sn kn : Nat → Bool} {dl : Nat → Int} {Z : Array Value} {d : Int} (h : FAll x p q fi la w0 stk sn kn dl W) (hZ : Z.size = 130) :
    FAll x p q fi la w0 stk sn kn dl ((W.alloc (.cells Z 95)).setCells W.heap.size 0 (stCells x.A d)) ∧ Copied x W.heap.size d w0 ((W.alloc (.cells Z 95)).setCells W.heap.size 0 (stCells x.A d)) := by
  have h1 : FAll x p q fi la w0 stk sn kn dl (W.alloc (.cells Z 95)) := h.keep (gb_alloc W _ none) (fun k e => by cases e)
  have hn : W.heap.size ≠ x.ST := by have := h.st.lt; omega
  have hl := h.fr.size
  have hb : (W.alloc (.cells Z 95)).heap[W.heap.size]? = some (.cells Z 95) := heap_alloc_new _ _
  refine ⟨h1.keep (gb_sets W.heap.size (stCells x.A d) 0 _) (fun k e => ?_), World.rangeAt_setCells_same _ _ _ _ ?_, ?_, hn, hl⟩
  · injection e with e
    subst e
    refine ⟨hl, hn, fun c t fr hc => ?_⟩
    rw [hb] at hc
    injection hc with hc
    injection hc with _ hc
    exact hc.symm
  · rw [stCells_length]
    exact there_new W Z 95 130 (by omega)
  · obtain ⟨c', h2, h3⟩ := block_sets W.heap.size (stCells x.A d) 0 _ _ hb
    exact ⟨c', h2, by omega⟩
theorem Copied.stepAt {W : World} {S : Nat} {d : Int} (h : Copied x S d w0 W) (ha : ArchAt W x.A) : StepAt W S x.A d := by
  refine ⟨by simpa using h.rng 0 _ rfl, by simpa using h.rng 1 _ rfl, ?_, ha⟩
  obtain ⟨c, hc, _⟩ := h.blk
  simp [World.frozen?, hc]
theorem Copied.row_ne {W : World} {S b : Nat} {d : Int} {t : TypeId} {n : Nat} {f : Nat → Value} (h : Copied x S d w0 W) (hb : W.rowIs b t n f) (ht : t ≠ 95) : b ≠ S := by
  intro e
  obtain ⟨c, hc, _⟩ := h.blk
  obtain ⟨c', h2, _⟩ := hb
  rw [e, hc] at h2
  injection h2 with h2
  injection h2 with _ h2
  exact ht h2.symm
/-- the state is stepped -/
theorem Copied.stepped {W W' : World} {S : Nat} {d dk : Int} {stk : List Nat} {sn kn : Nat → Bool} {dl : Nat → Int} (h : Copied x S d w0 W) (hF : FAll x p q fi la w0 stk sn kn dl W) (hb : Below W.heap.size (W.setCell ⟨S, 1, none⟩ (.int .i64 dk)) W') :
    FAll x p q fi la w0 stk sn kn dl W' ∧ Copied x S dk w0 W' := by
  obtain ⟨c, hc, hcs⟩ := h.blk
  have hSl : S < W.heap.size := (Array.getElem?_eq_some_iff.1 hc).1
  have hgb : W.grownBy W' (some S) := gb_trans (gb_set W S 1 _) (gb_below (by simpa using hb) _)
  refine ⟨hF.keep hgb (fun k e => ?_), fun j v hv => ?_, ?_, h.ne, h.new⟩
  · injection e with e
    subst e
    refine ⟨h.new, h.ne, fun c' t fr hc' => ?_⟩
    rw [hc] at hc'
    injection hc' with hc'
    injection hc' with _ hc'
    exact hc'.symm
  · rw [hb.cell (p := ⟨S, 0 + j, none⟩) hSl]
    by_cases e : j = 1
    · subst e
      have : (Value.int .i64 dk) = v := by simpa [stCells] using hv
      rw [← this]
      exact World.cell?_setCell_same' _ _ _ (by have := h.rng 1 _ rfl; simp at this; simp [this])
    · rw [World.cell?_setCell_other _ _ _ _ (by intro e'; injection e' with _ e2; omega)]
      refine h.rng j v ?_
      match j, e with
      | 0, _ => exact hv
      | j + 2, _ => exact hv
  · refine ⟨c.setIfInBounds 1 (.int .i64 dk), ?_, by simpa using hcs⟩
    rw [hb.block S hSl]
    simp [World.setCell, Array.getElem?_modify, hc]

theorem Marks.keep {n : Nat} {Ds : List Nat} {W W' : World} {row : Option Nat} (h : Marks n Ds W) (g : W.grownBy W' row) (hr : ∀ k, row = some k → ∃ c t fr, W.heap[k]? = some (.cells c t fr)) : Marks n Ds W' := by
  refine ⟨h.1, fun D hD => ⟨(h.2 D hD).1, (g.block D (Array.getElem?_eq_some_iff.1 (h.2 D hD).2).1 fun e => ?_).trans (h.2 D hD).2⟩⟩
  obtain ⟨c, t, fr, hc⟩ := hr D e.symm
  rw [(h.2 D hD).2] at hc
  cases hc
theorem row_cells {W : World} {b : Nat} {t : TypeId} {n : Nat} {f : Nat → Value} (h : W.rowIs b t n f) : ∃ c t fr, W.heap[b]? = some (.cells c t fr) := by
  obtain ⟨c, h1, _⟩ := h
  exact ⟨c, t, _, h1⟩
/-- 'follow' leaves with 'false' -/
def RetAt (x : Cx) {nb : Nat} (p : Prg nb) (q : Nat → Option Addr) (fi la : Nat → Int) (w0 : World) (s : St) (a' : Act) (W' : World) : Prop :=
  ∃ (s' : St) (Ds' : List Nat), FAll x p q fi la w0 s'.stack s'.seen s'.seen s'.delta W' ∧ W'.rowIs x.b6 4 1 (fun _ => .bool false) ∧ Marks w0.heap.size Ds' W' ∧ Done p s s' false ∧ a'.tmps[6]? = some (.pointer (some ⟨x.b6, 0, none⟩)) ∧ a'.defers = Ds'.map mk


end
end Go.Proofs.Ybulkfqak
