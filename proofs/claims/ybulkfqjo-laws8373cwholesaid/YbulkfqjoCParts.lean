import Derived.Test.YbulkfqjoCLook
import Derived.WalkSmall
namespace Go.Proofs.Ybulkfqjo
open Go.RowKit

/-- the three rows of ends, and the three that they were drawn from -/
structure Ends (w0 : World) (p : Nat → Option Addr) (n : Nat → Nat) (c l : Nat → Nat → Bool) (x : Nat → Nat → Nat) (q : Nat → Option Addr) (E : Nat → Nat → Nat) (I : Nat → Nat → Value) (w : World) : Prop where
  grp : Grp w n E c I
  box : ∀ g i, g < 3 → i < n g → ∃ a, I g i = .slice a (x g i % 4) (x g i % 4)
  row : ∀ g, g < 3 → PRow w 28 (q g) (n g) (E g)
  nil : ∀ g, g < 3 → (q g).isNone = (p g).isNone
  ge : ∀ g i, g < 3 → i < n g → w0.heap.size ≤ E g i
  bel : Below w0.heap.size w0 w

def pick3 {α : Type} (a b c : α) : Nat → α
  | 0 => a
  | 1 => b
  | _ => c

theorem Below.kept {w w' : World} (h : Below w.heap.size w w') : Chg (fun _ => False) w w' := Below.chg h

theorem ends_made {w w1 w2 w3 : World} {p : Nat → Option Addr} {n : Nat → Nat} {c l : Nat → Nat → Bool} {x : Nat → Nat → Nat} {q0 q1 q2 : Option Addr} {E0 E1 E2 : Nat → Nat} {I0 I1 I2 : Nat → Value}
    (h0 : Made w (p 0) (n 0) (c 0) (x 0) q0 E0 I0 w1) (h1 : Made w1 (p 1) (n 1) (c 1) (x 1) q1 E1 I1 w2) (h2 : Made w2 (p 2) (n 2) (c 2) (x 2) q2 E2 I2 w3) :
    ∃ E I, Ends w p n c l x (pick3 q0 q1 q2) E I w3 := by
  have k1 : Chg (fun _ => False) w1 w2 := Below.chg h1.bel
  have k2 : Chg (fun _ => False) w2 w3 := Below.chg h2.bel
  have k12 := k1.trans k2
  have s0 := h0.bel.size
  have s1 := h1.bel.size
  have b3 : Below w.heap.size w w3 := h0.bel.trans ((h1.bel.mono s0).trans (h2.bel.mono (Nat.le_trans s0 s1)))
  refine ⟨pick3 E0 E1 E2, pick3 I0 I1 I2, ⟨?_, ?_, ?_⟩, ?_, ?_, ?_, ?_, b3⟩
  · intro g i hg hi
    match g, hg with
    | 0, _ => exact k12.end (h0.ends i hi) id
    | 1, _ => exact k2.end (h1.ends i hi) id
    | 2, _ => exact h2.ends i hi
  · intro g i hg hi
    match g, hg with
    | 0, _ => obtain ⟨a, h⟩ := h0.box i hi; exact ⟨_, _, _, h⟩
    | 1, _ => obtain ⟨a, h⟩ := h1.box i hi; exact ⟨_, _, _, h⟩
    | 2, _ => obtain ⟨a, h⟩ := h2.box i hi; exact ⟨_, _, _, h⟩
  · intro g i h j hg hh hi hj e
    have l0 : ∀ i, i < n 0 → E0 i < w1.heap.size := fun i hi => (h0.ends i hi).lt
    have l1 : ∀ i, i < n 1 → E1 i < w2.heap.size := fun i hi => (h1.ends i hi).lt
    have g1 := h1.ge
    have g2 := h2.ge
    match g, h, hg, hh with
    | 0, 0, _, _ => exact ⟨rfl, h0.inj i j hi hj e⟩
    | 1, 1, _, _ => exact ⟨rfl, h1.inj i j hi hj e⟩
    | 2, 2, _, _ => exact ⟨rfl, h2.inj i j hi hj e⟩
    | 0, 1, _, _ => have a := l0 i hi; have b := g1 j hj; have e' : E0 i = E1 j := e; omega
    | 0, 2, _, _ => have a := l0 i hi; have b := g2 j hj; have e' : E0 i = E2 j := e; omega
    | 1, 0, _, _ => have a := l0 j hj; have b := g1 i hi; have e' : E1 i = E0 j := e; omega
    | 1, 2, _, _ => have a := l1 i hi; have b := g2 j hj; have e' : E1 i = E2 j := e; omega
    | 2, 0, _, _ => have a := l0 j hj; have b := g2 i hi; have e' : E2 i = E0 j := e; omega
    | 2, 1, _, _ => have a := l1 j hj; have b := g2 i hi; have e' : E2 i = E1 j := e; omega
  · intro g i hg hi
    match g, hg with
    | 0, _ => exact h0.box i hi
    | 1, _ => exact h1.box i hi
    | 2, _ => exact h2.box i hi
  · intro g hg
    match g, hg with
    | 0, _ => exact k12.prow h0.row (fun _ _ h => h)
    | 1, _ => exact k2.prow h1.row (fun _ _ h => h)
    | 2, _ => exact h2.row
  · intro g hg
    match g, hg with
    | 0, _ => exact h0.nil
    | 1, _ => exact h1.nil
    | 2, _ => exact h2.nil
  · intro g i hg hi
    match g, hg with
    | 0, _ => exact h0.ge i hi
    | 1, _ => exact Nat.le_trans s0 (h1.ge i hi)
    | 2, _ => exact Nat.le_trans (Nat.le_trans s0 s1) (h2.ge i hi)

/-- behind 'settle': each end as it should be -/
structure After (w0 : World) (p : Nat → Option Addr) (n : Nat → Nat) (c l : Nat → Nat → Bool) (x : Nat → Nat → Nat) (q : Nat → Option Addr) (E : Nat → Nat → Nat) (fired : Bool) (w : World) : Prop where
  bel : Below w0.heap.size w0 w
  row : ∀ g, g < 3 → PRow w 28 (q g) (n g) (E g)
  ends : ∃ (cc : Nat → Nat → Bool) (v : Nat → Nat → Value), ∀ g i, g < 3 → i < n g → EndAt w (E g i) (cc g i) (v g i) ∧ Fit fired (c g i) (cc g i) (x g i) (v g i)

theorem After.call {w0 : World} {p : Nat → Option Addr} {n : Nat → Nat} {c l : Nat → Nat → Bool} {x : Nat → Nat → Nat} {q : Nat → Option Addr} {E : Nat → Nat → Nat} {fired : Bool} {w : World} (h : After w0 p n c l x q E fired w)
    (g : Nat) (hg : g < 3) (hn : n g ≤ 1048576) (hx : XAt w0 (p g) (n g) (c g) (l g) (x g)) (cap m : Nat) :
    Calls Yba.prog 7 #[.slice (q g) (n g) (n g), .slice (p g) (n g) cap, .bool fired] (w.drewN m) fun e w' => e = .returned (.bool true) ∧ ∃ m, w' = w.drewN m := by
  obtain ⟨cc, v, he⟩ := h.ends
  refine (ends_any (q g) (p g) (n g) cap (E g) (cc g) (v g) (c g) (l g) (x g) fired (w.drewN m) hn (h.row g hg) (fun i hi => (he g i hg hi).1) (hx.below rfl (below_drewN h.bel m)) (fun i hi => (he g i hg hi).2)).mono ?_
  rintro e w' ⟨rfl, k, rfl⟩
  exact ⟨rfl, m + k, by rw [World.drewN_drewN]⟩

/-- what stands in the loop over the links behind k rounds -/
structure LK (w0 : World) (n : Nat) (lb E : Nat → Nat) (l : Nat → Bool) (k : Nat) (w : World) : Prop where
  row : w.rowIs w0.heap.size 27 n (fun i => if i < k then .pointer (some ⟨lb i, 0, none⟩) else .pointer none)
  links : ∀ i, i < k → LinkAt w (lb i) (E i) (l i)
  ge : ∀ i, i < k → w0.heap.size < lb i
  inj : ∀ i j, i < k → j < k → lb i = lb j → i = j
  bel : Below w0.heap.size w0 w

theorem LK.step {w0 : World} {n : Nat} {lb E : Nat → Nat} {l : Nat → Bool} {k : Nat} {w W : World} (hk : k < n) (h : LK w0 n lb E l k w)
    (hb : Below w.heap.size (w.setCell ⟨w0.heap.size, k, none⟩ (.pointer (some ⟨w.heap.size, 0, none⟩))) W) (he : LinkAt W w.heap.size (E k) (l k)) :
    LK w0 n (fun i => if i = k then w.heap.size else lb i) E l (k + 1) W := by
  have hsz : (w.setCell ⟨w0.heap.size, k, none⟩ (.pointer (some ⟨w.heap.size, 0, none⟩))).heap.size = w.heap.size := by simp
  have kk : Chg (fun j => j = w0.heap.size) w (w.setCell ⟨w0.heap.size, k, none⟩ (.pointer (some ⟨w.heap.size, 0, none⟩))) := chg_set (S := fun j => j = w0.heap.size) (Chg.refl _ _) (a := ⟨w0.heap.size, k, none⟩) rfl _
  have hlt : w0.heap.size < w.heap.size := h.row.lt
  have r1 := h.row.set k (.pointer (some ⟨w.heap.size, 0, none⟩))
  have bel : Below w0.heap.size w0 (w.setCell ⟨w0.heap.size, k, none⟩ (.pointer (some ⟨w.heap.size, 0, none⟩))) := h.bel.setCell (Nat.le_refl _) _
  generalize w.setCell ⟨w0.heap.size, k, none⟩ (.pointer (some ⟨w.heap.size, 0, none⟩)) = w1 at hb hsz kk r1 bel
  rw [← hsz] at hb
  have kc : Chg (fun _ => False) w1 W := Below.chg hb
  refine ⟨?_, ?_, ?_, ?_, ?_⟩
  · refine (kc.row r1 id).congr fun i hi => ?_
    by_cases e : i = k
    · subst e; simp
    · simp only [if_neg e, show (i < k + 1) ↔ (i < k) by omega]
  · intro i hi
    by_cases e : i = k
    · subst e
      simpa using he
    · simp only [if_neg e]
      have hi' : i < k := by omega
      have := h.ge i hi'
      exact kc.link (kk.link (h.links i hi') (by omega)) id
  · intro i hi
    by_cases e : i = k
    · subst e; simpa using hlt
    · simp only [if_neg e]; exact h.ge i (by omega)
  · intro i j hi hj
    by_cases ei : i = k <;> by_cases ej : j = k
    · intro _; omega
    · subst ei
      have := (h.links j (by omega)).lt
      simp only [ite_true, if_neg ej]
      intro e; omega
    · subst ej
      have := (h.links i (by omega)).lt
      simp only [ite_true, if_neg ei]
      intro e; omega
    · simp only [if_neg ei, if_neg ej]
      exact h.inj i j (by omega) (by omega)
  · exact bel.trans ⟨hb.os, hb.tape, hb.output, hb.size, fun j hj => hb.block j (by omega)⟩

theorem info27 : (Yba.prog.info? 27).map (fun i => (i.zero, i.size, i.bytes)) = some (some (.pointer none), 1, 8) := by kernel_rfl

theorem Ends.kept {w0 : World} {p : Nat → Option Addr} {n : Nat → Nat} {c l : Nat → Nat → Bool} {x : Nat → Nat → Nat} {q : Nat → Option Addr} {E : Nat → Nat → Nat} {I : Nat → Nat → Value} {w w' : World}
    (h : Ends w0 p n c l x q E I w) (k : Below w.heap.size w w') : Ends w0 p n c l x q E I w' := by
  have kc : Chg (fun _ => False) w w' := Below.chg k
  exact ⟨h.grp.chg kc (fun _ _ h => h), h.box, fun g hg => kc.prow (h.row g hg) (fun _ _ h => h), h.nil, h.ge, h.bel.trans (k.mono h.bel.size)⟩

/-- a node with its links -/
structure Noded (w0 : World) (done : Bool) (p0 lp : Option Addr) (n0 : Nat) (lb E0 : Nat → Nat) (l0 : Nat → Bool) (N : Nat) (w : World) : Prop where
  nil : lp.isNone = p0.isNone
  node : NodeAt w N done (.slice lp n0 n0)
  row : PRow w 27 lp n0 lb
  links : ∀ i, i < n0 → LinkAt w (lb i) (E0 i) (l0 i)
  linj : ∀ i j, i < n0 → j < n0 → lb i = lb j → i = j
  ge : ∀ i, i < n0 → w0.heap.size ≤ lb i
  nge : w0.heap.size ≤ N

theorem Noded.kept {w0 : World} {done : Bool} {p0 lp : Option Addr} {n0 : Nat} {lb E0 : Nat → Nat} {l0 : Nat → Bool} {N : Nat} {w w' : World} (h : Noded w0 done p0 lp n0 lb E0 l0 N w) (k : Below w.heap.size w w') : Noded w0 done p0 lp n0 lb E0 l0 N w' := by
  have kc : Chg (fun _ => False) w w' := Below.chg k
  exact ⟨h.nil, kc.node h.node id, kc.prow h.row (fun _ _ h => h), fun i hi => kc.link (h.links i hi) id, h.linj, h.ge, h.nge⟩

theorem after_still {w0 : World} {p : Nat → Option Addr} {n : Nat → Nat} {c l : Nat → Nat → Bool} {x : Nat → Nat → Nat} {q : Nat → Option Addr} {E : Nat → Nat → Nat} {I : Nat → Nat → Value} {w : World}
    (h : Ends w0 p n c l x q E I w) : After w0 p n c l x q E false w :=
  ⟨h.bel, h.row, c, I, fun g i hg hi => ⟨h.grp.ends g i hg hi, rfl, h.box g i hg hi⟩⟩

theorem not_mine {w0 : World} {p : Nat → Option Addr} {n : Nat → Nat} {c l : Nat → Nat → Bool} {x : Nat → Nat → Nat} {q : Nat → Option Addr} {E : Nat → Nat → Nat} {I : Nat → Nat → Value} {w : World} {done ended : Bool} {p0 lp : Option Addr} {lb : Nat → Nat} {l0 : Nat → Bool} {N B : Nat} {np dv bv : Value} {t : TypeId}
    (h : Ends w0 p n c l x q E I w) (hn : Noded w0 done p0 lp (n 0) lb (E 0) l0 N w) (hs : SimAt w B np ended dv bv) (t1 : t ≠ 79) (t2 : t ≠ 65) (t3 : t ≠ 47) (t4 : t ≠ 92) : ∀ b, Tag w b t → ¬ Mine B N n lb E b := by
  rintro b tb (e | e | ⟨i, hi, e⟩ | ⟨g, i, hg, hi, e⟩)
  · exact tb.ne hs.tag t1 e
  · exact tb.ne hn.node.tag t2 e
  · exact tb.ne (hn.links i hi).tag t3 e
  · exact tb.ne (h.grp.ends g i hg hi).tag t4 e

theorem after_fired {w0 : World} {p : Nat → Option Addr} {n : Nat → Nat} {c l : Nat → Nat → Bool} {x : Nat → Nat → Nat} {q : Nat → Option Addr} {E : Nat → Nat → Nat} {I : Nat → Nat → Value} {w w' : World} {done ended : Bool} {p0 lp : Option Addr} {lb : Nat → Nat} {l0 : Nat → Bool} {N B : Nat} {np dv bv : Value}
    (h : Ends w0 p n c l x q E I w) (hn : Noded w0 done p0 lp (n 0) lb (E 0) l0 N w) (hs : SimAt w B np ended dv bv) (hB : w0.heap.size ≤ B) (he : ∀ g i, g < 3 → i < n g → EndAt w' (E g i) true (shut (c g i) (I g i))) (k : Chg (Mine B N n lb E) w w') :
    After w0 p n c l x q E true w' := by
  refine ⟨h.bel.trans (k.below h.bel.size ?_), fun g hg => k.prow (h.row g hg) (not_mine h hn hs (by decide) (by decide) (by decide) (by decide)), fun _ _ => true, fun g i => shut (c g i) (I g i), fun g i hg hi => ⟨he g i hg hi, ?_⟩⟩
  · rintro j (e | e | ⟨i, hi, e⟩ | ⟨g, i, hg, hi, e⟩)
    · rw [e]; exact hB
    · rw [e]; exact hn.nge
    · rw [e]; exact hn.ge i hi
    · rw [e]; exact h.ge g i hg hi
  · show Fit true (c g i) true (x g i) (shut (c g i) (I g i))
    obtain ⟨a, ha⟩ := h.box g i hg hi
    generalize c g i = b
    cases b
    · exact ⟨rfl, rfl⟩
    · exact ⟨rfl, a, ha⟩

end Go.Proofs.Ybulkfqjo
