import Derived.Test.YbulkfqakQRange
namespace Go.Proofs.Ybulkfqak
open Go.RowKit Go.Shelf

/-- what lies in the last part of 'follow' -/
structure F3 (x : Cx) {nb : Nat} (p : Prg nb) (q : Nat → Option Addr) (w0 : World) (v0 : Value) (sn : Nat → Bool) (dl : Nat → Int) (fi la : Nat → Int) (n : Nat) (xs : List Value) (v : Value) (W : World) : Prop where
  os : W.os = w0.os
  tape : W.tape = w0.tape
  output : W.output = w0.output
  size : w0.heap.size ≤ W.heap.size
  blk : ∀ k, k < w0.heap.size → k ≠ x.C → k ≠ x.K → some k ≠ v0.ownBlock → W.heap[k]? = w0.heap[k]?
  code : ∀ j, j ≠ 3 → W.cell? ⟨x.C, j, none⟩ = w0.cell? ⟨x.C, j, none⟩
  Clt : x.C < w0.heap.size
  ne : x.b3 ≠ x.C ∧ x.b4 ≠ x.C ∧ x.b5 ≠ x.C ∧ x.b6 ≠ x.C ∧ x.b7 ≠ x.C ∧ x.b11 ≠ x.C ∧ x.F ≠ x.C ∧ x.K ≠ x.C ∧ x.ST ≠ x.C
  B3 : W.rowIs x.b3 66 1 (fun _ => .pointer (some ⟨x.C, 0, none⟩))
  B4 : W.rowIs x.b4 34 1 (fun _ => .slice (some ⟨x.I, 0, none⟩) x.N x.N)
  B5 : W.rowIs x.b5 35 1 (fun _ => .slice (some ⟨x.O, 0, none⟩) x.N x.N)
  B6 : ∃ f, W.rowIs x.b6 4 1 f
  B7 : W.rowIs x.b7 33 1 (fun _ => .slice (some ⟨x.F, 0, none⟩) nb nb)
  B11 : W.rowIs x.b11 89 1 (fun _ => .slice (some ⟨x.ST, 0, none⟩) nb nb)
  rF : W.rowIs x.F 3 nb (fun i => .int .i64 ((p.st i : Nat) : Int))
  rK : W.rowIs x.K 54 (nb * 11) (blkF p q fi la sn)
  st : StatesAt W x.ST nb x.A sn dl
  acc : Acc W x.C x.base n xs v
  at' : v.ownBlock = v0.ownBlock ∨ ∃ g, v.ownBlock = some g ∧ w0.heap.size ≤ g
  new : w0.heap.size ≤ x.ST ∧ w0.heap.size ≤ x.b6

theorem own60_at {W : World} {base n : Nat} {xs : List Value} {v : Value} (h : W.ownsRow base 60 7 v n xs) {k : Nat} (hk : v.ownBlock = some k) : ∃ c, W.heap[k]? = some (.cells c 60 (0, 0)) := by
  rcases h.2 with ⟨rfl, _⟩ | ⟨g, cap, cur, rfl, hb, hg, hr⟩
  · cases hk
  · simp [Value.ownBlock] at hk
    subst hk
    exact ⟨cur, hg⟩
theorem own60_ne {W : World} {base n b m : Nat} {xs : List Value} {v : Value} {t : TypeId} {f : Nat → Value} (h : W.ownsRow base 60 7 v n xs) (hb : W.rowIs b t m f) (ht : t ≠ 60) : some b ≠ v.ownBlock := by
  intro e
  obtain ⟨c, hc⟩ := own60_at h e.symm
  obtain ⟨c', h2, _⟩ := hb
  rw [hc] at h2
  injection h2 with h2
  injection h2 with _ h2
  exact ht h2.symm
theorem own60_form {W : World} {base n : Nat} {xs : List Value} {v : Value} (h : W.ownsRow base 60 7 v n xs) : ∃ vp cap, v = .slice vp n cap := by
  rcases h.2 with ⟨rfl, rfl⟩ | ⟨g, cap, cur, rfl, _⟩
  · exact ⟨none, 0, rfl⟩
  · exact ⟨_, cap, rfl⟩
section
variable {x : Cx} {nb : Nat} {p : Prg nb} {q : Nat → Option Addr} {fi la fi' la' : Nat → Int} {w0 : World} {v0 v v' : Value} {n0 n n' : Nat} {xs0 xs xs' : List Value} {sn : Nat → Bool} {dl : Nat → Int} {W W' : World}

theorem F3.start {stk : List Nat} (h : FAll x p q fi la w0 stk sn sn dl W) (he : Ent x p q fi la v0 n0 xs0 w0) : F3 x p q w0 v0 sn dl fi la n0 xs0 v0 W := by
  have hC := h.old he he.rC (by decide)
  refine ⟨h.fr.os, h.fr.tape, h.fr.output, h.fr.size, fun k hk _ h2 _ => h.fr.block k hk (fun e => by injection e with e; exact h2 e), fun j _ => World.cell?_of_block (a := ⟨x.C, j, none⟩) (h.fr.block x.C he.rC.lt (fun e => by injection e with e; exact row_ne he.rC he.rK (by decide) e)),
    he.rC.lt, ⟨row_ne h.B3 hC (by decide), row_ne h.B4 hC (by decide), row_ne h.B5 hC (by decide), by obtain ⟨f, h6⟩ := h.B6; exact row_ne h6 hC (by decide), row_ne h.B7 hC (by decide), row_ne h.B11 hC (by decide), row_ne h.rF hC (by decide), row_ne h.rK hC (by decide), by have := h.new.1; have := he.rC.lt; omega⟩, h.B3, h.B4, h.B5, h.B6, h.B7, h.B11, h.rF, h.rK, h.st, ⟨hC.cell (i := 3) (by omega), hC.frozen 3, own_kept he.acc.own fun k hk => h.fr.block k (own_lt he.acc.own hk) (fun e => ?_), he.acc.lt, Nat.le_trans he.acc.ble h.fr.size⟩, Or.inl rfl, h.new.1, h.new.2.2⟩
  injection e with e
  subst e
  exact own60_ne he.acc.own he.rK (by decide) hk.symm
/-- a turn of a state's block that is none of ours -/
theorem F3.keep {row : Option Nat} (h : F3 x p q w0 v0 sn dl fi la n xs v W) (g : W.grownBy W' row)
    (hr : ∀ k, row = some k → w0.heap.size ≤ k ∧ k ≠ x.ST ∧ ∀ c t fr, W.heap[k]? = some (.cells c t fr) → t = 95) : F3 x p q w0 v0 sn dl fi la n xs v W' := by
  have ne : ∀ {b t n f}, W.rowIs b t n f → t ≠ 95 → some b ≠ row := fun hb ht e => by
    obtain ⟨c, h1, _⟩ := hb
    exact ht ((hr _ e.symm).2.2 _ _ _ h1)
  have hCb := g.block x.C (Nat.lt_of_lt_of_le h.Clt h.size) (fun e => by have h1 := (hr _ e.symm).1; have h2 := h.Clt; omega)
  refine ⟨g.os.trans h.os, g.tape.trans h.tape, g.output.trans h.output, Nat.le_trans h.size g.size, fun k hk h1 h2 h3 => (g.block k (Nat.lt_of_lt_of_le hk h.size) (fun e => ?_)).trans (h.blk k hk h1 h2 h3), fun j hj => (World.cell?_of_block (a := ⟨x.C, j, none⟩) hCb).trans (h.code j hj),
    h.Clt, h.ne, row_grown h.B3 g (ne h.B3 (by decide)), row_grown h.B4 g (ne h.B4 (by decide)), row_grown h.B5 g (ne h.B5 (by decide)), ?_, row_grown h.B7 g (ne h.B7 (by decide)), row_grown h.B11 g (ne h.B11 (by decide)),
    row_grown h.rF g (ne h.rF (by decide)), row_grown h.rK g (ne h.rK (by decide)), h.st.keep (g.block _ h.st.lt (fun e => (hr _ e.symm).2.1 rfl)), ⟨(World.cell?_of_block (a := ⟨x.C, 3, none⟩) hCb).trans h.acc.cell, (World.frozen?_of_block (a := ⟨x.C, 3, none⟩) hCb).trans h.acc.fr, own_kept h.acc.own fun k hk => g.block k (own_lt h.acc.own hk) (fun e => ?_), h.acc.lt, Nat.le_trans h.acc.ble g.size⟩, h.at', h.new⟩
  · have := (hr k e.symm).1; omega
  · obtain ⟨f, h6⟩ := h.B6; exact ⟨f, row_grown h6 g (ne h6 (by decide))⟩
  · obtain ⟨c, hc⟩ := own60_at h.acc.own hk
    have := (hr k e.symm).2.2 _ _ _ hc
    cases this
theorem F3.setK (h : F3 x p q w0 v0 sn dl fi la n xs v W) {o : Nat} {u : Value} (hk' : ∀ j, (if j = o then u else blkF p q fi la sn j) = blkF p q fi' la' sn j) : F3 x p q w0 v0 sn dl fi' la' n xs v (W.setCell ⟨x.K, o, none⟩ u) := by
  have g := gb_set W x.K o u
  have ne : ∀ {b t n f}, W.rowIs b t n f → t ≠ 54 → some b ≠ some x.K := fun hb ht e => by injection e with e; exact row_ne hb h.rK ht e
  have hCb := g.block x.C (Nat.lt_of_lt_of_le h.Clt h.size) (fun e => by injection e with e; exact h.ne.2.2.2.2.2.2.2.1 e.symm)
  refine ⟨h.os, h.tape, h.output, by simpa using h.size, fun k hk h1 h2 h3 => (g.block k (Nat.lt_of_lt_of_le hk h.size) (fun e => ?_)).trans (h.blk k hk h1 h2 h3), fun j hj => (World.cell?_of_block (a := ⟨x.C, j, none⟩) hCb).trans (h.code j hj),
    h.Clt, h.ne, row_grown h.B3 g (ne h.B3 (by decide)), row_grown h.B4 g (ne h.B4 (by decide)), row_grown h.B5 g (ne h.B5 (by decide)), ?_, row_grown h.B7 g (ne h.B7 (by decide)), row_grown h.B11 g (ne h.B11 (by decide)),
    row_grown h.rF g (ne h.rF (by decide)), (h.rK.set _ _).congr fun j _ => hk' j, h.st.keep (g.block _ h.st.lt (fun e => ?_)), ⟨(World.cell?_of_block (a := ⟨x.C, 3, none⟩) hCb).trans h.acc.cell, (World.frozen?_of_block (a := ⟨x.C, 3, none⟩) hCb).trans h.acc.fr, own_kept h.acc.own fun k hk => g.block k (own_lt h.acc.own hk) (fun e => ?_), h.acc.lt, by simpa using h.acc.ble⟩, h.at', h.new⟩
  · injection e with e; exact h2 e
  · obtain ⟨f, h6⟩ := h.B6; exact ⟨f, row_grown h6 g (ne h6 (by decide))⟩
  · obtain ⟨⟨c, h1, _⟩, _⟩ := h.st
    injection e with e
    obtain ⟨c', h2, _⟩ := h.rK
    rw [← e, h1] at h2
    injection h2 with h2
    injection h2 with _ h2
    cases h2
  · injection e with e
    subst e
    exact own60_ne h.acc.own h.rK (by decide) hk.symm
/-- the accesses have grown -/
theorem F3.grew (h : F3 x p q w0 v0 sn dl fi la n xs v W) (g : Grew x.C W v W' v') (ha : Acc W' x.C x.base n' xs' v') : F3 x p q w0 v0 sn dl fi la n' xs' v' W' := by
  obtain ⟨e3, e4, e5, e6, e7, e11, eF, eK, eS⟩ := h.ne
  have mv : ∀ {b t n f}, W.rowIs b t n f → b ≠ x.C → t ≠ 60 → W'.rowIs b t n f := fun hb h1 h2 => hb.of_block (g.block _ hb.lt h1 (own60_ne h.acc.own hb h2))
  refine ⟨g.os.trans h.os, g.tape.trans h.tape, g.output.trans h.output, Nat.le_trans h.size g.size, fun k hk h1 h2 h3 => (g.block k (Nat.lt_of_lt_of_le hk h.size) h1 (fun e => ?_)).trans (h.blk k hk h1 h2 h3), fun j hj => (g.code j hj).trans (h.code j hj),
    h.Clt, h.ne, mv h.B3 e3 (by decide), mv h.B4 e4 (by decide), mv h.B5 e5 (by decide), ?_, mv h.B7 e7 (by decide), mv h.B11 e11 (by decide), mv h.rF eF (by decide), mv h.rK eK (by decide), ?_, ha, ?_, h.new⟩
  · rcases h.at' with e1 | ⟨g1, e1, hg1⟩
    · rw [e1] at e; exact h3 e
    · rw [e1] at e; injection e with e; omega
  · obtain ⟨f, h6⟩ := h.B6; exact ⟨f, mv h6 e6 (by decide)⟩
  · refine h.st.keep (g.block _ h.st.lt eS (fun e => ?_))
    · obtain ⟨⟨c, h1, _⟩, _⟩ := h.st
      obtain ⟨c', h2⟩ := own60_at h.acc.own e.symm
      rw [h1] at h2
      injection h2 with h2
      injection h2 with _ h2
      cases h2
  · rcases g.at' with e | ⟨g1, e, hg1⟩
    · rw [e]; exact h.at'
    · exact Or.inr ⟨g1, e, Nat.le_trans h.size hg1⟩

theorem F3.old {b : Nat} {t : TypeId} {m : Nat} {f : Nat → Value} (h : F3 x p q w0 v0 sn dl fi' la' n xs v W) (he : Ent x p q fi la v0 n0 xs0 w0) (hb : w0.rowIs b t m f) (h1 : t ≠ 54) (h2 : t ≠ 70) (h3 : t ≠ 60) : W.heap[b]? = w0.heap[b]? :=
  h.blk b hb.lt (row_ne hb he.rC h2) (row_ne hb he.rK h1) (own60_ne he.acc.own hb h3)
theorem F3.insts (h : F3 x p q w0 v0 sn dl fi' la' n xs v W) (he : Ent x p q fi la v0 n0 xs0 w0) : InstsAt W x.I x.N p.kd := fun k hk => by
  obtain ⟨f, hf⟩ := he.rI
  exact (he.insts k hk).kept fun j v e => (World.cell?_of_block (h.old he hf (by decide) (by decide) (by decide))).trans e
theorem F3.arch (h : F3 x p q w0 v0 sn dl fi' la' n xs v W) (he : Ent x p q fi la v0 n0 xs0 w0) : ArchAt W x.A := by
  obtain ⟨n, f, hf⟩ := he.rA
  exact he.arch.kept fun j v e => (World.cell?_of_block (h.old he hf (by decide) (by decide) (by decide))).trans e
theorem F3.env (h : F3 x p q w0 v0 sn dl fi' la' n xs v W) (he : Ent x p q fi la v0 n0 xs0 w0) {i : Nat} (hi : i < nb) : Env W x.b7 x.b4 x.b5 x.b3 x.F x.I x.O x.C x.K nb x.N i (p.st i) (p.st (i + 1)) :=
  ⟨h.B7.cell (by omega), h.B4.cell (by omega), h.B5.cell (by omega), h.B3.cell (by omega), h.rF.cell hi, fun k hk => (he.rO.of_block (h.old he he.rO (by decide) (by decide) (by decide))).cell hk, (h.code 2 (by omega)).trans (he.rC.cell (i := 2) (by omega)), by
    rw [h.rK.cell (i := i * 11 + 1) (by omega), blk1]⟩
theorem copied3 {Z : Array Value} {d : Int} (h : F3 x p q w0 v0 sn dl fi la n xs v W) (hZ : Z.size = 130) :
    F3 x p q w0 v0 sn dl fi la n xs v ((W.alloc (.cells Z 95)).setCells W.heap.size 0 (stCells x.A d)) ∧ Copied x W.heap.size d w0 ((W.alloc (.cells Z 95)).setCells W.heap.size 0 (stCells x.A d)) := by
  have h1 : F3 x p q w0 v0 sn dl fi la n xs v (W.alloc (.cells Z 95)) := h.keep (gb_alloc W _ none) (fun k e => by cases e)
  have hn : W.heap.size ≠ x.ST := by have := h.st.lt; omega
  have hl := h.size
  have hb : (W.alloc (.cells Z 95)).heap[W.heap.size]? = some (.cells Z 95) := heap_alloc_new _ _
  refine ⟨h1.keep (gb_sets W.heap.size (stCells x.A d) 0 _) (fun k e => ?_), World.rangeAt_setCells_same _ _ _ _ ?_, ?_, hn, hl⟩
  · injection e with e
    subst e
    refine ⟨hl, hn, fun c t fr hc => ?_⟩
    rw [hb] at hc
    injection hc with hc
    injection hc with _ hc
    exact hc.symm
  · rw [stCells_length]
    exact there_new W Z 95 130 (by omega)
  · obtain ⟨c', h2, h3⟩ := block_sets W.heap.size (stCells x.A d) 0 _ _ hb
    exact ⟨c', h2, by omega⟩
theorem Marks.grew {m C : Nat} {Ds : List Nat} (h : Marks m Ds W) (g : Grew C W v W' v') (hC : ∃ c t fr, W.heap[C]? = some (.cells c t fr)) {base : Nat} (ho : W.ownsRow base 60 7 v n xs) : Marks m Ds W' := by
  refine ⟨h.1, fun D hD => ⟨(h.2 D hD).1, (g.block D (Array.getElem?_eq_some_iff.1 (h.2 D hD).2).1 (fun e => ?_) (fun e => ?_)).trans (h.2 D hD).2⟩⟩
  · obtain ⟨c, t, fr, hc⟩ := hC
    rw [← e, (h.2 D hD).2] at hc
    cases hc
  · obtain ⟨c, hc⟩ := own60_at ho e.symm
    rw [(h.2 D hD).2] at hc
    cases hc
theorem cells_of_cell {a : Addr} {u : Value} (h : W.cell? a = some u) : ∃ c t fr, W.heap[a.block]? = some (.cells c t fr) := by
  unfold World.cell? at h
  split at h
  · rename_i c t fr hc
    exact ⟨c, t, fr, hc⟩
  · cases h
end
end Go.Proofs.Ybulkfqak
