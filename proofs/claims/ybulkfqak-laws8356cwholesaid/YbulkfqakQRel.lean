import Derived.Test.YbulkfqakQPlain
import Derived.Test.YbulkfqakQSteps
import Derived.Test.YbulkfqakQAgain
import Derived.Maps.AppendAt
namespace Go.Proofs.Ybulkfqak
open Go.RowKit

theorem row_ne {W : World} {b b' : Nat} {t t' : TypeId} {n n' : Nat} {f f' : Nat → Value} (h : W.rowIs b t n f) (h' : W.rowIs b' t' n' f') (ht : t ≠ t') : b ≠ b' := by
  intro e
  subst e
  obtain ⟨c, h1, _⟩ := h
  obtain ⟨c', h2, _⟩ := h'
  rw [h1] at h2
  injection h2 with h2
  injection h2 with _ h3
  exact ht h3
theorem row_grown {W W' : World} {row : Option Nat} {b : Nat} {t : TypeId} {n : Nat} {f : Nat → Value} (h : W.rowIs b t n f) (g : W.grownBy W' row) (hne : some b ≠ row) : W'.rowIs b t n f := h.of_block (g.block b h.lt hne)
theorem gb_set (W : World) (b o : Nat) (v : Value) : W.grownBy (W.setCell ⟨b, o, none⟩ v) (some b) :=
  ⟨rfl, rfl, rfl, by simp, fun k _ hk => Below.heap_setCell _ _ _ _ fun e => hk (by rw [e])⟩
theorem gb_trans {a b c : World} {row : Option Nat} (h : a.grownBy b row) (k : b.grownBy c row) : a.grownBy c row :=
  ⟨k.os.trans h.os, k.tape.trans h.tape, k.output.trans h.output, Nat.le_trans h.size k.size, fun i hi hr => (k.block i (Nat.lt_of_lt_of_le hi h.size) hr).trans (h.block i hi hr)⟩
theorem gb_sets (b : Nat) : ∀ (vs : List Value) (o : Nat) (W : World), W.grownBy (W.setCells b o vs) (some b)
  | [], _, _ => ⟨rfl, rfl, rfl, Nat.le_refl _, fun _ _ _ => rfl⟩
  | v :: r, o, W => gb_trans (gb_set W b o v) (gb_sets b r (o + 1) _)
theorem gb_below {W W' : World} (h : Below W.heap.size W W') (row : Option Nat) : W.grownBy W' row := ⟨h.os, h.tape, h.output, h.size, fun k hk _ => h.block k hk⟩
theorem block_sets (b : Nat) {t : TypeId} {fr : Nat × Nat} : ∀ (vs : List Value) (o : Nat) (W : World) (c : Array Value), W.heap[b]? = some (.cells c t fr) → ∃ c', (W.setCells b o vs).heap[b]? = some (.cells c' t fr) ∧ c'.size = c.size
  | [], _, W, c, h => ⟨c, h, rfl⟩
  | v :: r, o, W, c, h => by
    have h1 : (W.setCell ⟨b, o, none⟩ v).heap[b]? = some (.cells (c.setIfInBounds o v) t fr) := by simp [World.setCell, Array.getElem?_modify, h]
    obtain ⟨c', h2, h3⟩ := block_sets b r (o + 1) _ _ h1
    exact ⟨c', h2, by simpa using h3⟩

/-- a block's cells -/
def blkF {nb : Nat} (p : Prg nb) (q : Nat → Option Addr) (fi la : Nat → Int) (seen : Nat → Bool) (j : Nat) : Value :=
  match j % 11 with
  | 0 => .int .u32 ((3 * p.st (j / 11) : Nat) : Int)
  | 1 => .int .u32 ((3 * p.st (j / 11 + 1) : Nat) : Int)
  | 2 => .int .i32 (fi (j / 11))
  | 3 => .int .i32 (la (j / 11))
  | 4 => .int .i32 (nextInt (p.nxo (j / 11)))
  | 5 => .slice (q (j / 11)) (p.js (j / 11)).length (p.js (j / 11)).length
  | 6 => .int .u8 0
  | 7 => .bool (p.ind (j / 11))
  | 8 => .bool false
  | 9 => .bool (seen (j / 11))
  | _ => .slice none 0 0
section
variable {nb : Nat} (p : Prg nb) (q : Nat → Option Addr) (fi la : Nat → Int) (seen : Nat → Bool) (i : Nat)
theorem mod11 (i c : Nat) (hc : c < 11) : (i * 11 + c) % 11 = c := by omega
theorem div11 (i c : Nat) (hc : c < 11) : (i * 11 + c) / 11 = i := by omega
theorem blk0 : blkF p q fi la seen (i * 11) = .int .u32 ((3 * p.st i : Nat) : Int) := by unfold blkF; rw [show i * 11 % 11 = 0 by omega, show i * 11 / 11 = i by omega]; rfl
theorem blk1 : blkF p q fi la seen (i * 11 + 1) = .int .u32 ((3 * p.st (i + 1) : Nat) : Int) := by unfold blkF; rw [mod11 i 1 (by omega), div11 i 1 (by omega)]; rfl
theorem blk2 : blkF p q fi la seen (i * 11 + 2) = .int .i32 (fi i) := by unfold blkF; rw [mod11 i 2 (by omega), div11 i 2 (by omega)]; rfl
theorem blk3 : blkF p q fi la seen (i * 11 + 3) = .int .i32 (la i) := by unfold blkF; rw [mod11 i 3 (by omega), div11 i 3 (by omega)]; rfl
theorem blk4 : blkF p q fi la seen (i * 11 + 4) = .int .i32 (nextInt (p.nxo i)) := by unfold blkF; rw [mod11 i 4 (by omega), div11 i 4 (by omega)]; rfl
theorem blk5 : blkF p q fi la seen (i * 11 + 5) = .slice (q i) (p.js i).length (p.js i).length := by unfold blkF; rw [mod11 i 5 (by omega), div11 i 5 (by omega)]; rfl
theorem blk6 : blkF p q fi la seen (i * 11 + 6) = .int .u8 0 := by unfold blkF; rw [mod11 i 6 (by omega)]; rfl
theorem blk7 : blkF p q fi la seen (i * 11 + 7) = .bool (p.ind i) := by unfold blkF; rw [mod11 i 7 (by omega), div11 i 7 (by omega)]; rfl
theorem blk8 : blkF p q fi la seen (i * 11 + 8) = .bool false := by unfold blkF; rw [mod11 i 8 (by omega)]; rfl
theorem blk9 : blkF p q fi la seen (i * 11 + 9) = .bool (seen i) := by unfold blkF; rw [mod11 i 9 (by omega), div11 i 9 (by omega)]; rfl
theorem blk10 : blkF p q fi la seen (i * 11 + 10) = .slice none 0 0 := by unfold blkF; rw [mod11 i 10 (by omega)]; rfl
theorem blk_seen (x : Nat) (j : Nat) : (if j = x * 11 + 9 then Value.bool true else blkF p q fi la seen j) = blkF p q fi la (upd seen x true) j := by
  by_cases e : j = x * 11 + 9
  · rw [if_pos e, e, blk9, upd_same]
  · rw [if_neg e]
    unfold blkF
    split <;> try rfl
    rename_i h
    rw [upd_other _ _ (by omega)]
theorem blk_first (x : Nat) (v : Int) (j : Nat) : (if j = x * 11 + 2 then Value.int .i32 v else blkF p q fi la seen j) = blkF p q (upd fi x v) la seen j := by
  by_cases e : j = x * 11 + 2
  · rw [if_pos e, e, blk2, upd_same]
  · rw [if_neg e]
    unfold blkF
    split <;> try rfl
    rename_i h
    rw [upd_other _ _ (by omega)]
theorem blk_last (x : Nat) (v : Int) (j : Nat) : (if j = x * 11 + 3 then Value.int .i32 v else blkF p q fi la seen j) = blkF p q fi (upd la x v) seen j := by
  by_cases e : j = x * 11 + 3
  · rw [if_pos e, e, blk3, upd_same]
  · rw [if_neg e]
    unfold blkF
    split <;> try rfl
    rename_i h
    rw [upd_other _ _ (by omega)]
end

/-- where all lies in 'follow' -/
structure Cx where
  (b3 b4 b5 b6 b7 b11 b12 C I O A K F ST N base : Nat)
def codeF (A K nb : Nat) (v : Value) (j : Nat) : Value :=
  match j with
  | 0 => .pointer (some ⟨A, 0, none⟩)
  | 2 => .slice (some ⟨K, 0, none⟩) nb nb
  | 3 => v
  | _ => .slice none 0 0
/-- what lies when 'follow' is called -/
structure Ent (x : Cx) {nb : Nat} (p : Prg nb) (q : Nat → Option Addr) (fi la : Nat → Int) (v0 : Value) (n0 : Nat) (xs0 : List Value) (w0 : World) : Prop where
  rI : ∃ f, w0.rowIs x.I 46 (x.N * 26) f
  insts : InstsAt w0 x.I x.N p.kd
  rO : w0.rowIs x.O 40 x.N (fun k => .int .u32 ((3 * k : Nat) : Int))
  rA : ∃ n f, w0.rowIs x.A 65 n f
  arch : ArchAt w0 x.A
  rC : w0.rowIs x.C 70 5 (codeF x.A x.K nb v0)
  rK : w0.rowIs x.K 54 (nb * 11) (blkF p q fi la (fun _ => false))
  rJ : ∀ i, i < nb → (q i = none ∧ p.js i = []) ∨ ∃ g, q i = some ⟨g, 0, none⟩ ∧ (∃ f, w0.rowIs g 21 (p.js i).length f) ∧ ∀ j (h : j < (p.js i).length), w0.cell? ⟨g, j, none⟩ = some (.int .i32 ((((p.js i)[j]).1 : Nat) : Int))
  acc : Acc w0 x.C x.base n0 xs0 v0
  st0 : p.st 0 = 0
  mono : ∀ i, i < nb → p.st i ≤ p.st (i + 1)
  stN : p.st nb = x.N
  hN : x.N ≤ 65536
  hnb : nb ≤ 65536
  hnb0 : 0 < nb
  kd4 : ∀ k, p.kd k < 4
  jsl : ∀ i, i < nb → (p.js i).length ≤ 1048576
  hn0 : n0 ≤ 7
theorem Ent.st_le {x : Cx} {nb : Nat} {p : Prg nb} {q : Nat → Option Addr} {fi la : Nat → Int} {v0 : Value} {n0 : Nat} {xs0 : List Value} {w0 : World} (h : Ent x p q fi la v0 n0 xs0 w0) : ∀ k i, i + k = nb → p.st i ≤ x.N
  | 0, i, e => by rw [← h.stN, show i = nb by omega]; exact Nat.le_refl _
  | k + 1, i, e => Nat.le_trans (h.mono i (by omega)) (h.st_le k (i + 1) (by omega))

/-- the states -/
def StatesAt (W : World) (ST nb A : Nat) (kn : Nat → Bool) (dl : Nat → Int) : Prop :=
  (∃ c, W.heap[ST]? = some (.cells c 95 (0, 0)) ∧ c.size = nb * 130) ∧ ∀ i, i < nb → kn i = true → W.rangeAt ST (i * 130) (stCells A (dl i))
def encS (s : List Nat) : List Value := s.map fun (i : Nat) => Value.int .i32 (i : Int)

/-- what lies in the midst of 'follow': the stack, the marks, the known states -/
structure FAll (x : Cx) {nb : Nat} (p : Prg nb) (q : Nat → Option Addr) (fi la : Nat → Int) (w0 : World) (stk : List Nat) (sn kn : Nat → Bool) (dl : Nat → Int) (W : World) : Prop where
  fr : w0.grownBy W (some x.K)
  B3 : W.rowIs x.b3 66 1 (fun _ => .pointer (some ⟨x.C, 0, none⟩))
  B4 : W.rowIs x.b4 34 1 (fun _ => .slice (some ⟨x.I, 0, none⟩) x.N x.N)
  B5 : W.rowIs x.b5 35 1 (fun _ => .slice (some ⟨x.O, 0, none⟩) x.N x.N)
  B6 : ∃ f, W.rowIs x.b6 4 1 f
  B7 : W.rowIs x.b7 33 1 (fun _ => .slice (some ⟨x.F, 0, none⟩) nb nb)
  B11 : W.rowIs x.b11 89 1 (fun _ => .slice (some ⟨x.ST, 0, none⟩) nb nb)
  rF : W.rowIs x.F 3 nb (fun i => .int .i64 ((p.st i : Nat) : Int))
  rK : W.rowIs x.K 54 (nb * 11) (blkF p q fi la sn)
  st : StatesAt W x.ST nb x.A kn dl
  wk : ∃ g cap, W.rowIs x.b12 48 1 (fun _ => .slice (some ⟨g, 0, none⟩) stk.length cap) ∧ W.ownsRow w0.heap.size 21 1 (.slice (some ⟨g, 0, none⟩) stk.length cap) stk.length (encS stk)
  new : w0.heap.size ≤ x.ST ∧ w0.heap.size ≤ x.b12 ∧ w0.heap.size ≤ x.b6

section
variable {x : Cx} {nb : Nat} {p : Prg nb} {q : Nat → Option Addr} {fi la : Nat → Int} {w0 : World} {stk : List Nat} {sn kn : Nat → Bool} {dl : Nat → Int} {W W' : World} {v0 : Value} {n0 : Nat} {xs0 : List Value}

theorem StatesAt.keep {ST nb A : Nat} (h : StatesAt W ST nb A kn dl) (e : W'.heap[ST]? = W.heap[ST]?) : StatesAt W' ST nb A kn dl := by
  obtain ⟨⟨c, h1, h2⟩, h3⟩ := h
  exact ⟨⟨c, e.trans h1, h2⟩, fun i hi hk j v hv => (World.cell?_of_block (a := ⟨ST, _, none⟩) e).trans (h3 i hi hk j v hv)⟩
theorem StatesAt.lt {ST nb A : Nat} (h : StatesAt W ST nb A kn dl) : ST < W.heap.size := by
  obtain ⟨⟨c, h1, _⟩, _⟩ := h
  exact (Array.getElem?_eq_some_iff.1 h1).1
theorem own21_keep {base n : Nat} {xs : List Value} {v : Value} (h : W.ownsRow base 21 1 v n xs) (hk : ∀ k, v.ownBlock = some k → W'.heap[k]? = W.heap[k]?) : W'.ownsRow base 21 1 v n xs := by
  refine ⟨h.1, ?_⟩
  rcases h.2 with hl | ⟨g, cap, cur, rfl, hb, hg, hr⟩
  · exact Or.inl hl
  · exact Or.inr ⟨g, cap, cur, rfl, hb, (hk g rfl).trans hg, hr⟩
theorem own21_at {base n g cap : Nat} {xs : List Value} (h : W.ownsRow base 21 1 (.slice (some ⟨g, 0, none⟩) n cap) n xs) : base ≤ g ∧ ∃ c, W.heap[g]? = some (.cells c 21 (0, 0)) ∧ c.size = cap ∧ n ≤ cap ∧ cap ≤ maxLen ∧ c.toList.take n = xs := by
  rcases h.2 with ⟨h1, _⟩ | ⟨g', cap', cur, h1, hb, hg, hr1, hr2, hr3, hr4⟩
  · cases h1
  · injection h1 with h1 h2 h3
    injection h1 with h1
    injection h1 with h1
    subst h1
    subst h3
    exact ⟨hb, cur, hg, by omega, hr1, hr2, by simpa using hr4⟩

/-- a turn of a state's block that is none of ours, or of what is no cells -/
theorem FAll.keep {row : Option Nat} (h : FAll x p q fi la w0 stk sn kn dl W) (g : W.grownBy W' row)
    (hr : ∀ k, row = some k → w0.heap.size ≤ k ∧ k ≠ x.ST ∧ ∀ c t fr, W.heap[k]? = some (.cells c t fr) → t = 95) : FAll x p q fi la w0 stk sn kn dl W' := by
  have ne : ∀ {b t n f}, W.rowIs b t n f → t ≠ 95 → some b ≠ row := fun hb ht e => by
    obtain ⟨c, h1, _⟩ := hb
    exact ht ((hr _ e.symm).2.2 _ _ _ h1)
  refine ⟨⟨g.os.trans h.fr.os, g.tape.trans h.fr.tape, g.output.trans h.fr.output, Nat.le_trans h.fr.size g.size, fun k hk hK => (g.block k (Nat.lt_of_lt_of_le hk h.fr.size) (fun e => ?_)).trans (h.fr.block k hk hK)⟩,
    row_grown h.B3 g (ne h.B3 (by decide)), row_grown h.B4 g (ne h.B4 (by decide)), row_grown h.B5 g (ne h.B5 (by decide)), ?_, row_grown h.B7 g (ne h.B7 (by decide)), row_grown h.B11 g (ne h.B11 (by decide)),
    row_grown h.rF g (ne h.rF (by decide)), row_grown h.rK g (ne h.rK (by decide)), h.st.keep (g.block _ h.st.lt (fun e => (hr _ e.symm).2.1 rfl)), ?_, h.new⟩
  · have := (hr k e.symm).1; omega
  · obtain ⟨f, h6⟩ := h.B6; exact ⟨f, row_grown h6 g (ne h6 (by decide))⟩
  · obtain ⟨gg, cap, h12, ho⟩ := h.wk
    refine ⟨gg, cap, row_grown h12 g (ne h12 (by decide)), own21_keep ho fun k hk => ?_⟩
    obtain rfl : gg = k := by simpa [Value.ownBlock] using hk
    obtain ⟨_, c, hc, _⟩ := own21_at ho
    refine g.block gg (Array.getElem?_eq_some_iff.1 hc).1 fun e => ?_
    have := (hr gg e.symm).2.2 _ _ _ hc
    cases this
theorem FAll.below (h : FAll x p q fi la w0 stk sn kn dl W) (g : Below W.heap.size W W') : FAll x p q fi la w0 stk sn kn dl W' := h.keep (gb_below g none) (fun k e => by cases e)

theorem FAll.setK {y : Nat} (h : FAll x p q fi la w0 stk sn kn dl W) : FAll x p q fi la w0 stk (upd sn y true) kn dl (W.setCell ⟨x.K, y * 11 + 9, none⟩ (.bool true)) := by
  have g := gb_set W x.K (y * 11 + 9) (.bool true)
  have ne : ∀ {b t n f}, W.rowIs b t n f → t ≠ 54 → some b ≠ some x.K := fun hb ht e => by injection e with e; exact row_ne hb h.rK ht e
  refine ⟨gb_trans h.fr g, row_grown h.B3 g (ne h.B3 (by decide)), row_grown h.B4 g (ne h.B4 (by decide)), row_grown h.B5 g (ne h.B5 (by decide)), ?_, row_grown h.B7 g (ne h.B7 (by decide)), row_grown h.B11 g (ne h.B11 (by decide)),
    row_grown h.rF g (ne h.rF (by decide)), (h.rK.set _ _).congr fun j _ => blk_seen p q fi la sn y j, h.st.keep (g.block _ h.st.lt (fun e => ?_)), ?_, h.new⟩
  · obtain ⟨f, h6⟩ := h.B6; exact ⟨f, row_grown h6 g (ne h6 (by decide))⟩
  · obtain ⟨⟨c, h1, _⟩, _⟩ := h.st
    injection e with e
    obtain ⟨c', h2, _⟩ := h.rK
    rw [← e, h1] at h2
    injection h2 with h2
    injection h2 with _ h2
    cases h2
  · obtain ⟨gg, cap, h12, ho⟩ := h.wk
    refine ⟨gg, cap, row_grown h12 g (ne h12 (by decide)), own21_keep ho fun k hk => ?_⟩
    obtain rfl : gg = k := by simpa [Value.ownBlock] using hk
    obtain ⟨_, c, hc, _⟩ := own21_at ho
    refine g.block gg (Array.getElem?_eq_some_iff.1 hc).1 fun e => ?_
    injection e with e
    obtain ⟨c', h2, _⟩ := h.rK
    rw [← e, hc] at h2
    injection h2 with h2
    injection h2 with _ h2
    cases h2

theorem states_there {ST nb A : Nat} (h : StatesAt W ST nb A kn dl) {i : Nat} (hi : i < nb) : W.there ST (i * 130) 130 := by
  obtain ⟨⟨c, h1, h2⟩, _⟩ := h
  intro j hj
  have : i * 130 + j < c.size := by omega
  simp [World.cell?, World.frozen?, h1, this]

theorem FAll.setST {y : Nat} {d : Int} (h : FAll x p q fi la w0 stk sn kn dl W) (hy : y < nb) : FAll x p q fi la w0 stk sn (upd kn y true) (upd dl y d) (W.setCells x.ST (y * 130) (stCells x.A d)) := by
  have g := gb_sets x.ST (stCells x.A d) (y * 130) W
  obtain ⟨⟨c0, hc0, hs0⟩, hst⟩ := h.st
  have ne : ∀ {b t n f}, W.rowIs b t n f → t ≠ 95 → some b ≠ some x.ST := fun hb ht e => by
    injection e with e
    obtain ⟨c', h2, _⟩ := hb
    rw [e, hc0] at h2
    injection h2 with h2
    injection h2 with _ h2
    exact ht h2.symm
  refine ⟨⟨g.os.trans h.fr.os, g.tape.trans h.fr.tape, g.output.trans h.fr.output, Nat.le_trans h.fr.size g.size, fun k hk hK => (g.block k (Nat.lt_of_lt_of_le hk h.fr.size) (fun e => ?_)).trans (h.fr.block k hk hK)⟩,
    row_grown h.B3 g (ne h.B3 (by decide)), row_grown h.B4 g (ne h.B4 (by decide)), row_grown h.B5 g (ne h.B5 (by decide)), ?_, row_grown h.B7 g (ne h.B7 (by decide)), row_grown h.B11 g (ne h.B11 (by decide)),
    row_grown h.rF g (ne h.rF (by decide)), row_grown h.rK g (ne h.rK (by decide)), ⟨?_, ?_⟩, ?_, h.new⟩
  · injection e with e; have := h.new.1; omega
  · obtain ⟨f, h6⟩ := h.B6; exact ⟨f, row_grown h6 g (ne h6 (by decide))⟩
  · obtain ⟨c', h1, h2⟩ := block_sets x.ST (stCells x.A d) (y * 130) W c0 hc0
    exact ⟨c', h1, by omega⟩
  · intro i hi hk
    by_cases e : i = y
    · subst e
      rw [upd_same]
      exact World.rangeAt_setCells_same _ _ _ _ (by rw [stCells_length]; exact states_there h.st hi)
    · rw [upd_other _ _ e] at hk ⊢
      refine World.rangeAt_setCells_apart (hst i hi hk) _ _ _ (Or.inr ?_)
      rw [stCells_length, stCells_length]
      omega
  · obtain ⟨gg, cap, h12, ho⟩ := h.wk
    refine ⟨gg, cap, row_grown h12 g (ne h12 (by decide)), own21_keep ho fun k hk => ?_⟩
    obtain rfl : gg = k := by simpa [Value.ownBlock] using hk
    obtain ⟨_, c, hc, _⟩ := own21_at ho
    refine g.block gg (Array.getElem?_eq_some_iff.1 hc).1 fun e => ?_
    injection e with e
    rw [e, hc0] at hc
    injection hc with hc
    injection hc with _ hc
    cases hc

/-- the stack's slice turned -/
theorem FAll.setWork {W1 : World} {g cap g' cap' : Nat} {stk' : List Nat} (h : FAll x p q fi la w0 stk sn kn dl W)
    (ho : W.ownsRow w0.heap.size 21 1 (.slice (some ⟨g, 0, none⟩) stk.length cap) stk.length (encS stk)) (gr : W.grownBy W1 (some g))
    (hown : W1.ownsRow w0.heap.size 21 1 (.slice (some ⟨g', 0, none⟩) stk'.length cap') stk'.length (encS stk')) :
    FAll x p q fi la w0 stk' sn kn dl (W1.setCell ⟨x.b12, 0, none⟩ (.slice (some ⟨g', 0, none⟩) stk'.length cap')) := by
  obtain ⟨hgl, cg, hcg, _⟩ := own21_at ho
  obtain ⟨g0, cap0, h12, _⟩ := h.wk
  have ne1 : ∀ {b t n f}, W.rowIs b t n f → t ≠ 21 → some b ≠ some g := fun hb ht e => by
    injection e with e
    obtain ⟨c', h2, _⟩ := hb
    rw [e, hcg] at h2
    injection h2 with h2
    injection h2 with _ h2
    exact ht h2.symm
  have h12' := row_grown h12 gr (ne1 h12 (by decide))
  have g2 := gb_set W1 x.b12 0 (.slice (some ⟨g', 0, none⟩) stk'.length cap')
  have mv : ∀ {b t n f}, W.rowIs b t n f → t ≠ 21 → t ≠ 48 → (W1.setCell ⟨x.b12, 0, none⟩ (.slice (some ⟨g', 0, none⟩) stk'.length cap')).rowIs b t n f := fun hb h1 h2 => by
    have := row_grown hb gr (ne1 hb h1)
    exact row_grown this g2 (fun e => by injection e with e; exact row_ne this h12' h2 e)
  refine ⟨?_, mv h.B3 (by decide) (by decide), mv h.B4 (by decide) (by decide), mv h.B5 (by decide) (by decide), ?_, mv h.B7 (by decide) (by decide), mv h.B11 (by decide) (by decide), mv h.rF (by decide) (by decide), mv h.rK (by decide) (by decide), ?_, ?_, h.new⟩
  · refine ⟨gr.os.trans h.fr.os, gr.tape.trans h.fr.tape, gr.output.trans h.fr.output, Nat.le_trans h.fr.size (Nat.le_trans gr.size g2.size), fun k hk hK => ?_⟩
    have := h.new.2.1
    rw [g2.block k (Nat.lt_of_lt_of_le hk (Nat.le_trans h.fr.size gr.size)) (fun e => by injection e with e; omega), gr.block k (Nat.lt_of_lt_of_le hk h.fr.size) (fun e => by injection e with e; omega)]
    exact h.fr.block k hk hK
  · obtain ⟨f, h6⟩ := h.B6; exact ⟨f, mv h6 (by decide) (by decide)⟩
  · obtain ⟨⟨cs, hcs, _⟩, _⟩ := h.st
    have e1 : x.ST ≠ g := fun e => by rw [e, hcg] at hcs; injection hcs with hcs; injection hcs with _ hcs; cases hcs
    have e2 : W1.heap[x.ST]? = W.heap[x.ST]? := gr.block _ h.st.lt (fun e => by injection e with e; exact e1 e)
    refine h.st.keep ((g2.block _ (Nat.lt_of_lt_of_le h.st.lt gr.size) (fun e => ?_)).trans e2)
    injection e with e
    obtain ⟨c', h2, _⟩ := h12'
    rw [← e, e2, hcs] at h2
    injection h2 with h2
    injection h2 with _ h2
    cases h2
  · refine ⟨g', cap', (h12'.set 0 _).congr fun j hj => ?_, own21_keep hown fun k hk => ?_⟩
    · rw [if_pos (by omega)]
    · obtain rfl : g' = k := by simpa [Value.ownBlock] using hk
      obtain ⟨_, c, hc, _⟩ := own21_at hown
      refine g2.block g' (Array.getElem?_eq_some_iff.1 hc).1 fun e => ?_
      injection e with e
      obtain ⟨c', h2, _⟩ := h12'
      rw [← e, hc] at h2
      injection h2 with h2
      injection h2 with _ h2
      cases h2

/-- the result's cell turned -/
theorem FAll.set6 {v : Value} (h : FAll x p q fi la w0 stk sn kn dl W) : FAll x p q fi la w0 stk sn kn dl (W.setCell ⟨x.b6, 0, none⟩ v) ∧ (W.setCell ⟨x.b6, 0, none⟩ v).rowIs x.b6 4 1 (fun _ => v) := by
  obtain ⟨f6, h6⟩ := h.B6
  have g := gb_set W x.b6 0 v
  have h6' : (W.setCell ⟨x.b6, 0, none⟩ v).rowIs x.b6 4 1 (fun _ => v) := (h6.set 0 v).congr fun j hj => by rw [if_pos (by omega)]
  have ne : ∀ {b t n f}, W.rowIs b t n f → t ≠ 4 → some b ≠ some x.b6 := fun hb ht e => by injection e with e; exact row_ne hb h6 ht e
  refine ⟨⟨⟨g.os.trans h.fr.os, g.tape.trans h.fr.tape, g.output.trans h.fr.output, Nat.le_trans h.fr.size g.size, fun k hk hK => (g.block k (Nat.lt_of_lt_of_le hk h.fr.size) (fun e => ?_)).trans (h.fr.block k hk hK)⟩,
    row_grown h.B3 g (ne h.B3 (by decide)), row_grown h.B4 g (ne h.B4 (by decide)), row_grown h.B5 g (ne h.B5 (by decide)), ⟨_, h6'⟩, row_grown h.B7 g (ne h.B7 (by decide)), row_grown h.B11 g (ne h.B11 (by decide)),
    row_grown h.rF g (ne h.rF (by decide)), row_grown h.rK g (ne h.rK (by decide)), h.st.keep (g.block _ h.st.lt (fun e => ?_)), ?_, h.new⟩, h6'⟩
  · injection e with e; have := h.new.2.2; omega
  · obtain ⟨⟨c, h1, _⟩, _⟩ := h.st
    injection e with e
    obtain ⟨c', h2, _⟩ := h6
    rw [← e, h1] at h2
    injection h2 with h2
    injection h2 with _ h2
    cases h2
  · obtain ⟨gg, cap, h12, ho⟩ := h.wk
    refine ⟨gg, cap, row_grown h12 g (ne h12 (by decide)), own21_keep ho fun k hk => ?_⟩
    obtain rfl : gg = k := by simpa [Value.ownBlock] using hk
    obtain ⟨_, c, hc, _⟩ := own21_at ho
    refine g.block gg (Array.getElem?_eq_some_iff.1 hc).1 fun e => ?_
    injection e with e
    obtain ⟨c', h2, _⟩ := h6
    rw [← e, hc] at h2
    injection h2 with h2
    injection h2 with _ h2
    cases h2

theorem FAll.old {b : Nat} {t : TypeId} {n : Nat} {f : Nat → Value} (h : FAll x p q fi la w0 stk sn kn dl W) (he : Ent x p q fi la v0 n0 xs0 w0) (hb : w0.rowIs b t n f) (ht : t ≠ 54) : W.rowIs b t n f :=
  row_grown hb h.fr (fun e => by injection e with e; exact row_ne hb he.rK ht e)
theorem FAll.oldC (h : FAll x p q fi la w0 stk sn kn dl W) (he : Ent x p q fi la v0 n0 xs0 w0) {b : Nat} {t : TypeId} {n : Nat} {f : Nat → Value} (hb : w0.rowIs b t n f) (ht : t ≠ 54) {j : Nat} {v : Value} (hv : w0.cell? ⟨b, j, none⟩ = some v) : W.cell? ⟨b, j, none⟩ = some v :=
  (World.cell?_of_block (h.fr.block b hb.lt (fun e => by injection e with e; exact row_ne hb he.rK ht e))).trans hv
theorem FAll.insts (h : FAll x p q fi la w0 stk sn kn dl W) (he : Ent x p q fi la v0 n0 xs0 w0) : InstsAt W x.I x.N p.kd := fun k hk => by
  obtain ⟨f, hf⟩ := he.rI
  exact (he.insts k hk).kept fun j v e => h.oldC he hf (by decide) e
theorem FAll.arch (h : FAll x p q fi la w0 stk sn kn dl W) (he : Ent x p q fi la v0 n0 xs0 w0) : ArchAt W x.A := by
  obtain ⟨n, f, hf⟩ := he.rA
  exact he.arch.kept fun j v e => h.oldC he hf (by decide) e
theorem FAll.env (h : FAll x p q fi la w0 stk sn kn dl W) (he : Ent x p q fi la v0 n0 xs0 w0) {i : Nat} (hi : i < nb) : Env W x.b7 x.b4 x.b5 x.b3 x.F x.I x.O x.C x.K nb x.N i (p.st i) (p.st (i + 1)) :=
  ⟨h.B7.cell (by omega), h.B4.cell (by omega), h.B5.cell (by omega), h.B3.cell (by omega), h.rF.cell hi, fun k hk => (h.old he he.rO (by decide)).cell hk, (h.old he he.rC (by decide)).cell (i := 2) (by omega), by
    rw [h.rK.cell (i := i * 11 + 1) (by omega), blk1]⟩
theorem FAll.succ (h : FAll x p q fi la w0 stk sn kn dl W) (he : Ent x p q fi la v0 n0 xs0 w0) {i Bn : Nat} (hi : i < nb) (hb : W.cell? ⟨Bn, 0, none⟩ = some (.pointer (some ⟨x.K, i * 11, none⟩))) : SuccAt Bn x.K (i * 11) (p.nxo i) (q i) (p.js i) W := by
  refine ⟨hb, by rw [h.rK.cell (i := i * 11 + 4) (by omega), blk4], by rw [h.rK.cell (i := i * 11 + 5) (by omega), blk5], ?_⟩
  rcases he.rJ i hi with e | ⟨g, e, ⟨f, hf⟩, hc⟩
  · exact Or.inl e
  · exact Or.inr ⟨g, e, fun j hj => h.oldC he hf (by decide) (hc j hj)⟩
end
end Go.Proofs.Ybulkfqak
