import Derived.Test.YbulkfqjoCBase
namespace Go.Proofs.Ybulkfqjo
open Go.RowKit

/-- a row of pointers, or nil -/
def PRow (w : World) (t : TypeId) (p : Option Addr) (n : Nat) (f : Nat → Nat) : Prop :=
  (p = none ∧ n = 0) ∨ ∃ b, p = some ⟨b, 0, none⟩ ∧ w.rowIs b t n (fun i => .pointer (some ⟨f i, 0, none⟩))

theorem PRow.get {w : World} {t : TypeId} {p : Option Addr} {n : Nat} {f : Nat → Nat} (h : PRow w t p n f) {i : Nat} (hi : i < n) : ∃ b, p = some ⟨b, 0, none⟩ ∧ w.cell? ⟨b, i, none⟩ = some (.pointer (some ⟨f i, 0, none⟩)) := by
  rcases h with ⟨_, h⟩ | ⟨b, h, hr⟩
  · omega
  · exact ⟨b, h, hr.cell hi⟩

/-- an order of block tags tells blocks apart -/
def Tag (w : World) (b : Nat) (t : TypeId) : Prop := ∃ cs, w.heap[b]? = some (.cells cs t)
theorem Tag.ne {w : World} {a b : Nat} {s t : TypeId} (h : Tag w a s) (k : Tag w b t) (e : s ≠ t) : a ≠ b := by
  rintro rfl
  obtain ⟨cs, h⟩ := h
  obtain ⟨ds, k⟩ := k
  rw [h] at k
  injection k with k
  injection k with _ k
  exact e k
theorem EndAt.tag {w : World} {b : Nat} {c : Bool} {ib : Value} (h : EndAt w b c ib) : Tag w b 92 := by obtain ⟨cs, h, _⟩ := h; exact ⟨cs, h⟩
theorem LinkAt.tag {w : World} {b e : Nat} {lk : Bool} (h : LinkAt w b e lk) : Tag w b 47 := by obtain ⟨cs, h, _⟩ := h; exact ⟨cs, h⟩
theorem NodeAt.tag {w : World} {b : Nat} {d : Bool} {lv : Value} (h : NodeAt w b d lv) : Tag w b 65 := by obtain ⟨cs, h, _⟩ := h; exact ⟨cs, h⟩
theorem SimAt.tag {w : World} {b : Nat} {np dv bv : Value} {e : Bool} (h : SimAt w b np e dv bv) : Tag w b 79 := by obtain ⟨cs, h, _⟩ := h; exact ⟨cs, h⟩
theorem rowTag {w : World} {b : Nat} {t : TypeId} {n : Nat} {f : Nat → Value} (h : w.rowIs b t n f) : Tag w b t := by obtain ⟨cs, h, _⟩ := h; exact ⟨cs, h⟩

theorem Chg.end {S : Nat → Prop} {w w' : World} {b : Nat} {c : Bool} {ib : Value} (k : Chg S w w') (h : EndAt w b c ib) (n : ¬ S b) : EndAt w' b c ib := h.of (k.block b h.lt n)
theorem Chg.link {S : Nat → Prop} {w w' : World} {b e : Nat} {lk : Bool} (k : Chg S w w') (h : LinkAt w b e lk) (n : ¬ S b) : LinkAt w' b e lk := h.of (k.block b h.lt n)
theorem Chg.node {S : Nat → Prop} {w w' : World} {b : Nat} {d : Bool} {lv : Value} (k : Chg S w w') (h : NodeAt w b d lv) (n : ¬ S b) : NodeAt w' b d lv := h.of (k.block b h.lt n)
theorem Chg.sim {S : Nat → Prop} {w w' : World} {b : Nat} {np dv bv : Value} {e : Bool} (k : Chg S w w') (h : SimAt w b np e dv bv) (n : ¬ S b) : SimAt w' b np e dv bv := h.of (k.block b h.lt n)
theorem Chg.row {S : Nat → Prop} {w w' : World} {b : Nat} {t : TypeId} {n : Nat} {f : Nat → Value} (k : Chg S w w') (h : w.rowIs b t n f) (e : ¬ S b) : w'.rowIs b t n f := h.of_block (k.block b h.lt e)
theorem Chg.prow {S : Nat → Prop} {w w' : World} {t : TypeId} {p : Option Addr} {n : Nat} {f : Nat → Nat} (k : Chg S w w') (h : PRow w t p n f) (e : ∀ b, Tag w b t → ¬ S b) : PRow w' t p n f := by
  rcases h with h | ⟨b, h, hr⟩
  · exact Or.inl h
  · exact Or.inr ⟨b, h, k.row hr (e b (rowTag hr))⟩

/-- what stands in the loop of 'closeAll' behind k rounds -/
structure CA (w0 : World) (N : Nat) (done : Bool) (p : Option Addr) (n : Nat) (lb eb : Nat → Nat) (lk cl : Nat → Bool) (ib : Nat → Value) (k : Nat) (w : World) : Prop where
  node : NodeAt w N done (.slice p n n)
  row : PRow w 27 p n lb
  links : ∀ i, i < n → LinkAt w (lb i) (eb i) (if i < k then false else lk i)
  ends : ∀ i, i < n → EndAt w (eb i) (if i < k then true else cl i) (if i < k then shut (cl i) (ib i) else ib i)
  chg : Chg (fun j => j = N ∨ (∃ i, i < n ∧ j = lb i) ∨ ∃ i, i < n ∧ j = eb i) w0 w
  size : w.heap.size = w0.heap.size

theorem shut_slice {c : Bool} {ib : Value} (h : ∃ a n cap, ib = .slice a n cap) : ∃ a n cap, shut c ib = .slice a n cap := by
  unfold shut; split
  · exact h
  · exact ⟨none, 0, 0, rfl⟩

theorem CA.step {w0 : World} {N : Nat} {done : Bool} {p : Option Addr} {n : Nat} {lb eb : Nat → Nat} {lk cl : Nat → Bool} {ib : Nat → Value} {k : Nat} {w w1 : World} (hk : k < n)
    (hinj : ∀ i j, i < n → j < n → eb i = eb j → i = j) (linj : ∀ i j, i < n → j < n → lb i = lb j → i = j)
    (h : CA w0 N done p n lb eb lk cl ib k w) (he : EndAt w1 (eb k) true (shut (cl k) (ib k))) (hc : Chg (fun j => j = eb k) (w.setCell ⟨lb k, 4, none⟩ (.bool false)) w1) (hz : w1.heap.size = w.heap.size) :
    CA w0 N done p n lb eb lk cl ib (k + 1) w1 := by
  have c0 : Chg (fun j => j = lb k) w (w.setCell ⟨lb k, 4, none⟩ (.bool false)) := chg_set (S := fun j => j = lb k) (Chg.refl _ _) (a := ⟨lb k, 4, none⟩) rfl _
  have c1 : Chg (fun j => j = lb k ∨ j = eb k) w w1 := (c0.mono fun _ h => Or.inl h).trans (hc.mono fun _ h => Or.inr h)
  have tl := (h.links k hk).tag
  have te := (h.ends k hk).tag
  refine ⟨c1.node h.node ?_, c1.prow h.row ?_, ?_, ?_, h.chg.trans (c1.mono ?_), hz.trans h.size⟩
  · rintro (e | e)
    · exact h.node.tag.ne tl (by decide) e
    · exact h.node.tag.ne te (by decide) e
  · rintro b tb (e | e)
    · exact tb.ne tl (by decide) e
    · exact tb.ne te (by decide) e
  · intro i hi
    by_cases e : i = k
    · subst e
      rw [if_pos (by omega)]
      have := h.links i hi
      obtain ⟨cs, h0, hs, h1, h4⟩ := this
      refine hc.link (b := lb i) (e := eb i) (lk := false) ⟨_, set_blk h0 4 _, by simpa using hs, ?_, ?_⟩ (tl.ne te (by decide))
      · rw [set_get (by omega), if_neg (by decide), h1]
      · rw [set_get (by omega), if_pos rfl]
    · have := h.links i hi
      simp only [show (i < k + 1) ↔ (i < k) by omega]
      refine c1.link this ?_
      rintro (e' | e')
      · exact e (linj _ _ hi hk e')
      · exact this.tag.ne te (by decide) e'
  · intro i hi
    by_cases e : i = k
    · subst e
      rw [if_pos (by omega), if_pos (by omega)]
      exact he
    · have := h.ends i hi
      simp only [show (i < k + 1) ↔ (i < k) by omega]
      refine c1.end this ?_
      rintro (e' | e')
      · exact this.tag.ne tl (by decide) e'
      · exact e (hinj _ _ hi hk e')
  · rintro j (e | e)
    · exact Or.inr (Or.inl ⟨k, hk, e⟩)
    · exact Or.inr (Or.inr ⟨k, hk, e⟩)

set_option maxRecDepth 100000 in
set_option maxHeartbeats 800000 in
theorem closeAll_any (N : Nat) (done : Bool) (p : Option Addr) (n : Nat) (lb eb : Nat → Nat) (lk cl : Nat → Bool) (ib : Nat → Value) (w : World)
    (hn : n ≤ 1048576) (hN : NodeAt w N done (.slice p n n)) (hp : PRow w 27 p n lb) (hl : ∀ i, i < n → LinkAt w (lb i) (eb i) (lk i)) (he : ∀ i, i < n → EndAt w (eb i) (cl i) (ib i))
    (hib : ∀ i, i < n → ∃ a m cap, ib i = .slice a m cap) (hinj : ∀ i j, i < n → j < n → eb i = eb j → i = j) (linj : ∀ i j, i < n → j < n → lb i = lb j → i = j) :
    Calls Yba.prog 9 #[.pointer (some ⟨N, 0, none⟩)] w fun e w' => e = .returned (.tuple #[]) ∧ NodeAt w' N done (.slice none 0 0) ∧
      (∀ i, i < n → LinkAt w' (lb i) (eb i) false) ∧ (∀ i, i < n → EndAt w' (eb i) true (shut (cl i) (ib i))) ∧
      Chg (fun j => j = N ∨ (∃ i, i < n ∧ j = lb i) ∨ ∃ i, i < n ∧ j = eb i) w w' ∧ Hid (w'.heap.size = w.heap.size) := by
  have H : Hid (CA w N done p n lb eb lk cl ib 0 w) := ⟨hN, hp, fun i hi => by simpa using hl i hi, fun i hi => by simpa using he i hi, Chg.refl _ _, rfl⟩
  have c13 : w.cell? ⟨N, 13, none⟩ = some (.slice p n n) := by obtain ⟨cs, h0, _, h, _⟩ := hN; exact (cell_blk h0 13).trans h
  clear hN hp hl he
  go_enter Yba.func9, Yba.ntmps9
  go_upto_region 1 with fail
  go_loopw [9] (fun s9 wr => ∃ k : Nat, s9 = .int .i64 (k : Int) ∧ k ≤ n ∧ Hid (CA w N done p n lb eb lk cl ib k wr)) (fun s9 _ => n - (intOf s9).toNat)
  case atStart => exact ⟨0, rfl, by omega, H⟩
  case round =>
    obtain ⟨k, rfl, hk, hr⟩ := hrel
    by_cases hlt : k < n
    · obtain ⟨b, rfl, cb⟩ := hr.out.row.get hlt
      have hL := hr.out.links k hlt
      have hE := hr.out.ends k hlt
      rw [if_neg (Nat.lt_irrefl k)] at hL hE
      rw [if_neg (Nat.lt_irrefl k)] at hE
      have f4 : wr.frozen? ⟨lb k, 4, none⟩ = false := by obtain ⟨cs, h0, _⟩ := hL; exact frozen_blk h0 4
      have hc4 : wr.cell? ⟨lb k, 4, none⟩ = some (.bool (lk k)) := by obtain ⟨cs, h0, _, _, h⟩ := hL; exact (cell_blk h0 4).trans h
      have hL' : Hid (LinkAt (wr.setCell ⟨lb k, 4, none⟩ (.bool false)) (lb k) (eb k) false) := by
        obtain ⟨cs, h0, hs, h1, h4⟩ := hL
        refine ⟨_, set_blk h0 4 _, by simpa using hs, ?_, ?_⟩
        · rw [set_get (by omega), if_neg (by decide), h1]
        · rw [set_get (by omega), if_pos rfl]
      have hE' : Hid (EndAt (wr.setCell ⟨lb k, 4, none⟩ (.bool false)) (eb k) (cl k) (ib k)) := (chg_set (S := fun j => j = lb k) (Chg.refl _ wr) (a := ⟨lb k, 4, none⟩) rfl _).end hE (hE.tag.ne hL.tag (by decide))
      clear hL hE
      have hlt' : (k : Int) < (n : Int) := by omega
      go_wp2_with fail
      refine (lclose_any (lb k) (eb k) false (cl k) (ib k) _ hL' hE' (hib k hlt)).mono ?_
      rintro e w1 ⟨rfl, he, hc, hz⟩
      have hS : Hid (CA w N done _ n lb eb lk cl ib (k + 1) w1) := hr.out.step hlt hinj linj he hc (by simpa using hz.out)
      clear he hc hr hL' hE'
      go_wp2_with fail
      go_roundw
      case rel => exact ⟨k + 1, by simp, by omega, hS⟩
      case measure => simp [intOf]; omega
    · obtain rfl : k = n := by omega
      have hN := hr.out.node
      obtain ⟨cs, h0, hs, h13, h18⟩ := hN
      have c13' : wr.cell? ⟨N, 13, none⟩ = some (.slice p k k) := (cell_blk h0 13).trans h13
      have f13 := frozen_blk h0 13
      have H0 : Hid (wr.heap[N]? = some (.cells cs 65) ∧ cs.size = 32 ∧ cs[18]? = some (.bool done)) := ⟨h0, hs, h18⟩
      clear h0 hs h13 h18
      have hlt' : ¬ (k : Int) < (k : Int) := by omega
      go_wp2_with fail
      go_end0
      obtain ⟨h0, hs, h18⟩ := H0.out
      have hcs : Chg (fun j => j = N) wr (wr.setCell ⟨N, 13, none⟩ (.slice none 0 0)) := chg_set (S := fun j => j = N) (Chg.refl _ _) (a := ⟨N, 13, none⟩) rfl _
      have tn := hr.out.node.tag
      refine ⟨rfl, ⟨_, set_blk h0 13 _, by simpa using hs, ?_, ?_⟩, fun i hi => ?_, fun i hi => ?_, hr.out.chg.trans (hcs.mono fun _ h => Or.inl h), ?_⟩
      · rw [set_get (by omega), if_pos rfl]
      · rw [set_get (by omega), if_neg (by decide), h18]
      · have := hr.out.links i hi
        rw [if_pos hi] at this
        exact hcs.link this (this.tag.ne tn (by decide))
      · have := hr.out.ends i hi
        rw [if_pos hi, if_pos hi] at this
        exact hcs.end this (this.tag.ne tn (by decide))
      · show _ = _
        simpa using hr.out.size
end Go.Proofs.Ybulkfqjo
