import Derived.Test.YbulkfqjoCGrow
namespace Go.Proofs.Ybulkfqjo
open Go.RowKit

/-- three groups of ends, no block twice -/
structure Grp (w : World) (M : Nat → Nat) (E : Nat → Nat → Nat) (C : Nat → Nat → Bool) (I : Nat → Nat → Value) : Prop where
  ends : ∀ g i, g < 3 → i < M g → EndAt w (E g i) (C g i) (I g i)
  box : ∀ g i, g < 3 → i < M g → ∃ a m cap, I g i = .slice a m cap
  inj : ∀ g i h j, g < 3 → h < 3 → i < M g → j < M h → E g i = E h j → g = h ∧ i = j

theorem Grp.chg {S : Nat → Prop} {w w' : World} {M : Nat → Nat} {E : Nat → Nat → Nat} {C : Nat → Nat → Bool} {I : Nat → Nat → Value} (h : Grp w M E C I) (k : Chg S w w') (hs : ∀ b, Tag w b 92 → ¬ S b) : Grp w' M E C I :=
  ⟨fun g i hg hi => k.end (h.ends g i hg hi) (hs _ (h.ends g i hg hi).tag), h.box, h.inj⟩

/-- the whole of a node in a simulation -/
structure Whole (w : World) (B N : Nat) (ended done : Bool) (lp dp bp : Option Addr) (M : Nat → Nat) (lb : Nat → Nat) (lk : Nat → Bool) (E : Nat → Nat → Nat) (C : Nat → Nat → Bool) (I : Nat → Nat → Value) : Prop where
  sim : SimAt w B (.pointer (some ⟨N, 0, none⟩)) ended (.slice dp (M 1) (M 1)) (.slice bp (M 2) (M 2))
  node : NodeAt w N done (.slice lp (M 0) (M 0))
  lrow : PRow w 27 lp (M 0) lb
  drow : PRow w 28 dp (M 1) (E 1)
  brow : PRow w 28 bp (M 2) (E 2)
  links : ∀ i, i < M 0 → LinkAt w (lb i) (E 0 i) (lk i)
  linj : ∀ i j, i < M 0 → j < M 0 → lb i = lb j → i = j
  grp : Grp w M E C I

/-- what may turn -/
def Mine (B N : Nat) (M : Nat → Nat) (lb : Nat → Nat) (E : Nat → Nat → Nat) (j : Nat) : Prop := j = B ∨ j = N ∨ (∃ i, i < M 0 ∧ j = lb i) ∨ ∃ g i, g < 3 ∧ i < M g ∧ j = E g i

/-- two rows as one -/
def flat {α : Type} (n : Nat) (f g : Nat → α) (t : Nat) : α := if t < n then f t else g (t - n)
theorem cat_get (F : Nat → Nat → Nat) (N : Nat → Nat) (t : Nat) (h : t < N 0 + N 1) : (catL F N 2)[t]? = some (.pointer (some ⟨flat (N 0) (F 0) (F 1) t, 0, none⟩)) := by
  simp only [catL, List.nil_append]
  by_cases ht : t < N 0
  · rw [List.getElem?_append_left (by rw [ptrs_length]; exact ht)]
    simp [ptrs, flat, ht]
  · rw [List.getElem?_append_right (by rw [ptrs_length]; omega), ptrs_length]
    simp [ptrs, flat, ht, show t - N 0 < N 1 by omega]

/-- a row of pointers in new memory, or nil -/
def ORow (w : World) (B : Nat) (p : Option Addr) (n : Nat) (f : Nat → Nat) : Prop :=
  (p = none ∧ n = 0) ∨ ∃ g, p = some ⟨g, 0, none⟩ ∧ B ≤ g ∧ ∀ t, t < n → w.cell? ⟨g, t, none⟩ = some (.pointer (some ⟨f t, 0, none⟩))

/-- what stands in the loop of 'exit' behind k rounds -/
structure CE (w0 : World) (n : Nat) (fe : Nat → Nat) (fc : Nat → Bool) (fi : Nat → Value) (k : Nat) (w : World) : Prop where
  ends : ∀ i, i < n → EndAt w (fe i) (if i < k then true else fc i) (if i < k then shut (fc i) (fi i) else fi i)
  chg : Chg (fun j => ∃ i, i < n ∧ j = fe i) w0 w

theorem CE.step {w0 : World} {n : Nat} {fe : Nat → Nat} {fc : Nat → Bool} {fi : Nat → Value} {k : Nat} {w w1 : World} (hk : k < n) (hinj : ∀ i j, i < n → j < n → fe i = fe j → i = j)
    (h : CE w0 n fe fc fi k w) (he : EndAt w1 (fe k) true (shut (fc k) (fi k))) (hc : Chg (fun j => j = fe k) w w1) : CE w0 n fe fc fi (k + 1) w1 := by
  refine ⟨fun i hi => ?_, h.chg.trans (hc.mono fun j e => ⟨k, hk, e⟩)⟩
  by_cases e : i = k
  · subst e
    rw [if_pos (by omega), if_pos (by omega)]
    exact he
  · simp only [show (i < k + 1) ↔ (i < k) by omega]
    exact hc.end (h.ends i hi) (fun e' => e (hinj _ _ hi hk e'))

theorem flatEnds {w : World} {M : Nat → Nat} {E : Nat → Nat → Nat} {C : Nat → Nat → Bool} {I : Nat → Nat → Value} (h : ∀ g i, 0 < g → g < 3 → i < M g → EndAt w (E g i) (C g i) (I g i)) :
    ∀ t, t < M 1 + M 2 → EndAt w (flat (M 1) (E 1) (E 2) t) (flat (M 1) (C 1) (C 2) t) (flat (M 1) (I 1) (I 2) t) := by
  intro t ht
  unfold flat
  split
  · exact h 1 t (by omega) (by omega) (by assumption)
  · exact h 2 (t - M 1) (by omega) (by omega) (by omega)
theorem flatInj {w : World} {M : Nat → Nat} {E : Nat → Nat → Nat} {C : Nat → Nat → Bool} {I : Nat → Nat → Value} (h : Grp w M E C I) :
    ∀ i j, i < M 1 + M 2 → j < M 1 + M 2 → flat (M 1) (E 1) (E 2) i = flat (M 1) (E 1) (E 2) j → i = j := by
  intro i j hi hj
  unfold flat
  split <;> split <;> intro e
  · exact (h.inj 1 _ 1 _ (by omega) (by omega) (by omega) (by omega) e).2
  · have := (h.inj 1 _ 2 _ (by omega) (by omega) (by omega) (by omega) e).1; omega
  · have := (h.inj 2 _ 1 _ (by omega) (by omega) (by omega) (by omega) e).1; omega
  · have := (h.inj 2 _ 2 _ (by omega) (by omega) (by omega) (by omega) e).2; omega
theorem flatBox {w : World} {M : Nat → Nat} {E : Nat → Nat → Nat} {C : Nat → Nat → Bool} {I : Nat → Nat → Value} (h : Grp w M E C I) :
    ∀ i, i < M 1 + M 2 → ∃ a m cap, flat (M 1) (I 1) (I 2) i = .slice a m cap := by
  intro t ht
  unfold flat
  split
  · exact h.box 1 t (by omega) (by assumption)
  · exact h.box 2 (t - M 1) (by omega) (by omega)

set_option maxRecDepth 100000 in
set_option maxHeartbeats 1600000 in
theorem exit_any (B N : Nat) (done : Bool) (lp dp bp : Option Addr) (M : Nat → Nat) (lb : Nat → Nat) (lk : Nat → Bool) (E : Nat → Nat → Nat) (C : Nat → Nat → Bool) (I : Nat → Nat → Value) (w : World)
    (hM : M 0 + M 1 + M 2 ≤ 1048576) (h : Whole w B N false done lp dp bp M lb lk E C I) :
    Calls Yba.prog 8 #[.pointer (some ⟨B, 0, none⟩)] w fun e w' => e = .returned (.tuple #[]) ∧ SimAt w' B (.pointer (some ⟨N, 0, none⟩)) true (.slice none 0 0) (.slice none 0 0) ∧ NodeAt w' N done (.slice none 0 0) ∧
      (∀ i, i < M 0 → LinkAt w' (lb i) (E 0 i) false) ∧ (∀ g i, g < 3 → i < M g → EndAt w' (E g i) true (shut (C g i) (I g i))) ∧ Chg (Mine B N M lb E) w w' := by
  have H : Hid (Whole w B N false done lp dp bp M lb lk E C I) := h
  obtain ⟨cs, h0, hs, h5, h25, h29, h30⟩ := h.sim
  have c5 := (cell_blk h0 5).trans h5
  have c25 := (cell_blk h0 25).trans h25
  have f25 := frozen_blk h0 25
  have HS : Hid (SimAt (w.setCell ⟨B, 25, none⟩ (.bool true)) B (.pointer (some ⟨N, 0, none⟩)) true (.slice dp (M 1) (M 1)) (.slice bp (M 2) (M 2))) := by
    refine ⟨_, set_blk h0 25 _, by simpa using hs, ?_, ?_, ?_, ?_⟩
    · rw [set_get (by omega), if_neg (by decide), h5]
    · rw [set_get (by omega), if_pos rfl]
    · rw [set_get (by omega), if_neg (by decide), h29]
    · rw [set_get (by omega), if_neg (by decide), h30]
  have k1 : Chg (fun j => j = B) w (w.setCell ⟨B, 25, none⟩ (.bool true)) := chg_set (S := fun j => j = B) (Chg.refl _ _) (a := ⟨B, 25, none⟩) rfl _
  have tB := h.sim.tag
  have hcl := closeAll_any N done lp (M 0) lb (E 0) lk (C 0) (I 0) (w.setCell ⟨B, 25, none⟩ (.bool true)) (by omega) (k1.node h.node (h.node.tag.ne tB (by decide))) (k1.prow h.lrow (fun b t => t.ne tB (by decide)))
    (fun i hi => k1.link (h.links i hi) ((h.links i hi).tag.ne tB (by decide))) (fun i hi => k1.end (h.grp.ends 0 i (by omega) hi) ((h.grp.ends 0 i (by omega) hi).tag.ne tB (by decide)))
    (fun i hi => h.grp.box 0 i (by omega) hi) (fun i j hi hj e => (h.grp.inj 0 i 0 j (by omega) (by omega) hi hj e).2) h.linj
  have K1 : Hid (Chg (fun j => j = B) w (w.setCell ⟨B, 25, none⟩ (.bool true))) := k1
  clear h h0 hs h5 h25 h29 h30 k1 tB
  go_enter Yba.func8, Yba.ntmps8
  go_wp2_with fail
  refine hcl.mono ?_
  rintro e w1 ⟨rfl, hn1, hl1, he1, k2, hz1⟩
  have kA : Chg (fun j => j = B ∨ j = N ∨ (∃ i, i < M 0 ∧ j = lb i) ∨ ∃ i, i < M 0 ∧ j = E 0 i) w w1 := (K1.out.mono fun j e => Or.inl e).trans (k2.mono fun j e => Or.inr e)
  have w0 := H.out
  have nl : ∀ (t : TypeId) b, Tag w b t → t ≠ 79 → t ≠ 65 → t ≠ 47 → t ≠ 92 → ¬ (b = B ∨ b = N ∨ (∃ i, i < M 0 ∧ b = lb i) ∨ ∃ i, i < M 0 ∧ b = E 0 i) := by
    rintro t b tb n1 n2 n3 n4 (e | e | ⟨i, hi, e⟩ | ⟨i, hi, e⟩)
    · exact tb.ne w0.sim.tag n1 e
    · exact tb.ne w0.node.tag n2 e
    · exact tb.ne (w0.links i hi).tag n3 e
    · exact tb.ne (w0.grp.ends 0 i (by omega) hi).tag n4 e
  have hs1 : SimAt w1 B (.pointer (some ⟨N, 0, none⟩)) true (.slice dp (M 1) (M 1)) (.slice bp (M 2) (M 2)) := by
    refine k2.sim HS ?_
    rintro (e | ⟨i, hi, e⟩ | ⟨i, hi, e⟩)
    · exact w0.sim.tag.ne w0.node.tag (by decide) e
    · exact w0.sim.tag.ne (w0.links i hi).tag (by decide) e
    · exact w0.sim.tag.ne (w0.grp.ends 0 i (by omega) hi).tag (by decide) e
  have hd1 : PRow w1 28 dp (M 1) (E 1) := kA.prow w0.drow (fun b t => nl 28 b t (by decide) (by decide) (by decide) (by decide))
  have hb1 : PRow w1 28 bp (M 2) (E 2) := kA.prow w0.brow (fun b t => nl 28 b t (by decide) (by decide) (by decide) (by decide))
  have ge1 : ∀ g i, 0 < g → g < 3 → i < M g → EndAt w1 (E g i) (C g i) (I g i) := by
    intro g i g0 hg hi
    have := w0.grp.ends g i hg hi
    refine kA.end this ?_
    rintro (e | e | ⟨j, hj, e⟩ | ⟨j, hj, e⟩)
    · exact this.tag.ne w0.sim.tag (by decide) e
    · exact this.tag.ne w0.node.tag (by decide) e
    · exact this.tag.ne (w0.links j hj).tag (by decide) e
    · have := (w0.grp.inj g i 0 j hg (by omega) hi hj e).1
      omega
  have kM : Chg (Mine B N M lb E) w w1 := kA.mono (by
    rintro j (e | e | e | ⟨i, hi, e⟩)
    · exact Or.inl e
    · exact Or.inr (Or.inl e)
    · exact Or.inr (Or.inr (Or.inl e))
    · exact Or.inr (Or.inr (Or.inr ⟨0, i, by omega, hi, e⟩)))
  have G : Hid (Grp w M E C I) := w0.grp
  have H1 : Hid (SimAt w1 B (.pointer (some ⟨N, 0, none⟩)) true (.slice dp (M 1) (M 1)) (.slice bp (M 2) (M 2)) ∧ NodeAt w1 N done (.slice none 0 0) ∧ (∀ i, i < M 0 → LinkAt w1 (lb i) (E 0 i) false) ∧
    (∀ i, i < M 0 → EndAt w1 (E 0 i) true (shut (C 0 i) (I 0 i))) ∧ (∀ g i, 0 < g → g < 3 → i < M g → EndAt w1 (E g i) (C g i) (I g i)) ∧ Chg (Mine B N M lb E) w w1) := ⟨hs1, hn1, hl1, he1, ge1, kM⟩
  obtain ⟨cs1, q0, _, q5, q25, q29, q30⟩ := hs1
  have d29 := (cell_blk q0 29).trans q29
  have d30 := (cell_blk q0 30).trans q30
  obtain ⟨T, hTe⟩ : ∃ T, T = M 1 + M 2 := ⟨_, rfl⟩
  have HC : Hid (∀ W, W = w1.drew.alloc (.cells #[.slice dp (M 1) (M 1), .slice bp (M 2) (M 2)] 23) → Calls Yba.prog 10 #[.slice (some ⟨w1.heap.size, 0, none⟩) 2 2] W fun e w' => ∃ ao cap, e = .returned (.slice ao T cap) ∧ Hid (ORow w' w1.heap.size ao T (flat (M 1) (E 1) (E 2))) ∧ Hid (Below w1.heap.size w1 w')) := by
    rintro W rfl
    rw [hTe]
    have kb : Below w1.heap.size w1 (w1.drew.alloc (.cells #[.slice dp (M 1) (M 1), .slice bp (M 2) (M 2)] 23)) := (Below.refl _ _).drew.alloc (by simp) _
    have kc : Chg (fun _ => False) w1 (w1.drew.alloc (.cells #[.slice dp (M 1) (M 1), .slice bp (M 2) (M 2)] 23)) := Below.chg kb
    refine (concat_any w1.heap.size (fun k => if k = 0 then dp else bp) (fun k => M (k + 1)) (fun k => E (k + 1)) _ (by simp; omega) ?_ ?_).mono ?_
    · intro k hk
      match k, hk with
      | 0, _ => exact World.cell?_alloc_at _ _ _ _ (by simp)
      | 1, _ => exact World.cell?_alloc_at _ _ _ _ (by simp)
    · intro k hk
      match k, hk with
      | 0, _ => exact kc.prow hd1 (fun _ _ h => h)
      | 1, _ => exact kc.prow hb1 (fun _ _ h => h)
    · rintro e w' ⟨v, rfl, ho, hb⟩
      simp only [Nat.zero_add] at ho
      have hbel : Below w1.heap.size w1 w' := kb.trans ⟨hb.os, hb.tape, hb.output, hb.size, fun k hk => hb.block k (by simp; omega)⟩
      have hcell : ∀ g, v.ownBlock = some g → ∀ t, t < M 1 + M 2 → w'.cell? ⟨g, t, none⟩ = some (.pointer (some ⟨flat (M 1) (E 1) (E 2) t, 0, none⟩)) := by
        intro g hg t ht
        have := ho.cells hg t _ (cat_get (fun k => E (k + 1)) (fun k => M (k + 1)) t ht)
        rwa [show (⟨g, 0, none⟩ : Addr).add t = ⟨g, t, none⟩ by unfold Addr.add; split <;> simp_all] at this
      rcases ho.2 with ⟨rfl, h0⟩ | ⟨g, cap, cur, rfl, hg, _⟩
      · exact ⟨none, 0, by rw [h0], Or.inl ⟨rfl, h0⟩, hbel⟩
      · exact ⟨_, cap, rfl, Or.inr ⟨g, rfl, by simp at hg; omega, hcell g rfl⟩, hbel⟩
  clear q0 q5 q25 q29 q30 kM kA nl w0 hd1 hb1 ge1 hn1 hl1 he1 k2 HS K1 hcl c5 c25 f25 H
  go_wp2_with fail
  go_region_with (go_at_call 10; refine (HC.out _ rfl).mono ?_; rintro e w2 ⟨ao, cap, rfl, hO, hB⟩)
  all_goals (
    obtain ⟨hs1, hn1, hl1, he1, ge1, kM⟩ := H1.out
    have kc : Chg (fun _ => False) w1 w2 := Below.chg hB.out
    have S2 : Hid (SimAt w2 B (.pointer (some ⟨N, 0, none⟩)) true (.slice dp (M 1) (M 1)) (.slice bp (M 2) (M 2)) ∧ NodeAt w2 N done (.slice none 0 0) ∧ (∀ i, i < M 0 → LinkAt w2 (lb i) (E 0 i) false) ∧
        (∀ i, i < M 0 → EndAt w2 (E 0 i) true (shut (C 0 i) (I 0 i))) ∧ Chg (Mine B N M lb E) w w2) :=
      ⟨kc.sim hs1 id, kc.node hn1 id, fun i hi => kc.link (hl1 i hi) id, fun i hi => kc.end (he1 i hi) id, kM.trans (kc.mono fun _ h => h.elim)⟩
    have fE1 := flatEnds ge1
    have C0 : Hid (CE w2 (M 1 + M 2) (flat (M 1) (E 1) (E 2)) (flat (M 1) (C 1) (C 2)) (flat (M 1) (I 1) (I 2)) 0 w2) := ⟨fun i hi => by simpa using kc.end (fE1 i hi) id, Chg.refl _ _⟩
    have FL : Hid (∀ i, i < M 1 + M 2 → flat (M 1) (E 1) (E 2) i < w1.heap.size) := fun i hi => (fE1 i hi).lt
    have hT : T ≤ 1048576 := by omega
    have FI : Hid (∀ i j, i < M 1 + M 2 → j < M 1 + M 2 → flat (M 1) (E 1) (E 2) i = flat (M 1) (E 1) (E 2) j → i = j) := flatInj G.out
    have FB : Hid (∀ i, i < M 1 + M 2 → ∃ a m cap, flat (M 1) (I 1) (I 2) i = .slice a m cap) := flatBox G.out
    clear hs1 hn1 hl1 he1 ge1 kM kc fE1 hB H1 d29 d30 HC
    rw [← hTe] at C0 FL FI FB
    generalize hfe : flat (M 1) (E 1) (E 2) = fe at hO C0 FL FI
    generalize hfc : flat (M 1) (C 1) (C 2) = fc at C0
    generalize hfi : flat (M 1) (I 1) (I 2) = fi at C0 FB
    go_upto_region 4 with fail
    go_simp
    go_loopw [28] (fun s28 wr => ∃ k : Nat, s28 = .int .i64 (k : Int) ∧ k ≤ T ∧ Hid (CE w2 T fe fc fi k wr)) (fun s28 _ => T - (intOf s28).toNat)
    case atStart => exact ⟨0, rfl, by omega, C0⟩
    case round =>
      obtain ⟨k, rfl, hk, hr⟩ := hrel
      by_cases hlt : k < T
      · have hc : ∃ g, ao = some ⟨g, 0, none⟩ ∧ wr.cell? ⟨g, k, none⟩ = some (.pointer (some ⟨fe k, 0, none⟩)) := by
          rcases hO.out with ⟨_, h⟩ | ⟨g, rfl, hg, hcell⟩
          · omega
          · refine ⟨g, rfl, (World.cell?_of_block (a := ⟨g, k, none⟩) (hr.out.chg.block g (World.block_lt_of_cell? _ _ (hcell k hlt)) ?_)).trans (hcell k hlt)⟩
            rintro ⟨i, hi, rfl⟩
            have := FL.out i hi
            omega
        obtain ⟨g, rfl, hc⟩ := hc
        have hE := hr.out.ends k hlt
        rw [if_neg (Nat.lt_irrefl k), if_neg (Nat.lt_irrefl k)] at hE
        have HE : Hid (EndAt wr (fe k) (fc k) (fi k)) := hE
        clear hE
        have hlt' : (k : Int) < (T : Int) := by omega
        go_wp2_with fail
        refine (close_any (fe k) (fc k) (fi k) wr HE (FB.out k hlt)).mono ?_
        rintro e w3 ⟨rfl, he3, hc3, hz3⟩
        have hS : Hid (CE w2 T fe fc fi (k + 1) w3) := hr.out.step hlt FI.out he3 hc3
        clear he3 hc3 hr HE
        go_wp2_with fail
        go_roundw
        case rel => exact ⟨k + 1, by simp, by omega, hS⟩
        case measure => simp [intOf]; omega
      · obtain rfl : k = T := by omega
        obtain ⟨hs2, hn2, hl2, he2, kM2⟩ := S2.out
        have te : ∀ b t, Tag w2 b t → t ≠ 92 → ¬ ∃ i, i < k ∧ b = fe i := by
          rintro b t tb ht ⟨i, hi, e⟩
          exact tb.ne (C0.out.ends i hi).tag ht e
        have hs3 := hr.out.chg.sim hs2 (te _ _ hs2.tag (by decide))
        have HS3 : Hid (SimAt wr B (.pointer (some ⟨N, 0, none⟩)) true (.slice dp (M 1) (M 1)) (.slice bp (M 2) (M 2))) := hs3
        obtain ⟨cs3, q0, qs, q5, q25, q29, q30⟩ := hs3
        have d29 := (cell_blk q0 29).trans q29
        have d30 := (cell_blk q0 30).trans q30
        have g29 := frozen_blk q0 29
        have g30 := frozen_blk q0 30
        have HQ : Hid (wr.heap[B]? = some (.cells cs3 79) ∧ cs3.size = 34 ∧ cs3[5]? = some (.pointer (some ⟨N, 0, none⟩)) ∧ cs3[25]? = some (.bool true)) := ⟨q0, qs, q5, q25⟩
        clear q0 qs q5 q25 q29 q30 hs2 hn2 hl2 he2 kM2 te
        have hlt' : ¬ (k : Int) < (k : Int) := by omega
        go_wp2_with fail
        go_end0
        obtain ⟨hs2, hn2, hl2, he2, kM2⟩ := S2.out
        obtain ⟨q0, qs, q5, q25⟩ := HQ.out
        have te : ∀ b t, Tag w2 b t → t ≠ 92 → ¬ ∃ i, i < k ∧ b = fe i := by
          rintro b t tb ht ⟨i, hi, e⟩
          exact tb.ne (C0.out.ends i hi).tag ht e
        have kk : Chg (fun j => j = B) wr ((wr.setCell ⟨B, 29, none⟩ (.slice none 0 0)).setCell ⟨B, 30, none⟩ (.slice none 0 0)) := chg_set (S := fun j => j = B) (chg_set (S := fun j => j = B) (Chg.refl _ _) (a := ⟨B, 29, none⟩) rfl _) (a := ⟨B, 30, none⟩) rfl _
        have tB := HS3.out.tag
        have hfin : ∀ t, t < k → EndAt wr (fe t) true (shut (fc t) (fi t)) := fun t ht => by
          have := hr.out.ends t ht
          rwa [if_pos ht, if_pos ht] at this
        refine ⟨rfl, ⟨_, set_blk (set_blk q0 29 _) 30 _, by simpa using qs, ?_, ?_, ?_, ?_⟩, ?_, ?_, ?_, ?_⟩
        · rw [set_get (by simp; omega), if_neg (by decide), set_get (by omega), if_neg (by decide), q5]
        · rw [set_get (by simp; omega), if_neg (by decide), set_get (by omega), if_neg (by decide), q25]
        · rw [set_get (by simp; omega), if_neg (by decide), set_get (by omega), if_pos rfl]
        · rw [set_get (by simp; omega), if_pos rfl]
        · have := hr.out.chg.node hn2 (te _ _ hn2.tag (by decide))
          exact kk.node this (this.tag.ne tB (by decide))
        · intro i hi
          have := hr.out.chg.link (hl2 i hi) (te _ _ (hl2 i hi).tag (by decide))
          exact kk.link this (this.tag.ne tB (by decide))
        · intro g i hg hi
          have h3 : EndAt wr (E g i) true (shut (C g i) (I g i)) := by
            match g, hg with
            | 0, _ =>
              refine hr.out.chg.end (he2 i hi) ?_
              rintro ⟨t, ht, e⟩
              rw [← hfe] at e
              unfold flat at e
              split at e
              · have := (G.out.inj 0 i 1 t (by omega) (by omega) hi (by assumption) e).1; omega
              · have := (G.out.inj 0 i 2 _ (by omega) (by omega) hi (by omega) e).1; omega
            | 1, _ =>
              have := hfin i (by omega)
              rw [← hfe, ← hfc, ← hfi] at this
              simpa [flat, hi] using this
            | 2, _ =>
              have := hfin (M 1 + i) (by omega)
              rw [← hfe, ← hfc, ← hfi] at this
              simpa [flat, show ¬ (M 1 + i < M 1) by omega] using this
          exact kk.end h3 (h3.tag.ne tB (by decide))
        · refine kM2.trans ((hr.out.chg.mono ?_).trans (kk.mono fun _ e => Or.inl e))
          rintro j ⟨t, ht, e⟩
          rw [← hfe] at e
          unfold flat at e
          split at e
          · exact Or.inr (Or.inr (Or.inr ⟨1, t, by omega, by assumption, e⟩))
          · exact Or.inr (Or.inr (Or.inr ⟨2, _, by omega, by omega, e⟩)))
end Go.Proofs.Ybulkfqjo
