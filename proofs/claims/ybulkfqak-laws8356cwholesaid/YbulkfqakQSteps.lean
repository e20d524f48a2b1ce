import Derived.Test.YbulkfqakQFol
import Derived.Test.YbulkfqakQPush
namespace Go.Proofs.Ybulkfqak
open Go.RowKit

/-- the instructions as they lie -/
def InstsAt (w : World) (I N : Nat) (kd : Nat → Nat) : Prop := ∀ k, k < N → InstAt w I (k * 26) (opOf (kd k)) (decide (kd k = 3))
theorem cell_sb {w w' : World} {S : Nat} {x v : Value} {a : Addr} (k : Below w.heap.size (w.setCell ⟨S, 1, none⟩ x) w') (h : w.cell? a = some v) (hne : a.block ≠ S) : w'.cell? a = some v := by
  rw [k.cell (p := a) (World.block_lt_of_cell? w _ h), World.cell?_setCell_other _ _ _ _ (by intro e; rw [← e] at hne; exact hne rfl)]
  exact h
theorem InstAt.kept {w w' : World} {b o : Nat} {op : Int} {down : Bool} (h : InstAt w b o op down) (hk : ∀ j v, w.cell? ⟨b, j, none⟩ = some v → w'.cell? ⟨b, j, none⟩ = some v) : InstAt w' b o op down :=
  ⟨hk _ _ h.use, hk _ _ h.adv, hk _ _ h.op, hk _ _ h.dst, hk _ _ h.src, hk _ _ h.down⟩
theorem ArchAt.kept {w w' : World} {A : Nat} (h : ArchAt w A) (hk : ∀ j v, w.cell? ⟨A, j, none⟩ = some v → w'.cell? ⟨A, j, none⟩ = some v) : ArchAt w' A := ⟨hk _ _ h.1, hk _ _ h.2.1, hk _ _ h.2.2⟩
theorem Env.kept {w w' : World} {b7 b4 b5 b3 F I O C K nb N i lo hi : Nat} (h : Env w b7 b4 b5 b3 F I O C K nb N i lo hi)
    (k7 : ∀ j v, w.cell? ⟨b7, j, none⟩ = some v → w'.cell? ⟨b7, j, none⟩ = some v) (k4 : ∀ j v, w.cell? ⟨b4, j, none⟩ = some v → w'.cell? ⟨b4, j, none⟩ = some v) (k5 : ∀ j v, w.cell? ⟨b5, j, none⟩ = some v → w'.cell? ⟨b5, j, none⟩ = some v)
    (k3 : ∀ j v, w.cell? ⟨b3, j, none⟩ = some v → w'.cell? ⟨b3, j, none⟩ = some v) (kF : ∀ j v, w.cell? ⟨F, j, none⟩ = some v → w'.cell? ⟨F, j, none⟩ = some v) (kO : ∀ j v, w.cell? ⟨O, j, none⟩ = some v → w'.cell? ⟨O, j, none⟩ = some v)
    (kC : ∀ v, w.cell? ⟨C, 2, none⟩ = some v → w'.cell? ⟨C, 2, none⟩ = some v) (kK : ∀ j v, w.cell? ⟨K, j, none⟩ = some v → w'.cell? ⟨K, j, none⟩ = some v) : Env w' b7 b4 b5 b3 F I O C K nb N i lo hi :=
  ⟨k7 _ _ h.c7, k4 _ _ h.c4, k5 _ _ h.c5, k3 _ _ h.c3, kF _ _ h.cF, fun k hk => kO _ _ (h.cO k hk), kC _ h.cC, kK _ _ h.cK⟩
/-- the state that is stepped, and what lies apart from it -/
structure StepAt (w : World) (S A : Nat) (d : Int) : Prop where
  c0 : w.cell? ⟨S, 0, none⟩ = some (.pointer (some ⟨A, 0, none⟩))
  c1 : w.cell? ⟨S, 1, none⟩ = some (.int .i64 d)
  fr : w.frozen? ⟨S, 1, none⟩ = false
  arch : ArchAt w A

def JD (w : World) (S : Nat) (kd : Nat → Nat) (lo hi : Nat) (d : Int) (k : Nat) (W : World) : Prop :=
  ∃ dk : Int, runFrom kd lo (hi - lo) d = runFrom kd k (hi - k) dk ∧ d - 8 * ((k - lo : Nat) : Int) ≤ dk ∧ dk ≤ d + 8 * ((k - lo : Nat) : Int) ∧ Below w.heap.size (w.setCell ⟨S, 1, none⟩ (.int .i64 dk)) W
def JDx (w : World) (S : Nat) (kd : Nat → Nat) (lo hi : Nat) (d : Int) (_ : Nat) (W : World) : Prop :=
  (runFrom kd lo (hi - lo) d).2 = false ∧ ∃ dk : Int, Below w.heap.size (w.setCell ⟨S, 1, none⟩ (.int .i64 dk)) W

theorem setCell_twice (w : World) (b o : Nat) (x y : Value) : (w.setCell ⟨b, o, none⟩ x).setCell ⟨b, o, none⟩ y = w.setCell ⟨b, o, none⟩ y := by
  unfold World.setCell
  simp only
  congr 1
  apply Array.ext_getElem?
  intro i
  simp only [Array.getElem?_modify]
  split
  · cases w.heap[i]? with
    | none => rfl
    | some o =>
      simp only [Option.map_some]
      congr 1
      cases o <;> simp
  · rfl
theorem set_same {w : World} {b o : Nat} {v : Value} (h : w.cell? ⟨b, o, none⟩ = some v) : w.setCell ⟨b, o, none⟩ v = w := by
  unfold World.setCell
  have : w.heap.modify b (fun | .cells c elem frozen => .cells (if (none : Option Nat).isSome then c else c.setIfInBounds o v) elem frozen | o => o) = w.heap := by
    apply Array.ext_getElem?
    intro i
    rw [Array.getElem?_modify]
    split
    · rename_i e
      subst e
      cases hb : w.heap[b]? with
      | none => rfl
      | some ob =>
        simp only [World.cell?, hb] at h
        cases ob <;> simp at h ⊢
        rename_i c t fr
        apply Array.ext_getElem?
        intro j
        rw [Array.getElem?_setIfInBounds]
        split
        · rename_i e
          subst e
          split
          · exact h.symm
          · rename_i hlt
            rw [Array.getElem?_eq_none (by omega)] at h
            cases h
        · rfl
    · rfl
  exact congrArg (fun x : Array Obj => ({ w with heap := x } : World)) this

theorem step_kinds {w : World} {I k : Nat} {kd : Nat → Nat} {N : Nat} (h : InstsAt w I N kd) (hk : k < N) (hkd : kd k < 4) :
    (kd k = 0 ∧ InstAt w I (k * 26) 1 false) ∨ (kd k = 1 ∧ InstAt w I (k * 26) 10 false) ∨ (kd k = 2 ∧ InstAt w I (k * 26) 11 false) ∨ (kd k = 3 ∧ InstAt w I (k * 26) 0 true) := by
  have := h k hk
  have : kd k = 0 ∨ kd k = 1 ∨ kd k = 2 ∨ kd k = 3 := by omega
  rcases this with e | e | e | e <;> simp [e, opOf] at * <;> assumption

/-- 'steps' with what takes and keeps none -/
theorem steps_d (b7 b4 b5 b3 F I O C K nb N i lo hi S A : Nat) (kd : Nat → Nat) (d : Int) (w : World) (hi0 : i < nb) (hlh : lo ≤ hi) (hhN : hi ≤ N) (hN : N ≤ 65536) (hkd : ∀ k, kd k < 4)
    (hE : Env w b7 b4 b5 b3 F I O C K nb N i lo hi) (hI : InstsAt w I N kd) (hS : StepAt w S A d) (hd1 : -90000000000 ≤ d) (hd2 : d ≤ 90000000000)
    (n7 : b7 ≠ S) (n4 : b4 ≠ S) (n5 : b5 ≠ S) (n3 : b3 ≠ S) (nF : F ≠ S) (nO : O ≠ S) (nC : C ≠ S) (nK : K ≠ S) (nI : I ≠ S) (nA : A ≠ S) :
    Calls Yba.prog 15 #[.int .i64 (i : Int), .pointer (some ⟨S, 0, none⟩), .iface 97 (.agg #[]), .pointer (some ⟨b7, 0, none⟩), .pointer (some ⟨b4, 0, none⟩), .pointer (some ⟨b5, 0, none⟩), .pointer (some ⟨b3, 0, none⟩)] w fun e w' =>
      e = .returned (.bool (runFrom kd lo (hi - lo) d).2) ∧ ∃ dk, Below w.heap.size (w.setCell ⟨S, 1, none⟩ (.int .i64 dk)) w' ∧ ((runFrom kd lo (hi - lo) d).2 = true → dk = (runFrom kd lo (hi - lo) d).1) := by
  have hcell : ∀ {k : Nat} {W : World}, JD w S kd lo hi d k W → ∀ (a : Addr) v, w.cell? a = some v → a.block ≠ S → W.cell? a = some v := fun hJ a v h hne => by
    obtain ⟨dk, _, _, _, hb⟩ := hJ
    exact cell_sb hb h hne
  refine (steps_any b7 b4 b5 b3 F I O C K nb N i lo hi S (.iface 97 (.agg #[])) (JD w S kd lo hi d) (JDx w S kd lo hi d) hi0 hlh hhN hN ?_ ?_ ?_ w ?_).mono ?_
  · intro k W hJ
    have h := hcell hJ
    exact hE.kept (fun j v e => h ⟨b7, j, none⟩ v e n7) (fun j v e => h ⟨b4, j, none⟩ v e n4) (fun j v e => h ⟨b5, j, none⟩ v e n5) (fun j v e => h ⟨b3, j, none⟩ v e n3) (fun j v e => h ⟨F, j, none⟩ v e nF) (fun j v e => h ⟨O, j, none⟩ v e nO) (fun v e => h ⟨C, 2, none⟩ v e nC) (fun j v e => h ⟨K, j, none⟩ v e nK)
  · rintro k W m ⟨dk, h1, h2, h3, h4⟩
    exact ⟨dk, h1, h2, h3, below_drewN h4 m⟩
  · intro k W hlk hkh hJ
    have h := hcell hJ
    obtain ⟨dk, r1, r2, r3, hb⟩ := hJ
    have hIW : InstsAt W I N kd := fun k' hk' => (hI k' hk').kept fun j v e => h ⟨I, j, none⟩ v e nI
    have hAW : ArchAt W A := hS.arch.kept fun j v e => h ⟨A, j, none⟩ v e nA
    have hSl : S < w.heap.size := World.block_lt_of_cell? w _ hS.c0
    have c0 : W.cell? ⟨S, 0, none⟩ = some (.pointer (some ⟨A, 0, none⟩)) := by
      rw [hb.cell (p := ⟨S, 0, none⟩) hSl, World.cell?_setCell_other _ _ _ _ (by simp)]; exact hS.c0
    have c1 : W.cell? ⟨S, 1, none⟩ = some (.int .i64 dk) := by
      rw [hb.cell (p := ⟨S, 1, none⟩) hSl]; exact World.cell?_setCell_same' _ _ _ (by rw [hS.c1]; rfl)
    have fr : W.frozen? ⟨S, 1, none⟩ = false := by
      rw [hb.frozen (p := ⟨S, 1, none⟩) hSl, World.frozen?_setCell]; exact hS.fr
    have hz : w.heap.size ≤ W.heap.size := by have := hb.size; simpa using this
    have hrun : runFrom kd k (hi - k) dk = if kd k = 1 then runFrom kd (k + 1) (hi - (k + 1)) (dk + 8) else if kd k = 2 then runFrom kd (k + 1) (hi - (k + 1)) (dk - 8) else if kd k = 3 then (dk, false) else runFrom kd (k + 1) (hi - (k + 1)) dk := by
      rw [show hi - k = (hi - (k + 1)) + 1 by omega]
      rfl
    have hkl : (((k + 1 - lo : Nat) : Int)) = ((k - lo : Nat) : Int) + 1 := by omega
    have hkb : ((k - lo : Nat) : Int) ≤ 65536 := by omega
    rcases step_kinds hIW (by omega) (hkd k) with ⟨e, hi'⟩ | ⟨e, hi'⟩ | ⟨e, hi'⟩ | ⟨e, hi'⟩
    · refine (step_cmp S I (k * 26) _ _ W hi').mono ?_
      rintro e' w' ⟨rfl, m, rfl⟩
      refine ⟨true, rfl, Or.inl ⟨rfl, dk, ?_, by omega, by omega, below_drewN hb m⟩⟩
      rw [r1, hrun, if_neg (by omega), if_neg (by omega), if_neg (by omega)]
    · refine (push_d S A I (k * 26) _ dk W hi' c0 c1 fr hAW nA (by omega) (by omega)).mono ?_
      rintro e' w' ⟨rfl, hw⟩
      refine ⟨true, rfl, Or.inl ⟨rfl, dk + 8, ?_, by omega, by omega, ?_⟩⟩
      · rw [r1, hrun, if_pos e]
      · have := Below.set_both hb ⟨S, 1, none⟩ (.int .i64 (dk + 8))
        rw [setCell_twice] at this
        exact this.trans (hw.mono hz)
    · refine (pop_d S A I (k * 26) _ dk W hi' c0 c1 fr hAW nI (by omega) (by omega)).mono ?_
      rintro e' w' ⟨rfl, hw⟩
      refine ⟨true, rfl, Or.inl ⟨rfl, dk - 8, ?_, by omega, by omega, ?_⟩⟩
      · rw [r1, hrun, if_neg (by omega), if_pos e]
      · have := Below.set_both hb ⟨S, 1, none⟩ (.int .i64 (dk - 8))
        rw [setCell_twice] at this
        exact this.trans (hw.mono hz)
    · refine (step_down S I (k * 26) _ 0 _ W hi').mono ?_
      rintro e' w' ⟨rfl, m, rfl⟩
      refine ⟨false, rfl, Or.inr ⟨rfl, ?_, dk, below_drewN hb m⟩⟩
      rw [r1, hrun, if_neg (by omega), if_neg (by omega), if_pos e]
  · refine ⟨d, rfl, by omega, by omega, ?_⟩
    rw [set_same hS.c1]
    exact Below.refl _ _
  · rintro e w' ⟨r, rfl, hp⟩
    rcases hp.out with ⟨rfl, dk, h1, _, _, hb⟩ | ⟨rfl, k, _, _, h1, dk, hb⟩
    · rw [show hi - hi = 0 by omega] at h1
      have h1' : runFrom kd lo (hi - lo) d = (dk, true) := h1
      rw [h1']
      exact ⟨rfl, dk, hb, fun _ => rfl⟩
    · refine ⟨by rw [h1], dk, hb, fun e => ?_⟩
      rw [h1] at e
      cases e

/-- the readings and writings of a block's instructions, laid out -/
def accFrom (kd : Nat → Nat) : Nat → Nat → Int → List Value
  | _, 0, _ => []
  | k, c + 1, d => if kd k = 1 then accCells ((3 * k : Nat) : Int) 2 (-8 - (d + 8)) (-8 - (d + 8) + 8) true ++ accFrom kd (k + 1) c (d + 8)
    else if kd k = 2 then accCells ((3 * k : Nat) : Int) 1 (-8 - d) (-8 - d + 8) false ++ accFrom kd (k + 1) c (d - 8)
    else if kd k = 3 then [] else accFrom kd (k + 1) c d
/-- how many they are -/
def accNum (kd : Nat → Nat) : Nat → Nat → Nat
  | _, 0 => 0
  | k, c + 1 => if kd k = 1 then accNum kd (k + 1) c + 1 else if kd k = 2 then accNum kd (k + 1) c + 1 else if kd k = 3 then 0 else accNum kd (k + 1) c
theorem accNum_le (kd : Nat → Nat) : ∀ (c k : Nat), accNum kd k c ≤ c
  | 0, _ => Nat.le_refl _
  | c + 1, k => by
    have := accNum_le kd c (k + 1)
    unfold accNum
    split
    · omega
    · split
      · omega
      · split <;> omega

def JC (w : World) (S C base n : Nat) (xs : List Value) (v : Value) (kd : Nat → Nat) (lo hi : Nat) (d : Int) (k : Nat) (W : World) : Prop :=
  ∃ (dk : Int) (m : Nat) (ys : List Value) (v' : Value), accFrom kd lo (hi - lo) d = ys ++ accFrom kd k (hi - k) dk ∧ accNum kd lo (hi - lo) = m + accNum kd k (hi - k) ∧ m ≤ k - lo ∧ d - 8 * ((k - lo : Nat) : Int) ≤ dk ∧ dk ≤ d + 8 * ((k - lo : Nat) : Int) ∧
    Acc W C base (n + m) (xs ++ ys) v' ∧ Grew C (w.setCell ⟨S, 1, none⟩ (.int .i64 dk)) v W v'
def JCx (w : World) (S C base n : Nat) (xs : List Value) (v : Value) (kd : Nat → Nat) (lo hi : Nat) (d : Int) (_ : Nat) (W : World) : Prop :=
  ∃ (dk : Int) (v' : Value), Acc W C base (n + accNum kd lo (hi - lo)) (xs ++ accFrom kd lo (hi - lo) d) v' ∧ Grew C (w.setCell ⟨S, 1, none⟩ (.int .i64 dk)) v W v'

theorem Grew.cell {C : Nat} {w w' : World} {v v' u : Value} (h : Grew C w v w' v') {a : Addr} (hc : w.cell? a = some u) (h1 : a.block ≠ C) (h2 : some a.block ≠ v.ownBlock) : w'.cell? a = some u :=
  (World.cell?_of_block (h.block _ (World.block_lt_of_cell? w _ hc) h1 h2)).trans hc
theorem Grew.drewN {C : Nat} {w w' : World} {v v' : Value} (h : Grew C w v w' v') (m : Nat) : Grew C w v (w'.drewN m) v' := ⟨h.os, h.tape, h.output, h.size, h.block, h.code, h.at'⟩
theorem Acc.drewN {w : World} {C base n : Nat} {xs : List Value} {v : Value} (h : Acc w C base n xs v) (m : Nat) : Acc (w.drewN m) C base n xs v := ⟨h.cell, h.fr, h.own, h.lt, h.ble⟩

/-- 'steps' with the code itself to take the readings and writings -/
theorem steps_c (b7 b4 b5 b3 F I O C K nb N i lo hi S A base n : Nat) (xs : List Value) (v : Value) (kd : Nat → Nat) (d : Int) (w : World) (hi0 : i < nb) (hlh : lo ≤ hi) (hhN : hi ≤ N) (hN : N ≤ 65536) (hkd : ∀ k, kd k < 4)
    (hE : Env w b7 b4 b5 b3 F I O C K nb N i lo hi) (hI : InstsAt w I N kd) (hS : StepAt w S A d) (hd1 : -90000000000 ≤ d) (hd2 : d ≤ 90000000000) (hA : Acc w C base n xs v) (hn : n ≤ 900000)
    (n7 : b7 ≠ S) (n4 : b4 ≠ S) (n5 : b5 ≠ S) (n3 : b3 ≠ S) (nF : F ≠ S) (nO : O ≠ S) (nC : C ≠ S) (nK : K ≠ S) (nI : I ≠ S) (nA : A ≠ S)
    (m7 : b7 ≠ C) (m4 : b4 ≠ C) (m5 : b5 ≠ C) (m3 : b3 ≠ C) (mF : F ≠ C) (mO : O ≠ C) (mK : K ≠ C) (mI : I ≠ C) (mA : A ≠ C)
    (r7 : some b7 ≠ v.ownBlock) (r4 : some b4 ≠ v.ownBlock) (r5 : some b5 ≠ v.ownBlock) (r3 : some b3 ≠ v.ownBlock) (rF : some F ≠ v.ownBlock) (rO : some O ≠ v.ownBlock) (rK : some K ≠ v.ownBlock) (rI : some I ≠ v.ownBlock) (rA : some A ≠ v.ownBlock) (rS : some S ≠ v.ownBlock) :
    Calls Yba.prog 15 #[.int .i64 (i : Int), .pointer (some ⟨S, 0, none⟩), .iface 66 (.pointer (some ⟨C, 0, none⟩)), .pointer (some ⟨b7, 0, none⟩), .pointer (some ⟨b4, 0, none⟩), .pointer (some ⟨b5, 0, none⟩), .pointer (some ⟨b3, 0, none⟩)] w fun e w' =>
      ∃ r, e = .returned (.bool r) ∧ Hid (∃ (dk : Int) (v' : Value), Acc w' C base (n + accNum kd lo (hi - lo)) (xs ++ accFrom kd lo (hi - lo) d) v' ∧ Grew C (w.setCell ⟨S, 1, none⟩ (.int .i64 dk)) v w' v') := by
  have hcell : ∀ {k : Nat} {W : World}, JC w S C base n xs v kd lo hi d k W → ∀ (a : Addr) u, w.cell? a = some u → a.block ≠ S → a.block ≠ C → some a.block ≠ v.ownBlock → W.cell? a = some u := fun hJ a u h h1 h2 h3 => by
    obtain ⟨dk, m, ys, v', _, _, _, _, _, _, hg⟩ := hJ
    exact hg.cell (by rw [World.cell?_setCell_other _ _ _ _ (by intro e; rw [← e] at h1; exact h1 rfl)]; exact h) h2 h3
  refine (steps_any b7 b4 b5 b3 F I O C K nb N i lo hi S (.iface 66 (.pointer (some ⟨C, 0, none⟩))) (JC w S C base n xs v kd lo hi d) (JCx w S C base n xs v kd lo hi d) hi0 hlh hhN hN ?_ ?_ ?_ w ?_).mono ?_
  · intro k W hJ
    have h := hcell hJ
    refine hE.kept (fun j v e => h ⟨b7, j, none⟩ v e n7 m7 r7) (fun j v e => h ⟨b4, j, none⟩ v e n4 m4 r4) (fun j v e => h ⟨b5, j, none⟩ v e n5 m5 r5) (fun j v e => h ⟨b3, j, none⟩ v e n3 m3 r3) (fun j v e => h ⟨F, j, none⟩ v e nF mF rF) (fun j v e => h ⟨O, j, none⟩ v e nO mO rO) (fun u e => ?_) (fun j v e => h ⟨K, j, none⟩ v e nK mK rK)
    obtain ⟨dk, m, ys, v', _, _, _, _, _, _, hg⟩ := hJ
    rw [hg.code 2 (by omega), World.cell?_setCell_other _ _ _ _ (by intro e; injection e with e1 e2; exact nC e1.symm)]
    exact e
  · rintro k W j ⟨dk, m, ys, v', h1, h2, h3, h4, h5, h6, h7⟩
    exact ⟨dk, m, ys, v', h1, h2, h3, h4, h5, h6.drewN j, h7.drewN j⟩
  · intro k W hlk hkh hJ
    have h := hcell hJ
    obtain ⟨dk, m, ys, v', r1, r2, hm, r4', r5', hAW', hg⟩ := hJ
    have hIW : InstsAt W I N kd := fun k' hk' => (hI k' hk').kept fun j v e => h ⟨I, j, none⟩ v e nI mI rI
    have hAW : ArchAt W A := hS.arch.kept fun j v e => h ⟨A, j, none⟩ v e nA mA rA
    have hSl : S < w.heap.size := World.block_lt_of_cell? w _ hS.c0
    have hIl : I < w.heap.size := World.block_lt_of_cell? w _ (hI k (by omega)).use
    have c0 : W.cell? ⟨S, 0, none⟩ = some (.pointer (some ⟨A, 0, none⟩)) :=
      hg.cell (by rw [World.cell?_setCell_other _ _ _ _ (by simp)]; exact hS.c0) (fun e => nC e.symm) rS
    have c1 : W.cell? ⟨S, 1, none⟩ = some (.int .i64 dk) :=
      hg.cell (World.cell?_setCell_same' _ _ _ (by rw [hS.c1]; rfl)) (fun e => nC e.symm) rS
    have fr : W.frozen? ⟨S, 1, none⟩ = false := by
      rw [World.frozen?_of_block (hg.block S (by simpa using hSl) (fun e => nC e.symm) rS), World.frozen?_setCell]; exact hS.fr
    have far : ∀ j, j < w.heap.size → some j ≠ v.ownBlock → some j ≠ v'.ownBlock := fun j hj hv => by
      rcases hg.at' with e | ⟨g, e, hgl⟩
      · rw [e]; exact hv
      · rw [e]; intro q; injection q with q; simp at hgl; omega
    have hkl : (((k + 1 - lo : Nat) : Int)) = ((k - lo : Nat) : Int) + 1 := by omega
    have hkb : ((k - lo : Nat) : Int) ≤ 65536 := by omega
    have hrun : accFrom kd k (hi - k) dk = if kd k = 1 then accCells ((3 * k : Nat) : Int) 2 (-8 - (dk + 8)) (-8 - (dk + 8) + 8) true ++ accFrom kd (k + 1) (hi - (k + 1)) (dk + 8) else if kd k = 2 then accCells ((3 * k : Nat) : Int) 1 (-8 - dk) (-8 - dk + 8) false ++ accFrom kd (k + 1) (hi - (k + 1)) (dk - 8) else if kd k = 3 then [] else accFrom kd (k + 1) (hi - (k + 1)) dk := by
      rw [show hi - k = (hi - (k + 1)) + 1 by omega]
      rfl
    have hnum : accNum kd k (hi - k) = if kd k = 1 then accNum kd (k + 1) (hi - (k + 1)) + 1 else if kd k = 2 then accNum kd (k + 1) (hi - (k + 1)) + 1 else if kd k = 3 then 0 else accNum kd (k + 1) (hi - (k + 1)) := by
      rw [show hi - k = (hi - (k + 1)) + 1 by omega]
      rfl
    rcases step_kinds hIW (by omega) (hkd k) with ⟨e, hi'⟩ | ⟨e, hi'⟩ | ⟨e, hi'⟩ | ⟨e, hi'⟩
    · rw [if_neg (by omega), if_neg (by omega), if_neg (by omega)] at hrun hnum
      refine (step_cmp S I (k * 26) _ _ W hi').mono ?_
      rintro e' w' ⟨rfl, j, rfl⟩
      exact ⟨true, rfl, Or.inl ⟨rfl, dk, m, ys, v', by rw [r1, hrun], by omega, by omega, by omega, by omega, hAW'.drewN j, hg.drewN j⟩⟩
    · rw [if_pos e] at hrun hnum
      refine (push_c S A C base (n + m) (xs ++ ys) v' I (k * 26) _ dk W hi' c0 c1 fr hAW nA hAW' (by omega) (fun e => nC e.symm) (far S hSl rS) (by omega) (by omega)).mono ?_
      rintro e' w' ⟨rfl, v2, ha2, hg2⟩
      refine ⟨true, rfl, Or.inl ⟨rfl, dk + 8, m + 1, ys ++ accCells ((3 * k : Nat) : Int) 2 (-8 - (dk + 8)) (-8 - (dk + 8) + 8) true, v2, by rw [r1, hrun, List.append_assoc], by omega, by omega, by omega, by omega, by rw [← List.append_assoc]; exact ha2, ?_⟩⟩
      have := hg.set (j := 1) (x := .int .i64 (dk + 8)) (S := S) (fun e => nC e.symm)
      rw [setCell_twice] at this
      exact this.trans hg2
    · rw [if_neg (by omega), if_pos e] at hrun hnum
      refine (pop_c S A C base (n + m) (xs ++ ys) v' I (k * 26) _ dk W hi' c0 c1 fr hAW nI hAW' (by omega) (fun e => nC e.symm) (far S hSl rS) mI (far I hIl rI) (by omega) (by omega)).mono ?_
      rintro e' w' ⟨rfl, v2, ha2, hg2⟩
      refine ⟨true, rfl, Or.inl ⟨rfl, dk - 8, m + 1, ys ++ accCells ((3 * k : Nat) : Int) 1 (-8 - dk) (-8 - dk + 8) false, v2, by rw [r1, hrun, List.append_assoc], by omega, by omega, by omega, by omega, by rw [← List.append_assoc]; exact ha2, ?_⟩⟩
      have := hg.set (j := 1) (x := .int .i64 (dk - 8)) (S := S) (fun e => nC e.symm)
      rw [setCell_twice] at this
      exact this.trans hg2
    · rw [if_neg (by omega), if_neg (by omega), if_pos e] at hrun hnum
      refine (step_down S I (k * 26) _ 0 _ W hi').mono ?_
      rintro e' w' ⟨rfl, j, rfl⟩
      refine ⟨false, rfl, Or.inr ⟨rfl, dk, v', ?_, hg.drewN j⟩⟩
      rw [r1, hrun, r2, hnum, List.append_nil]
      exact hAW'.drewN j
  · refine ⟨d, 0, [], v, rfl, by omega, by omega, by omega, by omega, by simpa using hA, ?_⟩
    rw [set_same hS.c1]
    exact Grew.of_below (Below.refl _ _) hA.clt
  · rintro e w' ⟨r, rfl, hp⟩
    refine ⟨r, rfl, ?_⟩
    rcases hp.out with ⟨rfl, dk, m, ys, v', h1, h2, _, _, _, h6, h7⟩ | ⟨rfl, k, _, _, dk, v', h6, h7⟩
    · rw [show hi - hi = 0 by omega] at h1 h2
      have h1' : accFrom kd lo (hi - lo) d = ys := by rw [h1]; simp [accFrom]
      have h2' : accNum kd lo (hi - lo) = m := h2
      rw [h1', h2']
      exact ⟨dk, v', h6, h7⟩
    · exact ⟨dk, v', h6, h7⟩
end Go.Proofs.Ybulkfqak
