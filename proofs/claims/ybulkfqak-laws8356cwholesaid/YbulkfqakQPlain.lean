import Derived.Test.YbulkfqakQSucc
import Derived.Test.YbulkfqakQSmall
namespace Go.Proofs.Ybulkfqak
open Go.RowKit

/-- the drawn code, as plain data -/
structure Prg (nb : Nat) where
  st : Nat → Nat
  kd : Nat → Nat
  ind : Nat → Bool
  nxo : Nat → Option (Bl nb)
  js : Nat → List (Bl nb)
def Prg.succ {nb : Nat} (p : Prg nb) (i : Nat) : List (Bl nb) := (p.nxo i).toList ++ p.js i
/-- the state of a walk over the blocks -/
structure St where
  stack : List Nat
  seen : Nat → Bool
  delta : Nat → Int
def upd {α : Type} (f : Nat → α) (x : Nat) (v : α) : Nat → α := fun i => if i = x then v else f i
theorem upd_same {α : Type} (f : Nat → α) (x : Nat) (v : α) : upd f x v x = v := by simp [upd]
theorem upd_other {α : Type} (f : Nat → α) {x y : Nat} (v : α) (h : y ≠ x) : upd f x v y = f y := by simp [upd, h]
def visit1 (d : Int) (s : St) (x : Nat) : St × Bool :=
  if s.seen x = false then ({ stack := s.stack ++ [x], seen := upd s.seen x true, delta := upd s.delta x d }, true)
  else if s.delta x = d then (s, true) else (s, false)
def visit {nb : Nat} (d : Int) (s : St) : List (Bl nb) → St × Bool
  | [] => (s, true)
  | x :: xs => if (visit1 d s x.1).2 = true then visit d (visit1 d s x.1).1 xs else ((visit1 d s x.1).1, false)
theorem visit_snoc {nb : Nat} (d : Int) (x : Bl nb) : ∀ (pre : List (Bl nb)) (s : St), (visit d s pre).2 = true → visit d s (pre ++ [x]) = visit1 d (visit d s pre).1 x.1
  | [], s, _ => by
    simp only [List.nil_append, visit]
    split
    · rename_i h; rw [← h]
    · rename_i h
      have h : (visit1 d s x.1).2 = false := by simpa using h
      rw [← h]
  | y :: ys, s, h => by
    simp only [List.cons_append, visit] at h ⊢
    split
    · rename_i e
      rw [if_pos e] at h
      exact visit_snoc d x ys _ h
    · rename_i e
      rw [if_neg e] at h
      cases h
theorem visit_stop {nb : Nat} (d : Int) (rest : List (Bl nb)) : ∀ (pre : List (Bl nb)) (s : St), (visit d s pre).2 = false → visit d s (pre ++ rest) = visit d s pre
  | [], s, h => by simp [visit] at h
  | y :: ys, s, h => by
    simp only [List.cons_append, visit] at h ⊢
    split
    · rename_i e
      rw [if_pos e] at h
      exact visit_stop d rest ys _ h
    · rfl
/-- a block's run -/
def Prg.run {nb : Nat} (p : Prg nb) (i : Nat) (d : Int) : Int × Bool := runFrom p.kd (p.st i) (p.st (i + 1) - p.st i) d
def Prg.step {nb : Nat} (p : Prg nb) (s : St) (i : Nat) : St × Bool :=
  if p.ind i = true then (s, false) else if (p.run i (s.delta i)).2 = false then (s, false) else visit (p.run i (s.delta i)).1 s (p.succ i)
inductive Done {nb : Nat} (p : Prg nb) : St → St → Bool → Prop
  | stop (s : St) : s.stack = [] → Done p s s true
  | bad (s : St) (l : List Nat) (i : Nat) (s' : St) : s.stack = l ++ [i] → p.step { s with stack := l } i = (s', false) → Done p s s' false
  | go (s : St) (l : List Nat) (i : Nat) (s' r : St) (b : Bool) : s.stack = l ++ [i] → p.step { s with stack := l } i = (s', true) → Done p s' r b → Done p s r b
theorem Done.det {nb : Nat} {p : Prg nb} {s r r' : St} {b b' : Bool} (h : Done p s r b) : Done p s r' b' → r = r' ∧ b = b' := by
  induction h with
  | stop s e =>
    intro k
    cases k with
    | stop _ _ => exact ⟨rfl, rfl⟩
    | bad _ l i _ e' _ => rw [e] at e'; simp at e'
    | go _ l i _ _ _ e' _ _ => rw [e] at e'; simp at e'
  | bad s l i s' e hs =>
    intro k
    cases k with
    | stop _ e' => rw [e] at e'; simp at e'
    | bad _ l' i' _ e' hs' =>
      rw [e] at e'
      obtain ⟨rfl, e2⟩ := List.append_inj' e' rfl
      obtain rfl : i = i' := by simpa using e2
      rw [hs] at hs'
      injection hs' with h1 h2
      exact ⟨h1, rfl⟩
    | go _ l' i' _ _ _ e' hs' _ =>
      rw [e] at e'
      obtain ⟨rfl, e2⟩ := List.append_inj' e' rfl
      obtain rfl : i = i' := by simpa using e2
      rw [hs] at hs'
      injection hs' with h1 h2
      cases h2
  | go s l i s' r b e hs _ ih =>
    intro k
    cases k with
    | stop _ e' => rw [e] at e'; simp at e'
    | bad _ l' i' _ e' hs' =>
      rw [e] at e'
      obtain ⟨rfl, e2⟩ := List.append_inj' e' rfl
      obtain rfl : i = i' := by simpa using e2
      rw [hs] at hs'
      injection hs' with h1 h2
      cases h2
    | go _ l' i' s2 _ _ e' hs' k' =>
      rw [e] at e'
      obtain ⟨rfl, e2⟩ := List.append_inj' e' rfl
      obtain rfl : i = i' := by simpa using e2
      rw [hs] at hs'
      injection hs' with h1 h2
      subst h1
      exact ih k'

/-- how many are not seen -/
def unseen (seen : Nat → Bool) : Nat → Nat
  | 0 => 0
  | n + 1 => unseen seen n + (if seen n = true then 0 else 1)
theorem unseen_far (seen : Nat → Bool) (x : Nat) : ∀ n, n ≤ x → unseen (upd seen x true) n = unseen seen n
  | 0, _ => rfl
  | n + 1, h => by
    unfold unseen
    rw [unseen_far seen x n (by omega), upd_other _ _ (by omega)]
theorem unseen_upd (seen : Nat → Bool) (x : Nat) (hx : seen x = false) : ∀ n, x < n → unseen (upd seen x true) n + 1 = unseen seen n
  | 0, h => by omega
  | n + 1, h => by
    unfold unseen
    by_cases e : x = n
    · subst e
      rw [unseen_far _ _ _ (Nat.le_refl _), upd_same]
      simp [hx]
    · have := unseen_upd seen x hx n (by omega)
      rw [upd_other _ _ (fun h => e h.symm)]
      omega
/-- what the walk keeps -/
structure Good (nb : Nat) (s : St) (t : Nat) : Prop where
  stk : ∀ x, x ∈ s.stack → x < nb ∧ s.seen x = true
  cnt : t + s.stack.length + unseen s.seen nb = nb
  bnd : ∀ x, x < nb → s.seen x = true → -(524288 * (t : Int)) ≤ s.delta x ∧ s.delta x ≤ 524288 * (t : Int)
theorem Good.pop {nb t i : Nat} {s : St} {l : List Nat} (h : Good nb s t) (e : s.stack = l ++ [i]) : Good nb { s with stack := l } (t + 1) := by
  refine ⟨fun x hx => h.stk x (by rw [e]; simp [hx]), ?_, fun x hx hs => ?_⟩
  · have := h.cnt
    rw [e] at this
    simp at this
    show t + 1 + l.length + unseen s.seen nb = nb
    omega
  · have := h.bnd x hx hs
    refine ⟨?_, ?_⟩
    · show _ ≤ s.delta x
      omega
    · show s.delta x ≤ _
      omega
theorem Good.visit1 {nb t : Nat} {s : St} {d : Int} {x : Nat} (h : Good nb s t) (hx : x < nb) (hd1 : -(524288 * (t : Int)) ≤ d) (hd2 : d ≤ 524288 * (t : Int)) : Good nb (visit1 d s x).1 t := by
  unfold Ybulkfqak.visit1
  by_cases e : s.seen x = false
  · rw [if_pos e]
    refine ⟨fun y hy => ?_, ?_, fun y hy hs => ?_⟩
    · simp only [List.mem_append, List.mem_singleton] at hy
      by_cases ey : y = x
      · subst ey; exact ⟨hx, upd_same _ _ _⟩
      · rcases hy with hy | hy
        · exact ⟨(h.stk y hy).1, by show upd s.seen x true y = true; rw [upd_other _ _ ey]; exact (h.stk y hy).2⟩
        · exact absurd hy ey
    · have := h.cnt
      have := unseen_upd s.seen x e nb hx
      simp only [List.length_append, List.length_singleton]
      omega
    · show _ ≤ upd s.delta x d y ∧ upd s.delta x d y ≤ _
      by_cases ey : y = x
      · subst ey; rw [upd_same]; exact ⟨hd1, hd2⟩
      · rw [upd_other _ _ ey]
        refine h.bnd y hy ?_
        have : upd s.seen x true y = true := hs
        rwa [upd_other _ _ ey] at this
  · rw [if_neg e]
    split <;> exact h
theorem Good.visit {nb t : Nat} {d : Int} (hd1 : -(524288 * (t : Int)) ≤ d) (hd2 : d ≤ 524288 * (t : Int)) : ∀ (xs : List (Bl nb)) (s : St), Good nb s t → Good nb (visit d s xs).1 t
  | [], s, h => h
  | x :: xs, s, h => by
    unfold Ybulkfqak.visit
    split
    · exact Good.visit hd1 hd2 xs _ (h.visit1 x.2 hd1 hd2)
    · exact h.visit1 x.2 hd1 hd2
end Go.Proofs.Ybulkfqak
