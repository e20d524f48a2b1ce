import Derived.Test.YbulkfpliCSet
namespace Go.Proofs.Ybulkfpli
open Go.RowKit Go.WideMaps Go.Maps

/-! The plain law: what the map of the first 'k' keys holds. -/
def kOf (s : ByteArray) : Lit := .string s.data.toList
def dOf (s : ByteArray) : DataW Unit := .lit (.string s.data.toList)
theorem kOf_key (s : ByteArray) : WideAt.IsKeyLit (kOf s) := trivial
theorem kOf_ne {a b : ByteArray} (h : ¬ a = b) : kOf a ≠ kOf b := fun e => h (by cases a; cases b; simpa [kOf] using e)

def dTo (ks vs : List ByteArray) : Nat → DataW Unit
  | 0 => .map []
  | k + 1 => (dTo ks vs k).put (kOf (valAt ks k)) (dOf (valAt vs k))

def seenTo (ks : List ByteArray) (s : ByteArray) : Nat → Bool
  | 0 => false
  | k + 1 => seenTo ks s k || decide (valAt ks k = s)

def distTo (ks : List ByteArray) : Nat → Nat
  | 0 => 0
  | k + 1 => distTo ks k + if seenTo ks (valAt ks k) k then 0 else 1

theorem dTo_tidy (ks vs : List ByteArray) : ∀ k, Tidy (dTo ks vs k)
  | 0 => tidy_empty
  | k + 1 => (dTo_tidy ks vs k).put (kOf_key _) _

theorem has_dTo (ks vs : List ByteArray) (s : ByteArray) : ∀ k, Maps.has (dTo ks vs k) (kOf s) = seenTo ks s k
  | 0 => rfl
  | k + 1 => by
    unfold dTo seenTo
    by_cases h : valAt ks k = s
    · rw [h, has_put_same (dTo_tidy ks vs k).isMap (kOf_key _)]; simp
    · rw [has_put_other (kOf_ne (fun e => h e.symm)), has_dTo ks vs s k]; simp [h]

theorem size_dTo (ks vs : List ByteArray) : ∀ k, Maps.size (dTo ks vs k) = distTo ks k
  | 0 => rfl
  | k + 1 => by
    unfold dTo distTo
    rw [size_put (dTo_tidy ks vs k), has_dTo, size_dTo ks vs k]
    split <;> simp

theorem at_dTo (ks vs : List ByteArray) (s : ByteArray) (z : DataW Unit) : ∀ k, seenTo ks s k = true → (dTo ks vs k).atKey (kOf s) z = dOf (lastTo ks vs s k)
  | 0, h => by simp [seenTo] at h
  | k + 1, h => by
    unfold dTo lastTo
    by_cases e : valAt ks k = s
    · rw [if_pos e, e, atKey_put_same (dTo_tidy ks vs k).isMap (kOf_key _)]
    · rw [if_neg e, atKey_put_other (kOf_ne (fun x => e x.symm))]
      refine at_dTo ks vs s z k ?_
      simpa [seenTo, e] using h

theorem seenTo_mono (ks : List ByteArray) (s : ByteArray) (j : Nat) : ∀ d, seenTo ks s j = true → seenTo ks s (j + d) = true
  | 0, h => h
  | d + 1, h => by
    have := seenTo_mono ks s j d h
    rw [← Nat.add_assoc, seenTo, this]; rfl

theorem seenTo_self (ks : List ByteArray) (i n : Nat) (h : i < n) : seenTo ks (valAt ks i) n = true := by
  have h1 : seenTo ks (valAt ks i) (i + 1) = true := by simp [seenTo]
  have := seenTo_mono ks _ (i + 1) (n - (i + 1)) h1
  rwa [show i + 1 + (n - (i + 1)) = n by omega] at this

theorem distTo_le (ks : List ByteArray) : ∀ k, distTo ks k ≤ k
  | 0 => Nat.le_refl _
  | k + 1 => by
    have := distTo_le ks k
    unfold distTo
    split <;> omega

/-- what is in the map behind 'set': 'other' tells whether the key 'rev' was stored. -/
def dFin (other : Bool) (ks vs : List ByteArray) (n : Nat) (rev v : ByteArray) : DataW Unit :=
  if other then (dTo ks vs n).put (kOf rev) (dOf v) else dTo ks vs n

theorem size_dFin (other : Bool) (ks vs : List ByteArray) (n : Nat) (rev v : ByteArray) : Maps.size (dFin other ks vs n rev v) = distTo ks n + if other && !seenTo ks rev n then 1 else 0 := by
  cases other
  · simp [dFin, size_dTo]
  · simp only [dFin, if_true]
    rw [size_put (dTo_tidy ks vs n), has_dTo, size_dTo]
    cases seenTo ks rev n <;> simp

theorem has_dFin (other : Bool) (ks vs : List ByteArray) (n i : Nat) (rev v : ByteArray) (h : i < n) : Maps.has (dFin other ks vs n rev v) (kOf (valAt ks i)) = true := by
  have h1 : Maps.has (dTo ks vs n) (kOf (valAt ks i)) = true := by rw [has_dTo]; exact seenTo_self ks i n h
  cases other
  · exact h1
  · simp only [dFin, if_true]
    by_cases e : valAt ks i = rev
    · rw [e, has_put_same (dTo_tidy ks vs n).isMap (kOf_key _)]
    · rw [has_put_other (kOf_ne e)]; exact h1

theorem at_dFin (other : Bool) (ks vs : List ByteArray) (n i : Nat) (rev v : ByteArray) (z : DataW Unit) (h : i < n) :
    (dFin other ks vs n rev v).atKey (kOf (valAt ks i)) z = dOf (if other = true ∧ valAt ks i = rev then v else lastTo ks vs (valAt ks i) n) := by
  have h1 := at_dTo ks vs (valAt ks i) z n (seenTo_self ks i n h)
  cases other
  · simpa [dFin] using h1
  · simp only [dFin, if_true]
    by_cases e : valAt ks i = rev
    · rw [e, atKey_put_same (dTo_tidy ks vs n).isMap (kOf_key _)]; simp
    · rw [atKey_put_other (kOf_ne e), h1]; simp [e]

theorem zero9 (w : World) : (zeroValue 9).run Yba.prog w = .ok (.string ByteArray.empty) w := by kernel_rfl

/-- 'got, ok := r.revs[s]' -/
theorem look (w : World) (M n : Nat) (D : DataW Unit) (s g : ByteArray) (hown : w.ownsMap Yba.prog 9 (plainElem Yba.prog 9) M n D) (hs : s.size ≤ maxLen) (hh : Maps.has D (kOf s) = true) (hat : ∀ z, D.atKey (kOf s) z = dOf g) :
    (Instr.lookup 24 (.map (some M)) (.string s) true).run Yba.prog w = .ok (.tuple #[.string g, .bool true]) w := by
  obtain ⟨v, ps, hrun, hR⟩ := hown.look_ok law Yba.underlying24 (zero9 w) (plainElem_string Yba.underlying9 (by decide)) (keyOf_string_mk Yba.underlying9 hs)
  obtain ⟨g', rfl, hz, _⟩ := plainElem_string_inv Yba.underlying9 hR
  have e1 := congrArg Prod.fst hz
  simp only at e1
  have e2 : dOf g = dOf g' := (hat _).symm.trans e1
  have e3 : g = g' := by cases g; cases g'; simpa [dOf] using e2
  have e4 : Maps.has D (Lit.string s.data.toList) = true := hh
  rw [hrun, e4, e3]
end Go.Proofs.Ybulkfpli
