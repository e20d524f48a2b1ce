import Derived.Test.YbulkfqjoRows
import Derived.WalkKit
import Derived.WalkSpells
import Derived.WalkLawsBesides
import Derived.Deep.OwnRows
import Derived.Deep.QuietTactic
import Derived.BigQuiet
import Derived.WideLaws
import Derived.LaidEqlPtr
import Derived.Deep.DeepCutAuto
import Derived.Deep.RegionWith
namespace Go.Proofs.Ybulkfqjo
open Go.RowKit

/-- only blocks of 'S' (and new ones) have turned -/
structure Chg (S : Nat → Prop) (w w' : World) : Prop where
  os : w'.os = w.os
  tape : w'.tape = w.tape
  output : w'.output = w.output
  size : w.heap.size ≤ w'.heap.size
  block : ∀ k, k < w.heap.size → ¬ S k → w'.heap[k]? = w.heap[k]?

theorem Chg.refl (S : Nat → Prop) (w : World) : Chg S w w := ⟨rfl, rfl, rfl, Nat.le_refl _, fun _ _ _ => rfl⟩
theorem Chg.trans {S : Nat → Prop} {a b c : World} (h : Chg S a b) (k : Chg S b c) : Chg S a c :=
  ⟨k.os.trans h.os, k.tape.trans h.tape, k.output.trans h.output, Nat.le_trans h.size k.size, fun i hi hs => (k.block i (Nat.lt_of_lt_of_le hi h.size) hs).trans (h.block i hi hs)⟩
theorem Chg.mono {S T : Nat → Prop} {a b : World} (h : Chg S a b) (hs : ∀ k, S k → T k) : Chg T a b := ⟨h.os, h.tape, h.output, h.size, fun i hi hn => h.block i hi (fun e => hn (hs i e))⟩
theorem Chg.below {S : Nat → Prop} {B : Nat} {a b : World} (h : Chg S a b) (hB : B ≤ a.heap.size) (hs : ∀ k, S k → B ≤ k) : Below B a b :=
  ⟨h.os, h.tape, h.output, h.size, fun i hi => h.block i (by omega) (fun e => by have := hs i e; omega)⟩
theorem Below.chg {S : Nat → Prop} {a b : World} (h : Below a.heap.size a b) : Chg S a b := ⟨h.os, h.tape, h.output, h.size, fun i hi _ => h.block i hi⟩

/-- an end of a simulated connection with no far end -/
def EndAt (w : World) (b : Nat) (c : Bool) (ib : Value) : Prop :=
  ∃ cs : Array Value, w.heap[b]? = some (.cells cs 92) ∧ cs.size = 22 ∧ cs[1]? = some (.pointer none) ∧ cs[4]? = some ib ∧ cs[6]? = some (.bool c)
def LinkAt (w : World) (b e : Nat) (lk : Bool) : Prop :=
  ∃ cs : Array Value, w.heap[b]? = some (.cells cs 47) ∧ cs.size = 51 ∧ cs[1]? = some (.iface 28 (.pointer (some ⟨e, 0, none⟩))) ∧ cs[4]? = some (.bool lk)
def NodeAt (w : World) (b : Nat) (done : Bool) (lv : Value) : Prop :=
  ∃ cs : Array Value, w.heap[b]? = some (.cells cs 65) ∧ cs.size = 32 ∧ cs[13]? = some lv ∧ cs[18]? = some (.bool done)
def SimAt (w : World) (b : Nat) (np : Value) (ended : Bool) (dv bv : Value) : Prop :=
  ∃ cs : Array Value, w.heap[b]? = some (.cells cs 79) ∧ cs.size = 34 ∧ cs[5]? = some np ∧ cs[25]? = some (.bool ended) ∧ cs[29]? = some dv ∧ cs[30]? = some bv

theorem cell_blk {w : World} {b : Nat} {cs : Array Value} {t : TypeId} (h : w.heap[b]? = some (.cells cs t)) (i : Nat) : w.cell? ⟨b, i, none⟩ = cs[i]? := by simp [World.cell?, h]
theorem frozen_blk {w : World} {b : Nat} {cs : Array Value} {t : TypeId} (h : w.heap[b]? = some (.cells cs t)) (i : Nat) : w.frozen? ⟨b, i, none⟩ = false := by simp [World.frozen?, h]
theorem lt_blk {w : World} {b : Nat} {o : Obj} (h : w.heap[b]? = some o) : b < w.heap.size := (Array.getElem?_eq_some_iff.1 h).1
theorem set_blk {w : World} {b : Nat} {cs : Array Value} {t : TypeId} (h : w.heap[b]? = some (.cells cs t)) (i : Nat) (v : Value) : (w.setCell ⟨b, i, none⟩ v).heap[b]? = some (.cells (cs.setIfInBounds i v) t) := by
  simp [World.setCell, Array.getElem?_modify, h]
theorem set_get {cs : Array Value} {i j : Nat} {v : Value} (hi : i < cs.size) : (cs.setIfInBounds i v)[j]? = if j = i then some v else cs[j]? := by
  rw [Array.getElem?_setIfInBounds]
  by_cases e : i = j
  · subst e; simp [hi]
  · rw [if_neg e, if_neg (fun h => e h.symm)]

theorem EndAt.lt {w : World} {b : Nat} {c : Bool} {ib : Value} (h : EndAt w b c ib) : b < w.heap.size := by obtain ⟨cs, h, _⟩ := h; exact lt_blk h
theorem EndAt.of {w w' : World} {b : Nat} {c : Bool} {ib : Value} (h : EndAt w b c ib) (e : w'.heap[b]? = w.heap[b]?) : EndAt w' b c ib := by obtain ⟨cs, h1, h⟩ := h; exact ⟨cs, e.trans h1, h⟩
theorem LinkAt.lt {w : World} {b e : Nat} {lk : Bool} (h : LinkAt w b e lk) : b < w.heap.size := by obtain ⟨cs, h, _⟩ := h; exact lt_blk h
theorem LinkAt.of {w w' : World} {b e : Nat} {lk : Bool} (h : LinkAt w b e lk) (q : w'.heap[b]? = w.heap[b]?) : LinkAt w' b e lk := by obtain ⟨cs, h1, h⟩ := h; exact ⟨cs, q.trans h1, h⟩
theorem NodeAt.lt {w : World} {b : Nat} {d : Bool} {lv : Value} (h : NodeAt w b d lv) : b < w.heap.size := by obtain ⟨cs, h, _⟩ := h; exact lt_blk h
theorem NodeAt.of {w w' : World} {b : Nat} {d : Bool} {lv : Value} (h : NodeAt w b d lv) (q : w'.heap[b]? = w.heap[b]?) : NodeAt w' b d lv := by obtain ⟨cs, h1, h⟩ := h; exact ⟨cs, q.trans h1, h⟩
theorem SimAt.lt {w : World} {b : Nat} {np dv bv : Value} {e : Bool} (h : SimAt w b np e dv bv) : b < w.heap.size := by obtain ⟨cs, h, _⟩ := h; exact lt_blk h
theorem SimAt.of {w w' : World} {b : Nat} {np dv bv : Value} {e : Bool} (h : SimAt w b np e dv bv) (q : w'.heap[b]? = w.heap[b]?) : SimAt w' b np e dv bv := by obtain ⟨cs, h1, h⟩ := h; exact ⟨cs, q.trans h1, h⟩

theorem chg_set {S : Nat → Prop} {w w' : World} (h : Chg S w w') {a : Addr} (ha : S a.block) (v : Value) : Chg S w (w'.setCell a v) :=
  h.trans ⟨rfl, rfl, rfl, by simp, fun k _ hs => Below.heap_setCell _ _ _ _ (fun e => hs (by rw [e]; exact ha))⟩

/-- what an inbox is behind a close -/
def shut (c : Bool) (ib : Value) : Value := if c then ib else .slice none 0 0

set_option maxHeartbeats 400000 in
theorem close_any (b : Nat) (c : Bool) (ib : Value) (w : World) (h : EndAt w b c ib) (hib : ∃ a n cap, ib = .slice a n cap) :
    Calls Yba.prog 11 #[.pointer (some ⟨b, 0, none⟩)] w fun e w' => e = .returned (.tuple #[]) ∧ EndAt w' b true (shut c ib) ∧ Chg (fun k => k = b) w w' ∧ Hid (w'.heap.size = w.heap.size) := by
  obtain ⟨cs, h0, hs, h1, h4, h6⟩ := h
  obtain ⟨a, n, cap, rfl⟩ := hib
  have c1 := (cell_blk h0 1).trans h1
  have c4 := (cell_blk h0 4).trans h4
  have c6 := (cell_blk h0 6).trans h6
  have f4 := frozen_blk h0 4
  have f6 := frozen_blk h0 6
  have H0 : Hid (w.heap[b]? = some (.cells cs 92)) := h0
  have HS : Hid (cs.size = 22 ∧ cs[1]? = some (.pointer none) ∧ cs[4]? = some (.slice a n cap) ∧ cs[6]? = some (.bool c)) := ⟨hs, h1, h4, h6⟩
  clear h0 hs h1 h4 h6
  cases c
  · go_enter Yba.func11, Yba.ntmps11
    go_wp2_with fail
    go_end0
    obtain ⟨hs, h1, h4, h6⟩ := HS.out
    refine ⟨rfl, ⟨_, set_blk (set_blk H0 6 (.bool true)) 4 (.slice none 0 0), by simpa using hs, ?_, ?_, ?_⟩, chg_set (S := fun k => k = b) (chg_set (S := fun k => k = b) (Chg.refl _ _) (a := ⟨b, 6, none⟩) rfl _) (a := ⟨b, 4, none⟩) rfl _, by simp [Hid]⟩
    · rw [set_get (by simp; omega), if_neg (by decide), set_get (by omega), if_neg (by decide), h1]
    · rw [set_get (by simp; omega), if_pos rfl]; rfl
    · rw [set_get (by simp; omega), if_neg (by decide), set_get (by omega), if_pos rfl]
  · go_enter Yba.func11, Yba.ntmps11
    go_wp2_with fail
    refine bodyPost_ret (results_none rfl _ _ _) rfl ?_
    exact ⟨rfl, ⟨cs, H0, HS.out⟩, Chg.refl _ _, rfl⟩

/-- the method's full name, by its signs -/
def closeName : String := String.ofList ([101, 120, 97, 109, 112, 108, 101, 46, 99, 111, 109, 47, 114, 105, 112, 112, 108, 101, 99, 97, 115, 116, 47, 114, 105, 112, 112, 108, 101, 99, 97, 115, 116, 47, 105, 110, 116, 101, 114, 110, 97, 108, 47, 115, 119, 97, 114, 109, 46, 99, 108, 111, 115, 101].map Char.ofNat)
theorem nil_ahead (f : Nat) (a : Addr) (w : World) : (nilAhead (f + 1) 28 (.pointer (some a)) closeName).run Yba.prog w = .ok (some false) w := by kernel_rfl
theorem method_close (f : Nat) (a : Addr) (w : World) : (method (f + 1) 28 (.pointer (some a)) closeName).run Yba.prog w = .ok (11, .pointer (some a)) w := by kernel_rfl

set_option maxRecDepth 100000 in
set_option maxHeartbeats 400000 in
theorem lclose_any (lb b : Nat) (lk c : Bool) (ib : Value) (w : World) (hl : LinkAt w lb b lk) (h : EndAt w b c ib) (hib : ∃ a n cap, ib = .slice a n cap) :
    Calls Yba.prog 12 #[.pointer (some ⟨lb, 0, none⟩)] w fun e w' => e = .returned (.tuple #[]) ∧ EndAt w' b true (shut c ib) ∧ Chg (fun k => k = b) w w' ∧ Hid (w'.heap.size = w.heap.size) := by
  obtain ⟨cs, h0, hs, h1, h4⟩ := hl
  have c1 := (cell_blk h0 1).trans h1
  clear h0 hs h1 h4
  have hn := nil_ahead
  have hm := method_close
  go_enter Yba.func12, Yba.ntmps12
  go_upto_region 0 with fail
  conv in (Callee.invoke _ _) =>
    arg 2
    tactic => exact (by kernel_rfl : (_ : String) = closeName)
  go_wp2_with fail
  refine (close_any b c ib w h hib).mono ?_
  rintro e w' ⟨rfl, he, hch, hsz⟩
  have HE : Hid (EndAt w' b true (shut c ib)) := he
  have HC : Hid (Chg (fun k => k = b) w w') := hch
  clear he hch h
  go_wp2_with fail
  go_end0
  exact ⟨rfl, HE, HC, hsz⟩
end Go.Proofs.Ybulkfqjo
