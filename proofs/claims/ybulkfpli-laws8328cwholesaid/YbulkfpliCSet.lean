import Derived.Test.YbulkfpliCWalks
namespace Go.Proofs.Ybulkfpli
open Go.RowKit Go.WideMaps Go.Maps

/-- block 'B' of 'w' is a row of cells 'cs', none of them frozen. -/
def Blk (w : World) (B : Nat) (cs : Array Value) (t : TypeId) : Prop := w.heap[B]? = some (.cells cs t)

theorem Blk.cell {w : World} {B : Nat} {cs : Array Value} {t : TypeId} (h : Blk w B cs t) (i : Nat) : w.cell? ⟨B, i, none⟩ = cs[i]? := by
  unfold Blk at h; simp [World.cell?, h]
theorem Blk.frozen {w : World} {B : Nat} {cs : Array Value} {t : TypeId} (h : Blk w B cs t) (i : Nat) : w.frozen? ⟨B, i, none⟩ = false := by
  unfold Blk at h; simp [World.frozen?, h]
theorem Blk.lt {w : World} {B : Nat} {cs : Array Value} {t : TypeId} (h : Blk w B cs t) : B < w.heap.size :=
  (Array.getElem?_eq_some_iff.1 h).1
theorem Blk.alloc {w : World} {B : Nat} {cs : Array Value} {t : TypeId} (h : Blk w B cs t) (o : Obj) : Blk (w.alloc o) B cs t :=
  (Below.heap_alloc w o B h.lt).trans h
theorem Blk.drew {w : World} {B : Nat} {cs : Array Value} {t : TypeId} (h : Blk w B cs t) : Blk w.drew B cs t := h
theorem Blk.new (w : World) (cs : Array Value) (t : TypeId) : Blk (w.alloc (.cells cs t)) w.heap.size cs t := by
  exact Array.getElem?_push_size
theorem Blk.set {w : World} {B : Nat} {cs : Array Value} {t : TypeId} (h : Blk w B cs t) (i : Nat) (v : Value) : Blk (w.setCell ⟨B, i, none⟩ v) B (cs.setIfInBounds i v) t := by
  unfold Blk at *
  simp [World.setCell, Array.getElem?_modify, h]
theorem Blk.setOther {w : World} {B : Nat} {cs : Array Value} {t : TypeId} (h : Blk w B cs t) {a : Addr} (ha : B ≠ a.block) (v : Value) : Blk (w.setCell a v) B cs t :=
  (Below.heap_setCell w a v B ha).trans h
theorem Blk.grown {w w' : World} {B : Nat} {cs : Array Value} {t : TypeId} {row : Option Nat} (h : Blk w B cs t) (hg : w.grownBy w' row) (hne : some B ≠ row) : Blk w' B cs t :=
  (hg.block B h.lt hne).trans h


theorem grown_drew {w w' : World} {r : Option Nat} (h : w.drew.grownBy w' r) : w.grownBy w' r := ⟨h.os, h.tape, h.output, h.size, h.block⟩

set_option maxHeartbeats 400000 in
theorem set_head (B : Nat) (h l : ByteArray) (m : Value) (slug rev v : ByteArray) (w : World) (hB : Blk w B #[.string h, .string l, m] 26) :
    Calls Yba.prog 5 #[.pointer (some ⟨B, 0, none⟩), .agg #[.string slug, .string ⟨#[104, 101, 97, 100]⟩, .string rev], .string v] w
      fun e w' => e = .returned (.tuple #[]) ∧ ∃ o, w' = (w.setCell ⟨B, 0, none⟩ (.string v)).alloc o := by
  have hlt := hB.lt
  have c0 := hB.cell 0
  have f0 := hB.frozen 0
  simp at c0
  clear hB
  go_enter Yba.func5, Yba.ntmps5
  go_wp2
  go_end0
  exact ⟨rfl, _, rfl⟩

set_option maxHeartbeats 400000 in
theorem set_log (B : Nat) (h l : ByteArray) (m : Value) (slug rev v : ByteArray) (w : World) (hB : Blk w B #[.string h, .string l, m] 26) :
    Calls Yba.prog 5 #[.pointer (some ⟨B, 0, none⟩), .agg #[.string slug, .string ⟨#[108, 111, 103]⟩, .string rev], .string v] w
      fun e w' => e = .returned (.tuple #[]) ∧ ∃ o, w' = (w.setCell ⟨B, 1, none⟩ (.string v)).alloc o := by
  have hlt := hB.lt
  have c0 := hB.cell 1
  have f0 := hB.frozen 1
  simp at c0
  clear hB
  go_enter Yba.func5, Yba.ntmps5
  go_wp2
  go_end0
  exact ⟨rfl, _, rfl⟩

theorem str_ne_lit {a : ByteArray} (l : List UInt8) (h : ¬ a = ⟨l.toArray⟩) : (a.toList == l) = false := by
  rw [ByteArray.toList_eq]
  have h2 : ¬ a.data.toList = l := fun e => h (by cases a; simp at e; simp [← e])
  simpa using h2
open Go.Maps in
theorem law : Keyed Yba.prog 9 := string_keyed Yba.underlying9

set_option maxHeartbeats 400000 in
theorem set_map (B M n : Nat) (D : DataW Unit) (h l : ByteArray) (slug part rev v : ByteArray) (w : World) (hB : Blk w B #[.string h, .string l, .map (some M)] 26)
    (hBM : M ≠ B) (hown : w.ownsMap Yba.prog 9 (plainElem Yba.prog 9) M n D) (hn : n < maxLen) (hr : rev.size ≤ maxLen) (hvs : v.size ≤ maxLen)
    (hp1 : ¬ part = ⟨#[104, 101, 97, 100]⟩) (hp2 : ¬ part = ⟨#[108, 111, 103]⟩) :
    Calls Yba.prog 5 #[.pointer (some ⟨B, 0, none⟩), .agg #[.string slug, .string part, .string rev], .string v] w
      fun e w' => e = .returned (.tuple #[]) ∧ Blk w' B #[.string h, .string l, .map (some M)] 26 ∧ w'.ownsMap Yba.prog 9 (plainElem Yba.prog 9) M (n + 1) (D.put (.string rev.data.toList) (.lit (.string v.data.toList))) ∧ w.grownBy w' (some M) := by
  have hlt := hB.lt
  have c2 := hB.cell 2
  have f2 := hB.frozen 2
  simp at c2
  have hn1 : (part.toList == [104, 101, 97, 100]) = false := str_ne_lit _ hp1
  have hn2 : (part.toList == [108, 111, 103]) = false := str_ne_lit _ hp2
  have HB : Hid _ := hB
  clear hB
  have hme : ∀ (w : World) (r : Option Nat), (binOp .eql 24 (.map r) (.map none)).run Yba.prog w = .ok (.bool r.isNone) w := fun w r => run_eql_map_nil w _ _ _ r Yba.underlying24
  obtain ⟨w2, hrun, hown2, hturn⟩ := ((hown.alloc (.cells #[.string slug, .string part, .string rev] 30)).drew).store law Yba.underlying24 hn (keyOf_string_mk Yba.underlying9 hr) (plainElem_string Yba.underlying9 hvs)
  have hMlt := hown.lt
  go_enter Yba.func5, Yba.ntmps5
  go_wp2
  go_region
  go_end0
  refine ⟨rfl, ?_, hown2, ?_⟩
  · exact (Blk.alloc HB _).drew.grown hturn.grown (by intro e; cases e; exact hBM rfl)
  · exact (World.grownBy_alloc w (.cells #[.string slug, .string part, .string rev] 30) (some M)).trans (grown_drew hturn.grown)

set_option maxHeartbeats 400000 in
theorem set_nil (B : Nat) (h l : ByteArray) (slug part rev v : ByteArray) (w : World) (hB : Blk w B #[.string h, .string l, .map none] 26)
    (hr : rev.size ≤ maxLen) (hvs : v.size ≤ maxLen) (hp1 : ¬ part = ⟨#[104, 101, 97, 100]⟩) (hp2 : ¬ part = ⟨#[108, 111, 103]⟩) :
    Calls Yba.prog 5 #[.pointer (some ⟨B, 0, none⟩), .agg #[.string slug, .string part, .string rev], .string v] w
      fun e w' => e = .returned (.tuple #[]) ∧ ∃ M, w.heap.size ≤ M ∧ Blk w' B #[.string h, .string l, .map (some M)] 26 ∧ w'.ownsMap Yba.prog 9 (plainElem (H := Unit) Yba.prog 9) M 1 (DataW.put (.map []) (.string rev.data.toList) (.lit (.string v.data.toList))) ∧ w.grownBy w' (some B) := by
  have hlt := hB.lt
  have c2 := hB.cell 2
  have f2 := hB.frozen 2
  simp at c2
  have hn1 : (part.toList == [104, 101, 97, 100]) = false := str_ne_lit _ hp1
  have hn2 : (part.toList == [108, 111, 103]) = false := str_ne_lit _ hp2
  have HB : Hid _ := hB
  clear hB
  have hme : ∀ (w : World) (r : Option Nat), (binOp .eql 24 (.map r) (.map none)).run Yba.prog w = .ok (.bool r.isNone) w := fun w r => run_eql_map_nil w _ _ _ r Yba.underlying24
  have hmm := @run_makeMap Yba.prog
  have hwo : ((((w.setCell ⟨B, 2, none⟩ (.map (some (w.heap.size + 1)))).alloc (.cells #[.string slug, .string part, .string rev] 30)).alloc (.map #[] 0)).drew).ownsMap Yba.prog 9 (plainElem (H := Unit) Yba.prog 9) (w.heap.size + 1) 0 (.map []) := by
    have := (World.ownsMap_made ((w.setCell ⟨B, 2, none⟩ (.map (some (w.heap.size + 1)))).alloc (.cells #[.string slug, .string part, .string rev] 30)) Yba.prog 9 (plainElem (H := Unit) Yba.prog 9)).drew
    simpa using this
  obtain ⟨w2, hrun, hown2, hturn⟩ := hwo.store law Yba.underlying24 (by unfold maxLen; omega) (keyOf_string_mk Yba.underlying9 hr) (plainElem_string Yba.underlying9 hvs)
  have hb3 := ((((Blk.set HB 2 (.map (some (w.heap.size + 1)))).alloc (.cells #[.string slug, .string part, .string rev] 30)).alloc (.map #[] 0)).drew).grown hturn.grown (by intro e; simp at e; omega)
  have hgr := hturn.grown
  clear hwo hturn
  go_enter Yba.func5, Yba.ntmps5
  go_wp2
  go_region
  go_end0
  refine ⟨rfl, w.heap.size + 1, by omega, hb3, hown2, ?_⟩
  exact ⟨hgr.os, hgr.tape, hgr.output, Nat.le_trans (by simp; omega) hgr.size, fun k hk hne => (hgr.block k (by simp; omega) (by intro e; simp at e; omega)).trans (by
    show (((w.setCell ⟨B, 2, none⟩ (.map (some (w.heap.size + 1)))).alloc (.cells #[.string slug, .string part, .string rev] 30)).alloc (.map #[] 0)).heap[k]? = _
    rw [Below.heap_alloc _ _ _ (by simp; omega), Below.heap_alloc _ _ _ (by simp; omega), Below.heap_setCell _ _ _ _ (by intro e; apply hne; rw [e])])⟩

theorem grown_setAlloc (w : World) (B i : Nat) (v : Value) (o : Obj) : w.grownBy ((w.setCell ⟨B, i, none⟩ v).alloc o) (some B) :=
  ⟨rfl, rfl, rfl, by simp, fun k hk hne => by rw [Below.heap_alloc _ _ _ (by simpa using hk), Below.heap_setCell _ _ _ _ (by intro e; apply hne; rw [e])]⟩

theorem set_head_b (B : Nat) (h l : ByteArray) (m : Value) (slug rev v : ByteArray) (w : World) (hB : Blk w B #[.string h, .string l, m] 26) :
    Calls Yba.prog 5 #[.pointer (some ⟨B, 0, none⟩), .agg #[.string slug, .string ⟨#[104, 101, 97, 100]⟩, .string rev], .string v] w
      fun e w' => e = .returned (.tuple #[]) ∧ Blk w' B #[.string v, .string l, m] 26 ∧ w.grownBy w' (some B) := by
  refine (set_head B h l m slug rev v w hB).mono ?_
  rintro e w' ⟨rfl, o, rfl⟩
  exact ⟨rfl, (hB.set 0 (.string v)).alloc o, grown_setAlloc w B 0 (.string v) o⟩

theorem set_log_b (B : Nat) (h l : ByteArray) (m : Value) (slug rev v : ByteArray) (w : World) (hB : Blk w B #[.string h, .string l, m] 26) :
    Calls Yba.prog 5 #[.pointer (some ⟨B, 0, none⟩), .agg #[.string slug, .string ⟨#[108, 111, 103]⟩, .string rev], .string v] w
      fun e w' => e = .returned (.tuple #[]) ∧ Blk w' B #[.string h, .string v, m] 26 ∧ w.grownBy w' (some B) := by
  refine (set_log B h l m slug rev v w hB).mono ?_
  rintro e w' ⟨rfl, o, rfl⟩
  exact ⟨rfl, (hB.set 1 (.string v)).alloc o, grown_setAlloc w B 1 (.string v) o⟩
end Go.Proofs.Ybulkfpli
