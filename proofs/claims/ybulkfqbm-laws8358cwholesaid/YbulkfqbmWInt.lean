import Derived.Test.YbulkfqbmWSet
import Derived.LaidEqlPtr
import Derived.Deep.RegionWith
namespace Go.Proofs.Ybulkfqbm
open Go.RowKit

/-- block 'B' of 'w' is a row of cells 'cs', none of them frozen. -/
def Blk (w : World) (B : Nat) (cs : Array Value) (t : TypeId) : Prop := w.heap[B]? = some (.cells cs t)

theorem Blk.cell {w : World} {B : Nat} {cs : Array Value} {t : TypeId} (h : Blk w B cs t) (i : Nat) : w.cell? ⟨B, i, none⟩ = cs[i]? := by
  unfold Blk at h; simp [World.cell?, h]
theorem Blk.frozen {w : World} {B : Nat} {cs : Array Value} {t : TypeId} (h : Blk w B cs t) (i : Nat) : w.frozen? ⟨B, i, none⟩ = false := by
  unfold Blk at h; simp [World.frozen?, h]
theorem Blk.lt {w : World} {B : Nat} {cs : Array Value} {t : TypeId} (h : Blk w B cs t) : B < w.heap.size :=
  (Array.getElem?_eq_some_iff.1 h).1
theorem Blk.alloc {w : World} {B : Nat} {cs : Array Value} {t : TypeId} (h : Blk w B cs t) (o : Obj) : Blk (w.alloc o) B cs t :=
  (Below.heap_alloc w o B h.lt).trans h
theorem Blk.new (w : World) (cs : Array Value) (t : TypeId) : Blk (w.alloc (.cells cs t)) w.heap.size cs t := Array.getElem?_push_size
theorem Blk.set {w : World} {B : Nat} {cs : Array Value} {t : TypeId} (h : Blk w B cs t) (i : Nat) (v : Value) : Blk (w.setCell ⟨B, i, none⟩ v) B (cs.setIfInBounds i v) t := by
  unfold Blk at *
  simp [World.setCell, Array.getElem?_modify, h]
theorem Blk.setOther {w : World} {B : Nat} {cs : Array Value} {t : TypeId} (h : Blk w B cs t) {a : Addr} (ha : B ≠ a.block) (v : Value) : Blk (w.setCell a v) B cs t :=
  (Below.heap_setCell w a v B ha).trans h
theorem Blk.below {w w' : World} {B : Nat} {cs : Array Value} {t : TypeId} (h : Blk w B cs t) (hb : Below w.heap.size w w') : Blk w' B cs t :=
  (hb.block B h.lt).trans h

theorem NatIs.below {base : Nat} {w w' : World} {v : Value} {ws : List Int} (h : NatIs base w v ws) (hb : Below w.heap.size w w') : NatIs base w' v ws := by
  obtain ⟨a, cap, rfl, h⟩ := h
  refine ⟨a, cap, rfl, fun h0 => ?_⟩
  obtain ⟨b, rfl, h1, h2, h3⟩ := h h0
  exact ⟨b, rfl, h1, Nat.lt_of_lt_of_le h2 hb.size, fun j hj => (hb.cell (p := ⟨b, j, none⟩) h2).trans (h3 j hj)⟩
theorem NatIs.setCell {base : Nat} {w : World} {v : Value} {ws : List Int} (h : NatIs base w v ws) {a : Addr} (ha : a.block < base) (u : Value) : NatIs base (w.setCell a u) v ws := by
  obtain ⟨a', cap, rfl, h⟩ := h
  refine ⟨a', cap, rfl, fun h0 => ?_⟩
  obtain ⟨b, rfl, h1, h2, h3⟩ := h h0
  exact ⟨b, rfl, h1, by simpa using h2, fun j hj => (World.cell?_setCell_other _ _ _ _ (by intro e; subst e; simp at ha; omega)).trans (h3 j hj)⟩
theorem NatIs.mono {base base' : Nat} {w : World} {v : Value} {ws : List Int} (h : NatIs base w v ws) (hb : base' ≤ base) : NatIs base' w v ws := by
  obtain ⟨a, cap, rfl, h⟩ := h
  refine ⟨a, cap, rfl, fun h0 => ?_⟩
  obtain ⟨b, rfl, h1, h2⟩ := h h0
  exact ⟨b, rfl, by omega, h2⟩

/-- 'nat.setBytes', whatever the bytes. -/
theorem setBytes_all (v : Value) (bs : List Int) (w : World) (hv : ByteSl w v bs) (hl : bs.length ≤ 1048576) :
    Calls Yba.prog 19 #[.slice none 0 0, v] w fun e w' => ∃ u ws, e = .returned u ∧ NatIs w.heap.size w' u ws ∧ (ws = [] ↔ ∀ j, j < bs.length → byteAt bs j = 0) ∧ ws.length ≤ 200000 ∧ Below w.heap.size w w' := by
  obtain ⟨a, cap, rfl, hcap, hr, h⟩ := hv
  by_cases h0 : 0 < bs.length
  · obtain ⟨b, off, rfl, hb, hc⟩ := h h0
    exact setBytes_any b off cap bs w hl h0 hcap hr hb hc
  · have e : bs.length = 0 := by omega
    rw [e]
    refine (setBytes_nil a cap w).mono ?_
    rintro e w' ⟨rfl, rfl⟩
    exact ⟨_, [], rfl, ⟨none, 0, rfl, fun h => by simp at h⟩, by simp, by simp, Below.refl _ _⟩

set_option maxHeartbeats 400000 in
theorem iSetBytes (Z : Nat) (v : Value) (bs : List Int) (w : World) (hZ : Blk w Z #[.bool false, .slice none 0 0] 32) (hv : ByteSl w v bs) (hl : bs.length ≤ 1048576) :
    Calls Yba.prog 5 #[.pointer (some ⟨Z, 0, none⟩), v] w fun e w' => e = .returned (.pointer (some ⟨Z, 0, none⟩)) ∧ ∃ u ws, Blk w' Z #[.bool false, u] 32 ∧ NatIs w.heap.size w' u ws ∧ (ws = [] ↔ ∀ j, j < bs.length → byteAt bs j = 0) ∧ ws.length ≤ 200000 ∧ Below Z w w' := by
  have c1 := hZ.cell 1
  have c0 := hZ.cell 0
  simp at c0 c1
  have hlt := hZ.lt
  have HZ : Hid (Blk w Z #[.bool false, .slice none 0 0] 32) := hZ
  clear hZ
  go_enter Yba.func5, Yba.ntmps5
  go_wp2_with fail
  refine (setBytes_all v bs w hv hl).mono ?_
  rintro e w1 ⟨u, ws, rfl, hn, hws, hlen, hb⟩
  have hZ1 := Blk.below HZ hb
  have d0 := hZ1.cell 0
  have d1 := hZ1.cell 1
  have f0 := hZ1.frozen 0
  have f1 := hZ1.frozen 1
  simp at d0 d1
  obtain ⟨a, cap, rfl, hn⟩ := hn
  have HN : Hid (NatIs w.heap.size w1 (.slice a ws.length cap) ws) := ⟨a, cap, rfl, hn⟩
  have HWS : Hid _ := hws
  have HB : Hid (Below w.heap.size w w1) := hb
  have HZ1 : Hid (Blk w1 Z #[.bool false, .slice none 0 0] 32) := hZ1
  clear hn hws hb hZ1 hv
  go_wp2_with fail
  go_ret
  refine ⟨rfl, _, ws, ((Blk.set HZ1 1 (.slice a ws.length cap)).set 0 (.bool false)), ?_, HWS, hlen, ?_⟩
  · exact (NatIs.setCell (NatIs.setCell HN (a := ⟨Z, 1, none⟩) hlt _) (a := ⟨Z, 0, none⟩) hlt _)
  · exact ((Below.mono HB (B' := Z) (by omega)).setCell (p := ⟨Z, 1, none⟩) (Nat.le_refl _) _).setCell (p := ⟨Z, 0, none⟩) (Nat.le_refl _) _

theorem size32 : (Yba.prog.info? 32).map (fun i => i.size) = some 2 := by kernel_rfl
theorem eqlIn_same (w : World) (d : Nat) (a : Addr) : (Op.equalIn (d + 1) 26 (.pointer (some a)) (.pointer (some a))).run Yba.prog w = .ok true w := by
  obtain ⟨j, hj, hs⟩ := Option.map_eq_some_iff.1 size32
  simp [Op.equalIn, run_underlying Yba.underlying26, sizeOf, typeInfo, hj, run_sameAddr_same]
theorem neq_same (w : World) (a : Addr) : (binOp .neq 26 (.pointer (some a)) (.pointer (some a))).run Yba.prog w = .ok (.bool false) w := by
  simp only [binOp]
  simp [Op.equal, Op.maxDepth, eqlIn_same w 9999 a]
theorem eqlIn_other (w : World) (d : Nat) (A B : Nat) (cs ds : Array Value) (h : A ≠ B) (hA : Blk w A cs 32) (hB : Blk w B ds 32) : (Op.equalIn (d + 1) 26 (.pointer (some ⟨A, 0, none⟩)) (.pointer (some ⟨B, 0, none⟩))).run Yba.prog w = .ok false w := by
  obtain ⟨j, hj, hs⟩ := Option.map_eq_some_iff.1 size32
  simp [Op.equalIn, run_underlying Yba.underlying26, sizeOf, typeInfo, hj, hs, run_sameAddr_other w (a := ⟨A, 0, none⟩) (b := ⟨B, 0, none⟩) (fun e => h (by cases e; rfl)) hA hB]
theorem neq_other (w : World) (A B : Nat) (cs ds : Array Value) (h : A ≠ B) (hA : Blk w A cs 32) (hB : Blk w B ds 32) : (binOp .neq 26 (.pointer (some ⟨A, 0, none⟩)) (.pointer (some ⟨B, 0, none⟩))).run Yba.prog w = .ok (.bool true) w := by
  simp only [binOp]
  simp [Op.equal, Op.maxDepth, eqlIn_other w 9999 A B cs ds h hA hB]
theorem eql_other (w : World) (A B : Nat) (cs ds : Array Value) (h : A ≠ B) (hA : Blk w A cs 32) (hB : Blk w B ds 32) : (binOp .eql 26 (.pointer (some ⟨A, 0, none⟩)) (.pointer (some ⟨B, 0, none⟩))).run Yba.prog w = .ok (.bool false) w := by
  simp only [binOp]
  simp [Op.equal, Op.maxDepth, eqlIn_other w 9999 A B cs ds h hA hB]

set_option maxHeartbeats 400000 in
theorem iSet_same (Z : Nat) (w : World) : Calls Yba.prog 7 #[.pointer (some ⟨Z, 0, none⟩), .pointer (some ⟨Z, 0, none⟩)] w fun e w' => e = .returned (.pointer (some ⟨Z, 0, none⟩)) ∧ w' = w := by
  have hq := neq_same w ⟨Z, 0, none⟩
  go_enter Yba.func7, Yba.ntmps7
  go_wp2_with fail
  go_ret
  exact ⟨rfl, rfl⟩

set_option maxHeartbeats 400000 in
/-- 'z.Neg(z)' -/
theorem iNeg (Z : Nat) (a : Option Addr) (n cap : Nat) (w : World) (hZ : Blk w Z #[.bool false, .slice a n cap] 32) :
    Calls Yba.prog 6 #[.pointer (some ⟨Z, 0, none⟩), .pointer (some ⟨Z, 0, none⟩)] w fun e w' => e = .returned (.pointer (some ⟨Z, 0, none⟩)) ∧ w' = w.setCell ⟨Z, 0, none⟩ (.bool (decide (0 < n))) := by
  have c0 := hZ.cell 0
  have c1 := hZ.cell 1
  have f0 := hZ.frozen 0
  simp at c0 c1
  clear hZ
  by_cases hn : 0 < n
  · rw [decide_eq_true hn]
    have hg : (0 : Int) < (n : Int) := by omega
    go_enter Yba.func6, Yba.ntmps6
    go_wp2_with (go_at_call 7; refine (iSet_same _ _).mono ?_; rintro e w' ⟨rfl, rfl⟩)
    go_ret
    exact ⟨rfl, rfl⟩
  · have e : n = 0 := by omega
    subst e
    go_enter Yba.func6, Yba.ntmps6
    go_wp2_with (go_at_call 7; refine (iSet_same _ _).mono ?_; rintro e w' ⟨rfl, rfl⟩)
    go_ret
    exact ⟨rfl, rfl⟩

theorem addr_add (b j : Nat) : (⟨b, 0, none⟩ : Addr).add j = ⟨b, j, none⟩ := by
  simp [Addr.add]
  exact fun e => e.symm
theorem size50 : (Yba.prog.info? 50).map (·.size) = some 1 := by kernel_rfl

set_option maxHeartbeats 400000 in
theorem nset_nil (a : Option Addr) (cap : Nat) (w : World) : Calls Yba.prog 20 #[.slice none 0 0, .slice a 0 cap] w fun e w' => e = .returned (.slice none 0 0) ∧ w' = w := by
  have hcp := fun ty w => run_copy_none (P := Yba.prog) w 30 30 ty 50 none a 0 0 0 cap Yba.underlying30 size50 rfl
  go_enter Yba.func20, Yba.ntmps20
  go_wp2_with (go_at_call 26; refine (nmake_zero _).mono ?_; rintro e w' ⟨rfl, rfl⟩)
  go_ret
  exact ⟨rfl, rfl⟩

theorem setRow_below {B g : Nat} {w w' : World} (h : Below B w w') (hg : B ≤ g) (cs : Array Value) : Below B w (w'.setRow g cs) :=
  h.trans ⟨rfl, rfl, rfl, by simp [World.setRow], fun k hk => by simp only [World.setRow, Array.getElem?_modify]; rw [if_neg (by omega)]⟩

set_option maxHeartbeats 400000 in
theorem nset_any (b cap : Nat) (ws : List Int) (w : World) (h0 : 0 < ws.length) (hl : ws.length ≤ 200000) (hb : b < w.heap.size) (hc : ∀ j, j < ws.length → w.cell? ⟨b, j, none⟩ = some (.int .u64 (wAt ws j))) :
    Calls Yba.prog 20 #[.slice none 0 0, .slice (some ⟨b, 0, none⟩) ws.length cap] w fun e w' => ∃ u, e = .returned u ∧ NatIs w.heap.size w' u ws ∧ Below w.heap.size w w' := by
  have HC : Hid _ := hc
  clear hc
  go_enter Yba.func20, Yba.ntmps20
  go_wp2_with fail
  refine (nmake_any ws.length hl h0 _).mono ?_
  rintro e w1 ⟨zc, hzc, rfl, hrow, hbl, hsz⟩
  obtain ⟨cur, hcur, hcs, hcz⟩ := hrow
  have hcp := fun ty => run_copy_row (P := Yba.prog) w1 30 30 ty 50 w.heap.size 0 ws.length zc ⟨b, 0, none⟩ ws.length cap cur 50 (ws.map (fun x => Value.int .u64 x)) Yba.underlying30 size50 hcur (by simp)
    (fun j v hj => by
      rw [List.getElem?_map] at hj
      obtain ⟨x, hx, rfl⟩ := Option.map_eq_some_iff.1 hj
      have hjl : j < ws.length := (List.getElem?_eq_some_iff.1 hx).1
      rw [addr_add]
      have := HC.out j hjl
      unfold wAt at this
      rw [List.getD, hx] at this
      exact (hbl.cell (p := ⟨b, j, none⟩) hb).trans this) (by simp; omega) (by simp [Value.oneCell'])
  obtain ⟨w2, hw2⟩ : ∃ w2, w2 = w1.setRow w.heap.size (cur.toList.take 0 ++ ws.map (fun x => Value.int .u64 x) ++ cur.toList.drop (0 + (ws.map (fun x => Value.int .u64 x)).length)).toArray := ⟨_, rfl⟩
  rw [← hw2] at hcp
  have hblk : w2.heap[w.heap.size]? = some (.cells (cur.toList.take 0 ++ ws.map (fun x => Value.int .u64 x) ++ cur.toList.drop (0 + (ws.map (fun x => Value.int .u64 x)).length)).toArray 50) := by
    rw [hw2]; exact setRow_heap _ _ _ _ _ _ hcur
  have HN : Hid (NatIs w.heap.size w2 (.slice (some ⟨w.heap.size, 0, none⟩) ws.length zc) ws) := by
    refine ⟨_, _, rfl, fun _ => ⟨w.heap.size, rfl, Nat.le_refl _, (Array.getElem?_eq_some_iff.1 hblk).1, fun j hj => ?_⟩⟩
    simp only [World.cell?, hblk]
    have e : ws[j]? = some ws[j] := List.getElem?_eq_getElem hj
    rw [List.take_zero, List.nil_append, List.getElem?_toArray, List.getElem?_append_left (by simpa using hj), List.getElem?_map, e]
    unfold wAt
    rw [List.getD, e]
    rfl
  have HBl : Hid (Below w.heap.size w w2) := by rw [hw2]; exact setRow_below hbl (Nat.le_refl _) _
  clear hblk hw2 hcz hcs hcur hbl hsz
  go_wp2_with fail
  go_ret
  exact ⟨_, rfl, HN, HBl⟩

theorem nset_all (v : Value) (ws : List Int) (w : World) (base : Nat) (hv : NatIs base w v ws) (hl : ws.length ≤ 200000) :
    Calls Yba.prog 20 #[.slice none 0 0, v] w fun e w' => ∃ u, e = .returned u ∧ NatIs w.heap.size w' u ws ∧ Below w.heap.size w w' := by
  obtain ⟨a, cap, rfl, h⟩ := hv
  by_cases h0 : 0 < ws.length
  · obtain ⟨b, rfl, _, hb, hc⟩ := h h0
    exact nset_any b cap ws w h0 hl hb hc
  · have e : ws.length = 0 := by omega
    have e2 : ws = [] := List.eq_nil_of_length_eq_zero e
    rw [e]
    refine (nset_nil a cap w).mono ?_
    rintro e w' ⟨rfl, rfl⟩
    exact ⟨_, rfl, ⟨none, 0, by rw [e2]; rfl, fun h => by rw [e2] at h; simp at h⟩, Below.refl _ _⟩

theorem NatIs.grown {base Z : Nat} {w w' : World} {v : Value} {ws : List Int} (h : NatIs base w v ws) (hg : w.grownBy w' (some Z)) (hZ : Z < base) : NatIs base w' v ws := by
  obtain ⟨a, cap, rfl, h⟩ := h
  refine ⟨a, cap, rfl, fun h0 => ?_⟩
  obtain ⟨b, rfl, h1, h2, h3⟩ := h h0
  exact ⟨b, rfl, h1, Nat.lt_of_lt_of_le h2 hg.size, fun j hj => (World.cell?_of_block (a := ⟨b, j, none⟩) (hg.block b h2 (by intro e; cases e; omega))).trans (h3 j hj)⟩

set_option maxRecDepth 100000 in
set_option maxHeartbeats 1000000 in
/-- 'z.Set(x)', z new -/
theorem iSet (Z X base : Nat) (neg : Bool) (xv : Value) (ws : List Int) (w : World) (hZX : Z ≠ X) (hZ : Blk w Z #[.bool false, .slice none 0 0] 32) (hX : Blk w X #[.bool neg, xv] 32) (hn : NatIs base w xv ws) (hl : ws.length ≤ 200000) :
    Calls Yba.prog 7 #[.pointer (some ⟨Z, 0, none⟩), .pointer (some ⟨X, 0, none⟩)] w fun e w' => e = .returned (.pointer (some ⟨Z, 0, none⟩)) ∧ ∃ u, Blk w' Z #[.bool neg, u] 32 ∧ NatIs w.heap.size w' u ws ∧ w.grownBy w' (some Z) := by
  have hq := neq_other w Z X _ _ hZX hZ hX
  have HS : Hid (∀ wq, wq = w.drew → Calls Yba.prog 20 #[.slice none 0 0, xv] wq fun e w' => ∃ a cap, e = .returned (.slice a ws.length cap) ∧ Hid (NatIs w.heap.size w' (.slice a ws.length cap) ws) ∧ Hid (Below w.heap.size w w') ∧
      w'.cell? ⟨Z, 0, none⟩ = some (.bool false) ∧ w'.cell? ⟨Z, 1, none⟩ = some (.slice none 0 0) ∧ w'.cell? ⟨X, 0, none⟩ = some (.bool neg) ∧ w'.frozen? ⟨Z, 0, none⟩ = false ∧ w'.frozen? ⟨Z, 1, none⟩ = false) := fun wq e => by
    subst e
    refine (nset_all xv ws w.drew base hn hl).mono ?_
    rintro e w1 ⟨u, rfl, hnu, hbu⟩
    obtain ⟨a, cap, rfl, hnu'⟩ := hnu
    have hZ1 := Blk.below (w := w.drew) hZ hbu
    have hX1 := Blk.below (w := w.drew) hX hbu
    have d0 := hZ1.cell 0
    have d1 := hZ1.cell 1
    have d2 := hX1.cell 0
    simp at d0 d1 d2
    exact ⟨a, cap, rfl, ⟨a, cap, rfl, hnu'⟩, ⟨hbu.os, hbu.tape, hbu.output, hbu.size, hbu.block⟩, d0, d1, d2, hZ1.frozen 0, hZ1.frozen 1⟩
  have z0 := hZ.cell 0
  have z1 := hZ.cell 1
  have x0 := hX.cell 0
  have x1 := hX.cell 1
  simp at z0 z1 x0 x1
  have hZlt := hZ.lt
  have hXlt := hX.lt
  have HZ : Hid (Blk w Z #[.bool false, .slice none 0 0] 32) := hZ
  obtain ⟨a, cap, rfl, hn⟩ := hn
  clear hZ hX hn
  go_enter Yba.func7, Yba.ntmps7
  go_wp2_with fail
  go_region_with (go_at_call 20; refine (HS.out _ rfl).mono ?_; rintro e w1 ⟨a1, cap1, rfl, hnu, hbu, d0, d1, d2, f0, f1⟩)
  all_goals
    go_wp2_with fail
    go_ret
    have hZ1 : Blk w1 Z #[.bool false, .slice none 0 0] 32 := (Below.block hbu Z hZlt).trans HZ
    refine ⟨rfl, _, (hZ1.set 1 (.slice a1 ws.length cap1)).set 0 (.bool neg), NatIs.setCell (NatIs.setCell hnu (a := ⟨Z, 1, none⟩) hZlt _) (a := ⟨Z, 0, none⟩) hZlt _, ?_⟩
    exact ⟨hbu.out.os, hbu.out.tape, hbu.out.output, by simpa using Below.size hbu, fun k hk hne => by
      rw [Below.heap_setCell _ _ _ _ (by intro e; apply hne; rw [e]), Below.heap_setCell _ _ _ _ (by intro e; apply hne; rw [e])]
      exact Below.block hbu k hk⟩

set_option maxHeartbeats 400000 in
theorem iSign_zero (Z cap : Nat) (neg : Bool) (a : Option Addr) (w : World) (hZ : Blk w Z #[.bool neg, .slice a 0 cap] 32) :
    Calls Yba.prog 21 #[.pointer (some ⟨Z, 0, none⟩)] w fun e w' => e = .returned (.int .i64 0) ∧ w' = w := by
  have c0 := hZ.cell 0
  have c1 := hZ.cell 1
  simp at c0 c1
  clear hZ
  go_enter Yba.func21, Yba.ntmps21
  go_wp2_with fail
  go_ret
  exact ⟨rfl, rfl⟩

set_option maxHeartbeats 400000 in
theorem iSign_neg (Z n cap : Nat) (a : Option Addr) (w : World) (hn : 0 < n) (hZ : Blk w Z #[.bool true, .slice a n cap] 32) :
    Calls Yba.prog 21 #[.pointer (some ⟨Z, 0, none⟩)] w fun e w' => e = .returned (.int .i64 (-1)) ∧ w' = w := by
  have c0 := hZ.cell 0
  have c1 := hZ.cell 1
  simp at c0 c1
  have hb : ((n : Int) == 0) = false := by simp; omega
  clear hZ
  go_enter Yba.func21, Yba.ntmps21
  go_wp2_with fail
  go_ret
  exact ⟨rfl, rfl⟩

set_option maxHeartbeats 400000 in
theorem iSign_pos (Z n cap : Nat) (a : Option Addr) (w : World) (hn : 0 < n) (hZ : Blk w Z #[.bool false, .slice a n cap] 32) :
    Calls Yba.prog 21 #[.pointer (some ⟨Z, 0, none⟩)] w fun e w' => e = .returned (.int .i64 1) ∧ w' = w := by
  have c0 := hZ.cell 0
  have c1 := hZ.cell 1
  simp at c0 c1
  have hb : ((n : Int) == 0) = false := by simp; omega
  clear hZ
  go_enter Yba.func21, Yba.ntmps21
  go_wp2_with fail
  go_ret
  exact ⟨rfl, rfl⟩
end Go.Proofs.Ybulkfqbm
