import Derived.Test.YbulkfqakQLoop1
namespace Go.Proofs.Ybulkfqak
open Go.RowKit Go.Shelf
attribute [-simp] Yba.isAgg95
section
variable {x : Cx} {nb : Nat} {p : Prg nb} {q : Nat → Option Addr} {fi la : Nat → Int} {w0 : World} {v0 : Value} {n0 : Nat} {xs0 : List Value}

theorem made_get (z : Array Value) (n j : Nat) (hj : j < z.size) (hn : j < n) : (madeCells z n)[j]? = z[j]? := by
  simp [madeCells, hn, Nat.mod_eq_of_lt hj, hj]
theorem make89 (nb : Nat) (hnb : nb ≤ 65536) : ∃ MS : Array Value, MS.size = nb * 130 ∧ (0 < nb → ∀ j, j < 130 → MS[j]? = st0Cells[j]?) ∧ ∀ w, (Instr.makeSlice 89 (.int .i64 (nb : Int)) (.int .i64 (nb : Int))).run Yba.prog w = .ok (.slice (some ⟨w.heap.size, 0, none⟩) nb nb) (w.alloc (.cells MS 95)) := by
  obtain ⟨i, hi, hzz⟩ := Option.map_eq_some_iff.1 zv95_eq
  obtain ⟨i', hi', hb⟩ := Option.map_eq_some_iff.1 bytes95
  rw [hi] at hi'
  injection hi' with hi'
  subst hi'
  simp only [Prod.mk.injEq] at hzz
  obtain ⟨hz, hs⟩ := hzz
  have hsz : st0Cells.toArray.size = 130 := by simp [st0Cells, zv4]
  refine ⟨madeCells st0Cells.toArray (nb * 130), size_madeCells _ _, fun h0 j hj => ?_, fun w => ?_⟩
  · rw [made_get _ _ _ (by omega) (by omega)]
    simp
  · have hr := run_make (P := Yba.prog) w 89 95 i (.agg st0Cells.toArray) Yba.underlying89 hi hz .i64 .i64 (nb : Int) (nb : Int) (by omega) (Int.le_refl _) (by rw [hb]; omega) (by omega)
    simp only [Int.toNat_natCast, hs, Value.cells] at hr
    exact hr
/-- the walk's start -/
def s00 : St := { stack := [0], seen := upd (fun _ => false) 0 true, delta := fun _ => 0 }
theorem unseen_none (n : Nat) : unseen (fun _ => false) n = n := by
  induction n with
  | zero => rfl
  | succ n ih => unfold unseen; rw [ih]; simp
theorem good00 (nb : Nat) (h : 0 < nb) : Good nb s00 0 := by
  refine ⟨fun y hy => ?_, ?_, fun y _ _ => ?_⟩
  · obtain rfl : y = 0 := by simpa [s00] using hy
    refine ⟨h, ?_⟩
    show upd (fun _ => false) 0 true 0 = true
    exact upd_same _ _ _
  · have := unseen_upd (fun _ => false) 0 rfl nb h
    rw [unseen_none] at this
    show 0 + 1 + unseen (upd (fun _ => false) 0 true) nb = nb
    omega
  · simp [s00]
theorem fall_start {b3 b4 b5 b6 b7 F ST b11 : Nat} {MS : Array Value} {WD : World} (he : Ent x p q fi la v0 n0 xs0 w0) (g0 : w0.grownBy WD none) (r3 : WD.rowIs b3 66 1 (fun _ => .pointer (some ⟨x.C, 0, none⟩))) (r4 : WD.rowIs b4 34 1 (fun _ => .slice (some ⟨x.I, 0, none⟩) x.N x.N))
    (r5 : WD.rowIs b5 35 1 (fun _ => .slice (some ⟨x.O, 0, none⟩) x.N x.N)) (r6 : WD.rowIs b6 4 1 (fun _ => .bool false)) (r7 : WD.rowIs b7 33 1 (fun _ => .slice (some ⟨F, 0, none⟩) nb nb)) (r11 : WD.rowIs b11 89 1 (fun _ => .slice (some ⟨ST, 0, none⟩) nb nb))
    (rF : WD.rowIs F 3 nb (fun i => .int .i64 ((p.st i : Nat) : Int))) (hST : WD.heap[ST]? = some (.cells MS 95)) (hMS : MS.size = nb * 130) (hM0 : ∀ j, j < 130 → MS[j]? = st0Cells[j]?) (n6 : w0.heap.size ≤ b6) (nST : w0.heap.size ≤ ST) :
    FS { x with b3 := b3, b4 := b4, b5 := b5, b6 := b6, b7 := b7, F := F, ST := ST, b11 := b11, b12 := WD.heap.size + 1 } p q fi la w0 s00 ((((WD.drew.setCell ⟨ST, 0, none⟩ (.pointer (some ⟨x.A, 0, none⟩))).setCell ⟨x.K, 9, none⟩ (.bool true)).alloc (.cells #[.int .i32 0] 21)).alloc (.cells #[.slice (some ⟨WD.heap.size, 0, none⟩) 1 1] 48)) := by
  have rK : WD.rowIs x.K 54 (nb * 11) (blkF p q fi la (fun _ => false)) := row_grown he.rK g0 (by simp)
  have neS : ∀ {b t n f}, WD.rowIs b t n f → t ≠ 95 → b ≠ ST := fun hb ht e => by
    obtain ⟨c', h2, _⟩ := hb
    rw [e, hST] at h2
    injection h2 with h2
    injection h2 with _ h2
    exact ht h2.symm
  have mv : ∀ {b t n f}, WD.rowIs b t n f → t ≠ 95 → t ≠ 54 → ((((WD.drew.setCell ⟨ST, 0, none⟩ (.pointer (some ⟨x.A, 0, none⟩))).setCell ⟨x.K, 9, none⟩ (.bool true)).alloc (.cells #[.int .i32 0] 21)).alloc (.cells #[.slice (some ⟨WD.heap.size, 0, none⟩) 1 1] 48)).rowIs b t n f := fun hb h1 h2 =>
    (((hb.drew.setOther (a := ⟨ST, 0, none⟩) (neS hb h1) _).setOther (a := ⟨x.K, 9, none⟩) (row_ne hb rK h2) _).alloc _).alloc _
  have hnb0 := he.hnb0
  have hblk : ((((WD.drew.setCell ⟨ST, 0, none⟩ (.pointer (some ⟨x.A, 0, none⟩))).setCell ⟨x.K, 9, none⟩ (.bool true)).alloc (.cells #[.int .i32 0] 21)).alloc (.cells #[.slice (some ⟨WD.heap.size, 0, none⟩) 1 1] 48)).heap[ST]? = some (.cells (MS.setIfInBounds 0 (.pointer (some ⟨x.A, 0, none⟩))) 95 (0, 0)) := by
    have hSl : ST < WD.heap.size := (Array.getElem?_eq_some_iff.1 hST).1
    rw [Below.heap_alloc _ _ _ (by simp; omega), Below.heap_alloc _ _ _ (by simpa using hSl), Below.heap_setCell _ _ _ _ (fun e => neS rK (by decide) e.symm)]
    simp only [World.setCell, Array.getElem?_modify]
    have : WD.drew.heap[ST]? = some (.cells MS 95) := hST
    simp [this]
  refine ⟨?_, mv r3 (by decide) (by decide), mv r4 (by decide) (by decide), mv r5 (by decide) (by decide), ⟨_, mv r6 (by decide) (by decide)⟩, mv r7 (by decide) (by decide), mv r11 (by decide) (by decide), mv rF (by decide) (by decide), ?_, ⟨?_, ?_⟩, ?_, nST, by have := g0.size; show w0.heap.size ≤ WD.heap.size + 1; omega, n6⟩
  · refine ⟨g0.os, g0.tape, g0.output, by have := g0.size; simp; omega, fun k hk hK => ?_⟩
    have hkl : k < WD.heap.size := Nat.lt_of_lt_of_le hk g0.size
    rw [Below.heap_alloc _ _ _ (by simp; omega), Below.heap_alloc _ _ _ (by simpa using hkl), Below.heap_setCell _ _ _ _ (fun e => hK (by rw [e])), Below.heap_setCell _ _ _ _ (by show k ≠ ST; omega)]
    exact g0.block k hk (by simp)
  · refine (((((rK.drew.setOther (a := ⟨ST, 0, none⟩) (neS rK (by decide)) _).set 9 (.bool true)).congr fun j _ => ?_).alloc _).alloc _)
    have := blk_seen p q fi la (fun _ => false) 0 j
    rw [show 0 * 11 + 9 = 9 by omega] at this
    exact this
  · exact ⟨MS.setIfInBounds 0 (.pointer (some ⟨x.A, 0, none⟩)), hblk, by simpa using hMS⟩
  · intro i hi hs
    have hi0 : i = 0 := by
      by_cases e : i = 0
      · exact e
      · have hs' : upd (fun _ => false) 0 true i = true := hs
        rw [upd_other _ _ e] at hs'
        cases hs'
    subst hi0
    intro j v hv
    show World.cell? _ ⟨ST, 0 * 130 + j, none⟩ = some v
    have hv' : (stCells x.A 0)[j]? = some v := hv
    have hj : j < 130 := by
      have := (List.getElem?_eq_some_iff.1 hv').1
      rwa [stCells_length] at this
    rw [show 0 * 130 + j = j by omega]
    have hc : ∀ k, World.cell? ((((WD.drew.setCell ⟨ST, 0, none⟩ (.pointer (some ⟨x.A, 0, none⟩))).setCell ⟨x.K, 9, none⟩ (.bool true)).alloc (.cells #[.int .i32 0] 21)).alloc (.cells #[.slice (some ⟨WD.heap.size, 0, none⟩) 1 1] 48)) ⟨ST, k, none⟩ = (MS.setIfInBounds 0 (.pointer (some ⟨x.A, 0, none⟩)))[k]? := fun k => by
      unfold World.cell?
      rw [hblk]
      rfl
    rw [hc, Array.getElem?_setIfInBounds]
    cases j with
    | zero =>
      have e1 : Value.pointer (some ⟨x.A, 0, none⟩) = v := by simpa [stCells] using hv'
      rw [if_pos rfl, if_pos (by omega), e1]
    | succ j =>
      rw [if_neg (by omega), hM0 (j + 1) hj]
      exact hv'
  · refine ⟨WD.heap.size, 1, row_new' _ _ _ (by simp), rfl, Or.inr ⟨WD.heap.size, 1, #[.int .i32 0], rfl, g0.size, ?_, by decide, by decide, rfl, rfl⟩⟩
    rw [Below.heap_alloc _ _ _ (by simp)]
    exact alloc_at _ _ _ (by simp)

/-- what was marked is shut -/
structure Shut (m : Nat) (W W' : World) : Prop where
  os : W'.os = W.os
  tape : W'.tape = W.tape
  output : W'.output = W.output
  size : W'.heap.size = W.heap.size
  block : ∀ k, (k < m ∨ ∃ c t fr, W.heap[k]? = some (.cells c t fr)) → W'.heap[k]? = W.heap[k]?
theorem leaves_marks {fn : Func} {tmps : Array Value} {R : Ending → World → Prop} {m : Nat} : ∀ (Ds : List Nat) (W : World), Marks m Ds W → (∀ W', Shut m W W' → LeavesIn Fence.wide 3 Yba.prog fn tmps R [] .returning W') → LeavesInM Fence.wide 3 Yba.prog fn tmps R (Ds.map mk) .returning W
  | [], W, _, h => h W ⟨rfl, rfl, rfl, rfl, fun _ _ => rfl⟩
  | D :: Ds, W, hM, h => by
    have hD := hM.2 D (by simp)
    have hn := List.nodup_cons.1 hM.1
    refine ⟨by simp, Or.inl ⟨D, W.putObj D (.deferred none), rfl, run_takeDeferred hD.2, ?_⟩⟩
    refine leaves_marks Ds _ ⟨hn.2, fun E hE => ⟨(hM.2 E (by simp [hE])).1, ?_⟩⟩ fun W' hW' => h W' ?_
    · rw [World.putObj_heap_other (fun e => hn.1 (by rw [← e]; exact hE))]
      exact (hM.2 E (by simp [hE])).2
    · have hsz : (W.putObj D (.deferred none)).heap.size = W.heap.size := by simp [World.putObj]
      refine ⟨hW'.os, hW'.tape, hW'.output, hW'.size.trans hsz, fun k hk => ?_⟩
      have hne : k ≠ D := by
        rintro rfl
        rcases hk with hk | ⟨c, t, fr, hc⟩
        · have := hD.1; omega
        · rw [hD.2] at hc; cases hc
      have e1 : (W.putObj D (.deferred none)).heap[k]? = W.heap[k]? := World.putObj_heap_other hne
      rw [hW'.block k ?_, e1]
      rcases hk with hk | hk
      · exact Or.inl hk
      · right
        rw [e1]
        exact hk
theorem fol_leave {R : Ending → World → Prop} {a : Act} {W : World} {Ds : List Nat} {ok : Bool} {b6 m : Nat} (hd : a.defers = Ds.map mk) (h6 : a.tmps[6]? = some (.pointer (some ⟨b6, 0, none⟩))) (hM : Marks m Ds W) (r6 : W.rowIs b6 4 1 (fun _ => .bool ok)) (hR : ∀ W', Shut m W W' → R (.returned (.bool ok)) W') :
    LeavesInM Fence.wide 3 Yba.prog Yba.f11 a.tmps R a.defers .returning W := by
  rw [hd]
  refine leaves_marks Ds W hM fun W' hW' => ⟨.bool ok, ?_, hR W' hW'⟩
  have c6 := (r6.of_block (hW'.block b6 (Or.inr (row_cells r6)))).cell (i := 0) (by omega)
  have e6' : (a.tmps[6]?).getD undef = .pointer (some ⟨b6, 0, none⟩) := by rw [h6]; rfl
  simp [results, Yba.results11, go_sem, e6', c6]
/-- what lies when 'follow' is over -/
structure FEnd (x : Cx) {nb : Nat} (p : Prg nb) (q : Nat → Option Addr) (w0 : World) (v0 : Value) (sn : Nat → Bool) (fi la : Nat → Int) (n : Nat) (xs : List Value) (v : Value) (W : World) : Prop where
  os : W.os = w0.os
  tape : W.tape = w0.tape
  output : W.output = w0.output
  size : w0.heap.size ≤ W.heap.size
  blk : ∀ k, k < w0.heap.size → k ≠ x.C → k ≠ x.K → some k ≠ v0.ownBlock → W.heap[k]? = w0.heap[k]?
  code : ∀ j, j ≠ 3 → W.cell? ⟨x.C, j, none⟩ = w0.cell? ⟨x.C, j, none⟩
  rK : W.rowIs x.K 54 (nb * 11) (blkF p q fi la sn)
  acc : Acc W x.C x.base n xs v
  at' : v.ownBlock = v0.ownBlock ∨ ∃ g, v.ownBlock = some g ∧ w0.heap.size ≤ g
theorem F3.fin {x' : Cx} {sn : Nat → Bool} {dl fi la : Nat → Int} {n : Nat} {xs : List Value} {v : Value} {W W' : World} (h : F3 x' p q w0 v0 sn dl fi la n xs v W) (hC : x'.C = x.C) (hK : x'.K = x.K) (hb : x'.base = x.base) (hs : Shut w0.heap.size W W') : FEnd x p q w0 v0 sn fi la n xs v W' := by
  have eC := hs.block x.C (Or.inl (by rw [← hC]; exact h.Clt))
  refine ⟨hs.os.trans h.os, hs.tape.trans h.tape, hs.output.trans h.output, by rw [hs.size]; exact h.size, fun k hk h1 h2 h3 => (hs.block k (Or.inl hk)).trans (h.blk k hk (by rw [hC]; exact h1) (by rw [hK]; exact h2) h3), fun j hj => (World.cell?_of_block (a := ⟨x.C, j, none⟩) eC).trans (by have := h.code j hj; rwa [hC] at this),
    (by have := h.rK; rw [hK] at this; exact this.of_block (hs.block _ (Or.inr (row_cells this)))), ?_, h.at'⟩
  have ha := h.acc
  rw [hC, hb] at ha
  exact ⟨(World.cell?_of_block (a := ⟨x.C, 3, none⟩) eC).trans ha.cell, (World.frozen?_of_block (a := ⟨x.C, 3, none⟩) eC).trans ha.fr, own_kept ha.own fun k hk => hs.block k (Or.inr (by obtain ⟨c, hc⟩ := own60_at ha.own hk; exact ⟨c, _, _, hc⟩)), ha.lt, by rw [hs.size]; exact ha.ble⟩
theorem F3.set6 {sn : Nat → Bool} {dl fi la : Nat → Int} {n : Nat} {xs : List Value} {v u : Value} {W : World} (h : F3 x p q w0 v0 sn dl fi la n xs v W) : F3 x p q w0 v0 sn dl fi la n xs v (W.setCell ⟨x.b6, 0, none⟩ u) ∧ (W.setCell ⟨x.b6, 0, none⟩ u).rowIs x.b6 4 1 (fun _ => u) := by
  obtain ⟨f6, h6⟩ := h.B6
  have g := gb_set W x.b6 0 u
  have h6' : (W.setCell ⟨x.b6, 0, none⟩ u).rowIs x.b6 4 1 (fun _ => u) := (h6.set 0 u).congr fun j hj => by rw [if_pos (by omega)]
  have ne : ∀ {b t n f}, W.rowIs b t n f → t ≠ 4 → some b ≠ some x.b6 := fun hb ht e => by injection e with e; exact row_ne hb h6 ht e
  have hCb := g.block x.C (Nat.lt_of_lt_of_le h.Clt h.size) (fun e => by injection e with e; exact h.ne.2.2.2.1 e.symm)
  refine ⟨⟨h.os, h.tape, h.output, by simpa using h.size, fun k hk h1 h2 h3 => (g.block k (Nat.lt_of_lt_of_le hk h.size) (fun e => ?_)).trans (h.blk k hk h1 h2 h3), fun j hj => (World.cell?_of_block (a := ⟨x.C, j, none⟩) hCb).trans (h.code j hj),
    h.Clt, h.ne, row_grown h.B3 g (ne h.B3 (by decide)), row_grown h.B4 g (ne h.B4 (by decide)), row_grown h.B5 g (ne h.B5 (by decide)), ⟨_, h6'⟩, row_grown h.B7 g (ne h.B7 (by decide)), row_grown h.B11 g (ne h.B11 (by decide)),
    row_grown h.rF g (ne h.rF (by decide)), row_grown h.rK g (ne h.rK (by decide)), h.st.keep (g.block _ h.st.lt (fun e => ?_)), ⟨(World.cell?_of_block (a := ⟨x.C, 3, none⟩) hCb).trans h.acc.cell, (World.frozen?_of_block (a := ⟨x.C, 3, none⟩) hCb).trans h.acc.fr, own_kept h.acc.own fun k hk => g.block k (own_lt h.acc.own hk) (fun e => ?_), h.acc.lt, by simpa using h.acc.ble⟩, h.at', h.new⟩, h6'⟩
  · injection e with e; have := h.new.2; omega
  · obtain ⟨⟨c, h1, _⟩, _⟩ := h.st
    injection e with e
    obtain ⟨c', h2, _⟩ := h6
    rw [← e, h1] at h2
    injection h2 with h2
    injection h2 with _ h2
    cases h2
  · injection e with e
    subst e
    exact own60_ne h.acc.own h6 (by decide) hk.symm
/-- what 'follow' does -/
def FolPost (x : Cx) {nb : Nat} (p : Prg nb) (q : Nat → Option Addr) (fi la : Nat → Int) (w0 : World) (v0 : Value) (n0 : Nat) (xs0 : List Value) (e : Ending) (W : World) : Prop :=
  ∃ (ok : Bool) (s' : St), e = .returned (.bool ok) ∧ Hid (Done p s00 s' ok ∧ ∃ v, (ok = true → FEnd x p q w0 v0 s'.seen (fiTo p s'.seen n0 fi nb) (laTo p s'.seen n0 la nb) (cntTo p s'.seen n0 nb) (accTo p s'.seen s'.delta xs0 nb) v W) ∧ (ok = false → FEnd x p q w0 v0 s'.seen fi la n0 xs0 v W))

set_option maxRecDepth 1000000 in
set_option maxHeartbeats 4000000 in
theorem follow_any (he : Ent x p q fi la v0 n0 xs0 w0) : Calls Yba.prog 11 #[.pointer (some ⟨x.C, 0, none⟩), .slice (some ⟨x.I, 0, none⟩) x.N x.N, .slice (some ⟨x.O, 0, none⟩) x.N x.N] w0 (FolPost x p q fi la w0 v0 n0 xs0) := by
  refine (callsIn_wide (n := 3)).1 ?_
  refine callsIn_of_wp_marks Yba.func11 rfl trivial ?_ rfl
  simp only [Yba.ntmps11, List.size_toArray, List.length_cons, List.length_nil, Nat.reduceAdd, Nat.reduceSub, Array.replicate_succ, Array.replicate_zero, List.push_toArray, List.append_toArray, List.nil_append, List.cons_append]
  refine wpIn_wide.2 ?_
  refine Code.wp_mono NoPanic.imp ?_
  have hnb := he.hnb
  have hCl := he.rC.lt
  have hmk : ∀ w, (Instr.makeSlice 33 (.int .i64 (nb : Int)) (.int .i64 (nb : Int))).run Yba.prog w = .ok (.slice (some ⟨w.heap.size, 0, none⟩) nb nb) (w.alloc (.cells (madeCells #[.int .i64 0] nb) 3)) := fun w => run_make_row' 33 3 (.int .i64 0) 8 Yba.underlying33 info3 rfl .i64 .i64 nb (by omega) (by omega) w
  have cC := he.rC.cell (i := 2) (by omega)
  simp only [codeF] at cC
  clear cC
  go_upto_region 1 with fail
  obtain ⟨WA, b3, b4, b5, b6, hWA, h3, h4, h5, h6, HA⟩ : ∃ WA b3 b4 b5 b6, WA = (((w0.alloc (.cells #[.pointer (some ⟨x.C, 0, none⟩)] 66)).alloc (.cells #[.slice (some ⟨x.I, 0, none⟩) x.N x.N] 34)).alloc (.cells #[.slice (some ⟨x.O, 0, none⟩) x.N x.N] 35)).alloc (.cells #[.bool false] 4) ∧
      b3 = w0.heap.size ∧ b4 = w0.heap.size + 1 ∧ b5 = w0.heap.size + 1 + 1 ∧ b6 = w0.heap.size + 1 + 1 + 1 ∧
      Hid (w0.grownBy WA none ∧ WA.rowIs b3 66 1 (fun _ => .pointer (some ⟨x.C, 0, none⟩)) ∧ WA.rowIs b4 34 1 (fun _ => .slice (some ⟨x.I, 0, none⟩) x.N x.N) ∧ WA.rowIs b5 35 1 (fun _ => .slice (some ⟨x.O, 0, none⟩) x.N x.N) ∧ WA.rowIs b6 4 1 (fun _ => .bool false) ∧ w0.heap.size ≤ b6 ∧ WA.heap.size = w0.heap.size + 4) := by
    refine ⟨_, _, _, _, _, rfl, rfl, rfl, rfl, rfl, ?_⟩
    refine ⟨gb_trans (gb_trans (gb_trans (gb_alloc _ _ _) (gb_alloc _ _ _)) (gb_alloc _ _ _)) (gb_alloc _ _ _), (((row_new w0 _ _).alloc _).alloc _).alloc _, ((row_new' _ _ _ (by simp)).alloc _).alloc _, (row_new' _ _ _ (by simp)).alloc _, row_new' _ _ _ (by simp), by omega, by simp⟩
  rw [← hWA, ← h6, ← h5, ← h4, ← h3]
  clear hWA h3 h4 h5 h6
  obtain ⟨gA, r3, r4, r5, r6, n6, sA⟩ := HA.out
  have c3 := r3.cell (i := 0) (by omega)
  have cC : WA.cell? ⟨x.C, 2, none⟩ = some (.slice (some ⟨x.K, 0, none⟩) nb nb) := (World.cell?_of_block (a := ⟨x.C, 2, none⟩) (gA.block x.C hCl (by simp))).trans (he.rC.cell (i := 2) (by omega))
  have hl3 := r3.lt
  have hlC : x.C < WA.heap.size := by omega
  clear gA r3 r4 r5 r6 n6 sA
  go_upto_region 2 with fail
  obtain ⟨WB, F, b7, hWB, hF, h7, HB⟩ : ∃ WB F b7, WB = (WA.alloc (.cells (madeCells #[.int .i64 0] nb) 3)).alloc (.cells #[.slice (some ⟨WA.heap.size, 0, none⟩) nb nb] 33) ∧ F = WA.heap.size ∧ b7 = WA.heap.size + 1 ∧
      Hid (WA.grownBy WB none ∧ WB.rowIs F 3 nb (fun i => .int .i64 (((if i < 0 then p.st i else 0) : Nat) : Int)) ∧ WB.rowIs b7 33 1 (fun _ => .slice (some ⟨F, 0, none⟩) nb nb) ∧ WA.heap.size ≤ F) := by
    refine ⟨_, _, _, rfl, rfl, rfl, gb_trans (gb_alloc _ _ _) (gb_alloc _ _ _), ?_, row_new' _ _ _ (by simp), Nat.le_refl _⟩
    exact ((World.rowIs_made WA (.int .i64 0) nb 3).congr (fun i _ => by simp)).alloc _
  rw [← hWB, ← h7, ← hF]
  clear hWB hF h7 c3 cC hl3 hlC
  have HB1 : Hid (w0.grownBy WB none ∧ WB.rowIs b3 66 1 (fun _ => .pointer (some ⟨x.C, 0, none⟩)) ∧ WB.rowIs b4 34 1 (fun _ => .slice (some ⟨x.I, 0, none⟩) x.N x.N) ∧ WB.rowIs b5 35 1 (fun _ => .slice (some ⟨x.O, 0, none⟩) x.N x.N) ∧ WB.rowIs b6 4 1 (fun _ => .bool false) ∧ WB.rowIs b7 33 1 (fun _ => .slice (some ⟨F, 0, none⟩) nb nb)) := by
    obtain ⟨gA, r3, r4, r5, r6, n6, sA⟩ := HA.out
    obtain ⟨gB, rF, r7, _⟩ := HB.out
    exact ⟨gb_trans gA gB, row_grown r3 gB (by simp), row_grown r4 gB (by simp), row_grown r5 gB (by simp), row_grown r6 gB (by simp), r7⟩
  have HFl : Hid (w0.heap.size ≤ F ∧ w0.heap.size ≤ b6) := ⟨Nat.le_trans HA.out.1.size HB.out.2.2.2, HA.out.2.2.2.2.2.1⟩
  have HF0 : Hid (WB.rowIs F 3 nb (fun i => .int .i64 (((if i < 0 then p.st i else 0) : Nat) : Int))) := HB.out.2.1
  clear HA HB
  have c3 := HB1.out.2.1.cell (i := 0) (by omega)
  have cC : WB.cell? ⟨x.C, 2, none⟩ = some (.slice (some ⟨x.K, 0, none⟩) nb nb) := (World.cell?_of_block (a := ⟨x.C, 2, none⟩) (HB1.out.1.block x.C hCl (by simp))).trans (he.rC.cell (i := 2) (by omega))
  go_upto_region 3 with fail
  clear c3 cC
  have HE : Hid (Ent x p q fi la v0 n0 xs0 w0) := he
  clear he
  refine Code.wp_mono NoPanic.imp ?_
  refine loop1 HE.out _ _ _ _ _ _ _ _ _ _ _ _ _ _ _ _ _ _ _ _ _ _ _ _ _ _ _ _ _ _ _ _ _ _ _ _ _ _ _ _ _ _ _ _ _ _ _ _ _ _ _ _ _ _ _ _ _ _ _ _ _ _ _ _ _ _ _ _ _ _ _ _ _ _ _ _ _ _ _ _ _ _ _ _ _ _ _ _ _ _ _ _ _ _ _ _ _ _ _ _ _ _ _ _ _ _ _ _ _ _ _ _ _ _ _ _ _ _ _ _ _ _ _ _ _ _ _ _ _ _ _ _ _ _ _ _ _ _ _ _ _ _ _ _ _ _ _ _ _ _ _ _ _ _ _ _ _ _ _ _ _ _ _ _ _ _ _ _ _ _ _ _ _ _ _ _ _ _ _ _ _ _ _ _ _ _ _ _ _ _ _ _ _ WB b3 b4 b5 b6 b7 F HB1 HFl.out.1 HF0 _ ?_
  intro v8 v9 v32 v33 v34 v35 v36 v37 v38 v39 v40 v41 v42 v43 v44 v45 v46 v47 W1 g1 rF1
  have HW1 : Hid (w0.grownBy W1 none ∧ W1.rowIs b3 66 1 (fun _ => .pointer (some ⟨x.C, 0, none⟩)) ∧ W1.rowIs b4 34 1 (fun _ => .slice (some ⟨x.I, 0, none⟩) x.N x.N) ∧ W1.rowIs b5 35 1 (fun _ => .slice (some ⟨x.O, 0, none⟩) x.N x.N) ∧ W1.rowIs b6 4 1 (fun _ => .bool false) ∧ W1.rowIs b7 33 1 (fun _ => .slice (some ⟨F, 0, none⟩) nb nb) ∧ W1.rowIs F 3 nb (fun i => .int .i64 ((p.st i : Nat) : Int))) := by
    obtain ⟨gB, r3, r4, r5, r6, r7⟩ := HB1.out
    have ne : ∀ {b t n f}, WB.rowIs b t n f → t ≠ 3 → some b ≠ some F := fun hb ht e => by injection e with e; exact row_ne hb HF0.out ht e
    refine ⟨⟨g1.os.trans gB.os, g1.tape.trans gB.tape, g1.output.trans gB.output, Nat.le_trans gB.size g1.size, fun k hk _ => (g1.block k (Nat.lt_of_lt_of_le hk gB.size) (fun e => by injection e with e; have := HFl.out.1; omega)).trans (gB.block k hk (by simp))⟩,
      row_grown r3 g1 (ne r3 (by decide)), row_grown r4 g1 (ne r4 (by decide)), row_grown r5 g1 (ne r5 (by decide)), row_grown r6 g1 (ne r6 (by decide)), row_grown r7 g1 (ne r7 (by decide)), rF1⟩
  clear HB1 HF0 g1 rF1 hmk
  obtain ⟨MS, hMS, hM0, hmk⟩ := make89 nb hnb
  have HMS : Hid (MS.size = nb * 130 ∧ ∀ j, j < 130 → MS[j]? = st0Cells[j]?) := ⟨hMS, hM0 HE.out.hnb0⟩
  clear hMS hM0
  have c3 := HW1.out.2.1.cell (i := 0) (by omega)
  have cC : W1.cell? ⟨x.C, 2, none⟩ = some (.slice (some ⟨x.K, 0, none⟩) nb nb) := (World.cell?_of_block (a := ⟨x.C, 2, none⟩) (HW1.out.1.block x.C hCl (by simp))).trans (HE.out.rC.cell (i := 2) (by omega))
  dsimp only
  go_upto_region 9 with fail
  obtain ⟨WD, ST, b11, hWD, hST, h11, HD⟩ : ∃ WD ST b11, WD = (W1.alloc (.cells MS 95)).alloc (.cells #[.slice (some ⟨W1.heap.size, 0, none⟩) nb nb] 89) ∧ ST = W1.heap.size ∧ b11 = W1.heap.size + 1 ∧
      Hid (W1.grownBy WD none ∧ WD.rowIs b11 89 1 (fun _ => .slice (some ⟨ST, 0, none⟩) nb nb) ∧ WD.heap[ST]? = some (.cells MS 95) ∧ w0.heap.size ≤ ST) := by
    refine ⟨_, _, _, rfl, rfl, rfl, gb_trans (gb_alloc _ _ _) (gb_alloc _ _ _), row_new' _ _ _ (by simp), ?_, HW1.out.1.size⟩
    rw [Below.heap_alloc _ _ _ (by simp)]
    exact heap_alloc_new _ _
  rw [← hWD, ← h11, ← hST]
  clear hWD h11 hST c3 cC hmk
  have HD1 : Hid (w0.grownBy WD none ∧ WD.rowIs b3 66 1 (fun _ => .pointer (some ⟨x.C, 0, none⟩)) ∧ WD.rowIs b4 34 1 (fun _ => .slice (some ⟨x.I, 0, none⟩) x.N x.N) ∧ WD.rowIs b5 35 1 (fun _ => .slice (some ⟨x.O, 0, none⟩) x.N x.N) ∧ WD.rowIs b6 4 1 (fun _ => .bool false) ∧ WD.rowIs b7 33 1 (fun _ => .slice (some ⟨F, 0, none⟩) nb nb) ∧ WD.rowIs F 3 nb (fun i => .int .i64 ((p.st i : Nat) : Int))) := by
    obtain ⟨gB, r3, r4, r5, r6, r7, rF⟩ := HW1.out
    have g := HD.out.1
    exact ⟨gb_trans gB g, row_grown r3 g (by simp), row_grown r4 g (by simp), row_grown r5 g (by simp), row_grown r6 g (by simp), row_grown r7 g (by simp), row_grown rF g (by simp)⟩
  clear HW1
  have rC : WD.rowIs x.C 70 5 (codeF x.A x.K nb v0) := row_grown HE.out.rC HD1.out.1 (by simp)
  have rK : WD.rowIs x.K 54 (nb * 11) (blkF p q fi la (fun _ => false)) := row_grown HE.out.rK HD1.out.1 (by simp)
  have hn0 := HE.out.hnb0
  have c3 := HD1.out.2.1.cell (i := 0) (by omega)
  have c11 := HD.out.2.1.cell (i := 0) (by omega)
  have cA := rC.cell (i := 0) (by omega)
  have cC := rC.cell (i := 2) (by omega)
  simp only [codeF] at cA cC
  have cK := rK.cell (i := 9) (by omega)
  have fK := rK.frozen 9
  have cS : WD.cell? ⟨ST, 0, none⟩ = some (.pointer none) := by
    have := HMS.out.2 0 (by omega)
    simp only [World.cell?, HD.out.2.2.1]
    exact this
  have fS : WD.frozen? ⟨ST, 0, none⟩ = false := by simp [World.frozen?, HD.out.2.2.1]
  have nKS : x.K ≠ ST := by have := HE.out.rK.lt; have := HD.out.2.2.2; omega
  have nCS : x.C ≠ ST := by have := HD.out.2.2.2; omega
  have n3S : b3 ≠ ST := fun e => by
    obtain ⟨c', h2, _⟩ := HD1.out.2.1
    rw [e, HD.out.2.2.1] at h2
    injection h2 with h2
    injection h2 with _ h2
    cases h2
  have n3K : b3 ≠ x.K := row_ne HD1.out.2.1 rK (by decide)
  have nCK : x.C ≠ x.K := row_ne rC rK (by decide)
  have hnbi : (0 : Int) < (nb : Int) := by omega
  clear rC rK
  go_cut [61] from 55 to 61 (fun _ wx => wx = WD.drew.setCell ⟨ST, 0, none⟩ (.pointer (some ⟨x.A, 0, none⟩)))
  case first =>
    go_region
    all_goals go_wp2_with fail
    all_goals go_meet
    all_goals rfl
  case rest =>
    subst hcut
    have cK2 : (WD.drew.setCell ⟨ST, 0, none⟩ (.pointer (some ⟨x.A, 0, none⟩))).cell? ⟨x.K, 9, none⟩ = some (blkF p q fi la (fun _ => false) 9) := by
      rw [World.cell?_setCell_other _ _ _ _ (by intro e; injection e with e; exact nKS e.symm)]; exact cK
    have c32 : (WD.drew.setCell ⟨ST, 0, none⟩ (.pointer (some ⟨x.A, 0, none⟩))).cell? ⟨b3, 0, none⟩ = some (.pointer (some ⟨x.C, 0, none⟩)) := by
      rw [World.cell?_setCell_other _ _ _ _ (by intro e; injection e with e; exact n3S e.symm)]; exact c3
    have cC2 : (WD.drew.setCell ⟨ST, 0, none⟩ (.pointer (some ⟨x.A, 0, none⟩))).cell? ⟨x.C, 2, none⟩ = some (.slice (some ⟨x.K, 0, none⟩) nb nb) := by
      rw [World.cell?_setCell_other _ _ _ _ (by intro e; injection e with e; exact nCS e.symm)]; exact cC
    go_upto_region 12 with fail
    have he' : Ent { x with b3 := b3, b4 := b4, b5 := b5, b6 := b6, b7 := b7, F := F, ST := ST, b11 := b11, b12 := WD.heap.size + 1 } p q fi la v0 n0 xs0 w0 := by
      obtain ⟨a1, a2, a3, a4, a5, a6, a7, a8, a9, a10, a11, a12, a13, a14, a15, a16, a17, a18⟩ := HE.out
      exact ⟨a1, a2, a3, a4, a5, a6, a7, a8, a9, a10, a11, a12, a13, a14, a15, a16, a17, a18⟩
    have hFS : FS { x with b3 := b3, b4 := b4, b5 := b5, b6 := b6, b7 := b7, F := F, ST := ST, b11 := b11, b12 := WD.heap.size + 1 } p q fi la w0 s00 ((((WD.setCell ⟨ST, 0, none⟩ (.pointer (some ⟨x.A, 0, none⟩))).setCell ⟨x.K, 9, none⟩ (.bool true)).alloc (.cells #[.int .i32 0] 21)).alloc (.cells #[.slice (some ⟨WD.heap.size, 0, none⟩) 1 1] 48)).drew :=
      fall_start HE.out HD1.out.1 HD1.out.2.1 HD1.out.2.2.1 HD1.out.2.2.2.1 HD1.out.2.2.2.2.1 HD1.out.2.2.2.2.2.1 HD.out.2.1 HD1.out.2.2.2.2.2.2 HD.out.2.2.1 HMS.out.1 HMS.out.2 HFl.out.2 HD.out.2.2.2
    refine loop2 he' _ _ _ _ _ _ _ _ _ _ _ _ _ _ _ _ _ _ _ _ _ _ _ _ _ _ _ _ _ _ _ _ _ _ _ _ _ _ _ _ _ _ _ _ _ _ _ _ _ _ _ _ _ _ _ _ _ _ _ _ _ _ _ _ _ _ _ _ _ _ _ _ _ _ _ _ _ _ _ _ _ _ _ _ _ _ _ _ _ _ _ _ _ _ _ _ _ _ _ _ _ _ _ _ _ _ _ _ _ _ _ _ _ _ _ _ _ _ _ _ _ _ _ _ _ _ _ _ _ _ _ _ _ _ _ _ _ _ _ _ _ _ _ _ _ _ _ _ _ _ _ _ _ _ _ _ _ _ _ _ _ _ _ _ _ _ _ _ _ _ _ _ _ _ _ _ _ _ _ _ _ _ _ _ _ _ _ _ _ _ _ _ _ _ [] s00 0 _ hFS (good00 nb hn0) ⟨List.nodup_nil, fun D hD => by simp at hD⟩ _ ?_ ?_
    · intro y13 y14 y15 y16 y17 y69 y70 y71 y72 y73 y74 y75 y76 y77 y78 y79 y80 y81 y82 y83 y84 y85 y86 y87 y88 y89 y90 y91 y92 y93 y94 y95 y96 y97 y98 y99 y100 y101 y102 y103 y104 y105 y106 y107 y108 y109 y110 y111 y112 y113 y114 y115 y116 y117 y118 y119 y120 y121 y122 y123 y124 y125 y126 y127 y128 y129 y130 y131 y132 y133 y134 y135 y136 y137 y138 y139 y140 y141 y142 y143 y144 y145 y146 y147 y148 y149 y150 y151 y152 Ds' s' t' W' hF' hg' hM' hD'
      have c3' := hF'.B3.cell (i := 0) (by omega)
      have cC' := (hF'.old he' HE.out.rC (by decide)).cell (i := 2) (by omega)
      simp only [codeF] at cC'
      have HF' : Hid (FS { x with b3 := b3, b4 := b4, b5 := b5, b6 := b6, b7 := b7, F := F, ST := ST, b11 := b11, b12 := WD.heap.size + 1 } p q fi la w0 s' W') := hF'
      have HM' : Hid (Marks w0.heap.size Ds' W') := hM'
      clear hFS cK2 c32 cC2 c3 c11 cA cC cK fK cS fS hF' hM' HD HD1 HMS HFl
      dsimp only
      go_upto_region 27 with fail
      refine loop3 he' _ _ _ _ _ _ _ _ _ _ _ _ _ _ _ _ _ _ _ _ _ _ _ _ _ _ _ _ _ _ _ _ _ _ _ _ _ _ _ _ _ _ _ _ _ _ _ _ _ _ _ _ _ _ _ _ _ _ _ _ _ _ _ _ _ _ _ _ _ _ _ _ _ _ _ _ _ _ _ _ _ _ _ _ _ _ _ _ _ _ _ _ _ _ _ _ _ _ _ _ _ _ _ _ _ _ _ _ _ _ _ _ _ _ _ _ _ _ _ _ _ _ _ _ _ _ _ _ _ _ _ _ _ _ _ _ _ _ _ _ _ _ _ _ _ _ _ _ _ _ _ _ _ _ _ _ _ _ _ _ _ _ _ _ _ _ _ _ _ _ _ _ _ _ _ _ _ _ _ _ _ _ _ _ _ _ _ _ _ _ _ _ _ _ Ds' s' t' W' (F3.start HF'.out he') hg' HM'.out _ ?_
      intro z18 z19 z20 z158 z159 z160 z161 z162 z163 z164 z165 z166 z167 z168 z169 z170 z171 z172 z173 z174 z175 z176 z177 z178 z179 z180 z181 z182 z183 z184 z185 z186 z187 z188 z189 z190 z191 z192 z193 z194 z195 z196 z197 z198 v5 W5 h5 hM5
      dsimp only
      obtain ⟨f6, h6⟩ := h5.B6
      have c6 := h6.cell (i := 0) (by omega)
      have r6 := h6.frozen 0
      have HF5 := h5.set6 (u := .bool true)
      have HM5 : Hid (Marks w0.heap.size Ds' (W5.setCell ⟨b6, 0, none⟩ (.bool true))) := hM5.keep (gb_set _ _ _ _) (fun k e => by injection e with e; subst e; exact row_cells h6)
      have H5 : Hid (F3 _ p q w0 v0 s'.seen s'.delta (fiTo p s'.seen n0 fi nb) (laTo p s'.seen n0 la nb) (cntTo p s'.seen n0 nb) (accTo p s'.seen s'.delta xs0 nb) v5 (W5.setCell ⟨b6, 0, none⟩ (.bool true)) ∧ (W5.setCell ⟨b6, 0, none⟩ (.bool true)).rowIs b6 4 1 (fun _ => .bool true)) := HF5
      have HDn : Hid (Done p s00 s' true) := hD'
      clear HF5 h5 hM5 h6 hD' c3' cC'
      go_wp2_with fail
      refine fol_leave (Ds := Ds') rfl rfl HM5.out H5.out.2 fun W'' hs => ⟨true, s', rfl, HDn.out, v5, fun _ => H5.out.1.fin rfl rfl rfl hs, fun e => (by cases e)⟩
    · intro a' W' h
      obtain ⟨s3, Ds3, h1, h2, h3, h4, h5, h6⟩ := h
      show LeavesInM Fence.wide 3 Yba.prog Yba.f11 a'.tmps _ a'.defers .returning W'
      refine fol_leave h6 h5 h3 h2 fun W'' hs => ⟨false, s3, rfl, h4, v0, fun e => (by cases e), fun _ => (F3.start h1 he').fin rfl rfl rfl hs⟩
end
end Go.Proofs.Ybulkfqak
