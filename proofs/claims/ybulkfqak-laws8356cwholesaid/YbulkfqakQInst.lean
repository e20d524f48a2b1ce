import Derived.Test.YbulkfqakQSmall
namespace Go.Proofs.Ybulkfqak
open Go.RowKit

attribute [-simp] Yba.isAgg46 Yba.sizeOf46

/-- behind the first store: two blocks of 26 cells, the second one holds an instruction -/
structure IW (w : World) (op : Int) (down : Bool) (W : World) : Prop where
  bel : Below w.heap.size w W
  rng : W.rangeAt (w.heap.size + 1) 0 (instCells op down)
  th1 : W.there (w.heap.size + 1) 0 26
  th0 : W.there w.heap.size 0 26

theorem Below.setCells' {B : Nat} {a : World} (b : Nat) (hb : B ≤ b) : ∀ (vs : List Value) (o : Nat) (w : World), Below B a w → Below B a (w.setCells b o vs)
  | [], _, _, h => h
  | v :: r, o, w, h => by
    rw [World.setCells]
    exact Below.setCells' b hb r (o + 1) _ (h.setCell (p := ⟨b, o, none⟩) hb v)

theorem IW.start (w : World) (c d : Array Value) (hc : c.size = 26) (hd : d.size = 26) : IW w 0 false (((w.alloc (.cells c 46)).alloc (.cells d 46)).setCells (w.heap.size + 1) 0 (instCells 0 false)) := by
  have t1 : ((w.alloc (.cells c 46)).alloc (.cells d 46)).there (w.heap.size + 1) 0 26 := by simpa using there_new (w.alloc (.cells c 46)) d 46 26 (by omega)
  have t0 : ((w.alloc (.cells c 46)).alloc (.cells d 46)).there w.heap.size 0 26 := World.there_alloc (there_new w c 46 26 (by omega)) _
  exact ⟨Below.setCells' _ (by omega) _ _ _ (((Below.refl _ _).alloc (Nat.le_refl _) _).alloc (by simp) _), World.rangeAt_setCells_same _ _ _ _ t1, World.there_setCells t1 _ _ _, World.there_setCells t0 _ _ _⟩

theorem IW.cell {w W : World} {op : Int} {down : Bool} (h : IW w op down W) (j : Nat) {v : Value} (hv : (instCells op down)[j]? = some v) : W.cell? ⟨w.heap.size + 1, j, none⟩ = some v := by
  simpa using h.rng j v hv
theorem IW.frozen {w W : World} {op : Int} {down : Bool} (h : IW w op down W) {j : Nat} (hj : j < 26) : W.frozen? ⟨w.heap.size + 1, j, none⟩ = false := by
  simpa using (h.th1 j hj).2
theorem IW.setc {w W : World} {op op' : Int} {down down' : Bool} (h : IW w op down W) (j : Nat) (hj : j < 26) (v : Value) (hv : instCells op' down' = (instCells op down).set j v) : IW w op' down' (W.setCell ⟨w.heap.size + 1, j, none⟩ v) := by
  have e : W.setCell ⟨w.heap.size + 1, j, none⟩ v = W.setCells (w.heap.size + 1) j [v] := by simp [World.setCells]
  refine ⟨h.bel.setCell (p := ⟨w.heap.size + 1, j, none⟩) (by simp) v, ?_, ?_, ?_⟩
  · intro i u hu
    rw [hv, List.getElem?_set] at hu
    by_cases hij : j = i
    · subst hij
      have hl : j < (instCells op down).length := by simpa [instCells] using hj
      simp [hl] at hu
      subst hu
      have := (h.th1 j hj).1
      simp at this ⊢
      exact World.cell?_setCell_same' _ _ _ this
    · rw [if_neg hij] at hu
      rw [World.cell?_setCell_other _ _ _ _ (by intro e; injection e with _ e; omega)]
      exact h.rng i u hu
  · rw [e]; exact World.there_setCells h.th1 _ _ _
  · rw [e]; exact World.there_setCells h.th0 _ _ _

theorem inst_end (w W : World) (a : Act) (hb : Below w.heap.size w W) (ht : W.there w.heap.size 0 26) (cs : List Value) (hl : cs.length = 26) (ha : a.tmps[2]?.getD undef = .pointer (some ⟨w.heap.size, 0, none⟩)) (hd : a.defers = []) :
    bodyPost Yba.prog Yba.f9 (fun e w' => e = .returned (.agg cs.toArray) ∧ Below w.heap.size w w') Exit.ret a (W.setCells w.heap.size 0 cs) := by
  have hld : (loadVar 46 ⟨w.heap.size, 0, none⟩).run Yba.prog (W.setCells w.heap.size 0 cs) = .ok (.agg cs.toArray) (W.setCells w.heap.size 0 cs) :=
    run_loadVar_mid _ _ 0 46 cs _ (World.rangeAt_setCells_same _ _ _ _ (by rw [hl]; exact ht)) Yba.underlying46 rfl (by rw [hl]; exact size46)
  refine bodyPost_ret (v := .agg cs.toArray) ?_ hd ⟨rfl, Below.setCells' _ (Nat.le_refl _) _ _ _ hb⟩
  simp [results, Yba.results9, ha, asAddr, hld]

set_option maxHeartbeats 1000000 in
set_option maxRecDepth 100000 in
theorem inst_any (k : Nat) (w : World) (hk : k < 4) :
    Calls Yba.prog 9 #[.int .i64 (k : Int)] w fun e w' => e = .returned (.agg (kindCells k).toArray) ∧ Below w.heap.size w w' := by
  go_enter Yba.func9, Yba.ntmps9
  go_upto_region 1 with fail
  go_cut [3] (fun s3 wx => s3 = .pointer (some ⟨w.heap.size + 1, 0, none⟩) ∧ Hid (IW w 0 false wx))
  case first =>
    iterate 11 go_step
    refine wp_store_mid 46 (.tmp 3) (.tmp 5) rfl (w.heap.size + 1) 0 _ rfl rfl (by simpa using there_new (w.alloc (.cells _ 46)) _ 46 26 (by simp)) size46 (by simp [Value.oneCell']) ?_
    go_step
    go_wp2_with fail
    go_meet
    case rel => exact ⟨rfl, IW.start w _ _ rfl rfl⟩
  case rest =>
    obtain ⟨rfl, HI⟩ := hcut
    have c14 := HI.out.cell 14 (v := .int .u8 0) rfl
    have f14 := HI.out.frozen (j := 14) (by omega)
    have c24 := HI.out.cell 24 (v := .bool false) rfl
    have f24 := HI.out.frozen (j := 24) (by omega)
    have fin : ∀ W, IW w (opOf k) (decide (k = 3)) W → Hid (IW w (opOf k) (decide (k = 3)) W) := fun _ h => h
    have : k = 0 ∨ k = 1 ∨ k = 2 ∨ k = 3 := by omega
    rcases this with rfl | rfl | rfl | rfl
    · go_upto_region 11 with fail
      have H1 := fin _ (HI.out.setc (op' := 1) 14 (by omega) (.int .u8 1) rfl)
      generalize wc.setCell ⟨w.heap.size + 1, 14, none⟩ (.int .u8 1) = W at H1
      go_step
      go_step
      refine wp_load_mid 46 (.tmp 3) rfl (w.heap.size + 1) 0 rfl (kindCells 0) _ H1.out.rng Yba.underlying46 rfl size46 ?_
      go_step
      go_step
      refine wp_store_mid 46 (.tmp 2) (.tmp 18) rfl w.heap.size 0 _ rfl rfl H1.out.th0 size46 (by simp [kindCells, instCells, Value.oneCell']) ?_
      go_step
      go_wp2_with fail
      exact inst_end _ _ _ H1.out.bel H1.out.th0 (kindCells 0) rfl rfl rfl
    · go_upto_region 11 with fail
      have H1 := fin _ (HI.out.setc (op' := 10) 14 (by omega) (.int .u8 10) rfl)
      generalize wc.setCell ⟨w.heap.size + 1, 14, none⟩ (.int .u8 10) = W at H1
      go_step
      go_step
      refine wp_load_mid 46 (.tmp 3) rfl (w.heap.size + 1) 0 rfl (kindCells 1) _ H1.out.rng Yba.underlying46 rfl size46 ?_
      go_step
      go_step
      refine wp_store_mid 46 (.tmp 2) (.tmp 18) rfl w.heap.size 0 _ rfl rfl H1.out.th0 size46 (by simp [kindCells, instCells, Value.oneCell']) ?_
      go_step
      go_wp2_with fail
      exact inst_end _ _ _ H1.out.bel H1.out.th0 (kindCells 1) rfl rfl rfl
    · go_upto_region 11 with fail
      have H1 := fin _ (HI.out.setc (op' := 11) 14 (by omega) (.int .u8 11) rfl)
      generalize wc.setCell ⟨w.heap.size + 1, 14, none⟩ (.int .u8 11) = W at H1
      go_step
      go_step
      refine wp_load_mid 46 (.tmp 3) rfl (w.heap.size + 1) 0 rfl (kindCells 2) _ H1.out.rng Yba.underlying46 rfl size46 ?_
      go_step
      go_step
      refine wp_store_mid 46 (.tmp 2) (.tmp 18) rfl w.heap.size 0 _ rfl rfl H1.out.th0 size46 (by simp [kindCells, instCells, Value.oneCell']) ?_
      go_step
      go_wp2_with fail
      exact inst_end _ _ _ H1.out.bel H1.out.th0 (kindCells 2) rfl rfl rfl
    · go_upto_region 11 with fail
      have H1 := fin _ ((HI.out.setc (op' := 0) 14 (by omega) (.int .u8 0) rfl).setc (down' := true) 24 (by omega) (.bool true) rfl)
      generalize (wc.setCell ⟨w.heap.size + 1, 14, none⟩ (.int .u8 0)).setCell ⟨w.heap.size + 1, 24, none⟩ (.bool true) = W at H1
      go_step
      go_step
      refine wp_load_mid 46 (.tmp 3) rfl (w.heap.size + 1) 0 rfl (kindCells 3) _ H1.out.rng Yba.underlying46 rfl size46 ?_
      go_step
      go_step
      refine wp_store_mid 46 (.tmp 2) (.tmp 18) rfl w.heap.size 0 _ rfl rfl H1.out.th0 size46 (by simp [kindCells, instCells, Value.oneCell']) ?_
      go_step
      go_wp2_with fail
      exact inst_end _ _ _ H1.out.bel H1.out.th0 (kindCells 3) rfl rfl rfl
end Go.Proofs.Ybulkfqak
