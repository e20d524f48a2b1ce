import Derived.Test.YbulkfqakMLast
import Derived.ProofKit
import Derived.OpenShut
import Derived.ChangeOld
import Derived.SizedLaws
import Derived.Deep.SlicePairs
namespace Go.Proofs.Ybulkfqak.lawS8356CWhole
open Go.ChangeShapes Go.WideShapes Go.ChangeAt Go.RowKit Go.Deep

theorem own : ownKnob Yba.prog.godebug = none := by kernel_rfl
theorem laidOut : laidOutB Yba.prog = true := by kernel_rfl
theorem cells32 : Yba.prog.cellsOf 32 = 6 := by kernel_rfl
theorem cells5 : Yba.prog.cellsOf 5 = 1 := by kernel_rfl
theorem cells28 : Yba.prog.cellsOf 28 = 1 := by kernel_rfl
theorem cells30 : Yba.prog.cellsOf 30 = 1 := by kernel_rfl
theorem cells4 : Yba.prog.cellsOf 4 = 1 := by kernel_rfl
theorem cells21 : Yba.prog.cellsOf 21 = 1 := by kernel_rfl
theorem bytes5 : Yba.prog.bytesOf 5 = 1 := by kernel_rfl
theorem bytes32 : 1 ≤ Yba.prog.bytesOf 32 := of_decide_eq_true (by kernel_rfl)

theorem six {α : Type} {l : List α} (h : l.length = 6) : ∃ a b c d e f, l = [a, b, c, d, e, f] := by
  match l, h with
  | [a, b, c, d, e, f], _ => exact ⟨a, b, c, d, e, f, rfl⟩
theorem weights_all {H : Type} {P : Program} {e : TypeId} {d : DataW H} : ∀ {l : List (DataW H)}, d ∈ l → ∀ n ∈ d.weights P e, n ∈ DataW.weightsAll P e l
  | x :: r, h, n, hn => by
    simp only [DataW.weightsAll, List.mem_append]
    rcases List.mem_cons.1 h with rfl | h
    · exact Or.inl hn
    · exact Or.inr (weights_all h n hn)
section
variable {H : Type} {enc : TypeId × Value → H} {W : World}

/-- bytes that came in -/
theorem u8_open {fuel : Nat} {v : Value} {d : DataW H} {p : List MemPlace} (hf : DataW.trod enc Yba.prog W 0 (fun _ => true) true fuel 28 [v] = some (d, p)) (hsz : ∀ n ∈ d.weights Yba.prog 28, n ≤ reachBytes) :
    ∃ a len cap g, v = .slice a len cap ∧ KAt W a len g ∧ len ≤ 140737488351232 := by
  rcases open_slice1 Yba.underlying28 cells5 hf with ⟨hcs, _⟩ | ⟨a', len, cap, m, n, V, D, Pl, hcs, _, hl, hm, hmm, hx, hel⟩
  · simp at hcs
    exact ⟨none, 0, 0, fun _ => 0, hcs, ⟨fun _ => (by decide : 0 < 256), fun _ => rfl, fun h => by omega⟩, by omega⟩
  · simp at hcs
    simp only [if_true] at hmm
    have hlen : len ≤ 140737488351232 := by
      simp only [Prod.mk.injEq] at hx
      obtain ⟨rfl, _⟩ := hx
      have := hsz _ (by simp only [DataW.weights, Yba.underlying28]; exact List.mem_cons_self)
      rw [bytes5] at this
      simp only [List.length_map, List.length_range, reachBytes] at this
      omega
    have each : ∀ i, i < len → ∃ x : Nat, x < 256 ∧ W.cell? (a'.add i) = some (.int .u8 ((x : Nat) : Int)) := by
      intro i hi
      obtain ⟨h1, h2⟩ := hel i (by omega)
      obtain ⟨x, r1, _, wf⟩ := DataW.trod_int Yba.underlying5 h2
      have bx := bounds_u8 wf
      simp at r1
      rw [r1] at h1
      refine ⟨x.toNat, by omega, ?_⟩
      have : ((x.toNat : Nat) : Int) = x := by omega
      rw [this]
      exact h1
    obtain ⟨q, hq⟩ := choose_lt each
    refine ⟨some a', len, cap, fun i => if q i < 256 then q i else 0, hcs, ⟨fun i => (by dsimp only; split <;> omega), fun h => (by cases h), fun h0 => ?_⟩, hlen⟩
    obtain ⟨b, off, spot⟩ := a'
    have hspot : spot = none := by simpa [Addr.add] using World.cell?_spot (hq 0 h0).2
    subst hspot
    refine ⟨b, off, rfl, ?_, fun i hi => ?_⟩
    · have := World.block_lt_of_cell? W _ (hq 0 h0).2
      simpa [add_plain] using this
    · obtain ⟨q1, q2⟩ := hq i hi
      rw [add_plain] at q2
      dsimp only
      rw [if_pos q1]
      exact q2

/-- one block, as it came in -/
structure BE where
  l : Nat
  nx : Int
  jp : Option Addr
  jn : Nat
  jc : Nat
  gj : Nat → Nat
  ind : Bool
  fi : Int
  la : Int
instance : Inhabited BE := ⟨⟨0, 0, none, 0, 0, fun _ => 0, false, 0, 0⟩⟩
def dOf (q : Nat → BE) (n : Nat) : BD where
  l := fun i => if i < n then (q i).l else 0
  nx := fun i => if i < n then (q i).nx else 0
  jp := fun i => (q i).jp
  jn := fun i => (q i).jn
  jc := fun i => (q i).jc
  gj := fun i => (q i).gj
  ind := fun i => (q i).ind
  fi := fun i => (q i).fi
  la := fun i => (q i).la

/-- blocks that came in -/
theorem blocks_open {fuel : Nat} {v : Value} {d : DataW H} {p : List MemPlace} (hf : DataW.trod enc Yba.prog W 0 (fun _ => true) true fuel 29 [v] = some (d, p)) (hsz : ∀ n ∈ d.weights Yba.prog 29, n ≤ reachBytes) :
    ∃ a len cap, v = .slice a len cap ∧ len ≤ 140737488351232 ∧ (0 < len → ∃ b o D, a = some ⟨b, o, none⟩ ∧ BAt W b o len D ∧ ∀ i, i < len → D.jn i ≤ 140737488351232) := by
  rcases open_slice Yba.underlying29 hf with ⟨hcs, _⟩ | ⟨a', len, cap, m, n, D, Pl, hcs, _, hl, hm, hmm, hx, hel⟩
  · simp at hcs
    exact ⟨none, 0, 0, hcs, by omega, fun h => by omega⟩
  · simp at hcs
    simp only [if_true] at hmm
    simp only [Prod.mk.injEq] at hx
    obtain ⟨rfl, _⟩ := hx
    have hlen : len ≤ 140737488351232 := by
      have := hsz _ (by simp only [DataW.weights, Yba.underlying29]; exact List.mem_cons_self)
      simp only [List.length_map, List.length_range, reachBytes] at this
      have h1 := Nat.mul_le_mul_left (len + (m - len)) bytes32
      omega
    have hsz2 : ∀ i, i < len → ∀ k ∈ (D i).weights Yba.prog 32, k ≤ reachBytes := fun i hi k hk => by
      refine hsz k ?_
      simp only [DataW.weights, Yba.underlying29]
      refine List.mem_cons_of_mem _ (List.mem_append_left _ (weights_all (List.mem_map.2 ⟨i, List.mem_range.2 hi, rfl⟩) k hk))
    have each : ∀ i, i < len → ∃ q : BE, q.l < 256 ∧ (-32768 ≤ q.nx ∧ q.nx ≤ 32767) ∧ q.jn ≤ 140737488351232 ∧ KAt W q.jp q.jn q.gj ∧ W.cell? (a'.add (i * 6)) = some (.int .u8 ((q.l : Nat) : Int)) ∧ W.cell? (a'.add (i * 6 + 1)) = some (.int .i16 q.nx) ∧ W.cell? (a'.add (i * 6 + 2)) = some (.slice q.jp q.jn q.jc) ∧ W.cell? (a'.add (i * 6 + 3)) = some (.bool q.ind) ∧ W.cell? (a'.add (i * 6 + 4)) = some (.int .i32 q.fi) ∧ W.cell? (a'.add (i * 6 + 5)) = some (.int .i32 q.la) := by
      intro i hi
      obtain ⟨cs', h1, h2⟩ := hel i (by omega)
      rw [cells32] at h1
      obtain ⟨_, hlen', hcell⟩ := World.cells?_some h1
      obtain ⟨xs, k, hk, hxy, _, hxl, hff⟩ := DataW.trod_struct Yba.underlying32 h2
      have hxl' : xs.length = 6 := hxl
      obtain ⟨v0, v1, v2, v3, v4, v5, rfl⟩ := six hlen'
      obtain ⟨y0, y1, y2, y3, y4, y5, rfl⟩ := six hxl'
      simp only [Prod.mk.injEq] at hxy
      obtain ⟨hD, _⟩ := hxy
      clear hxl hxl'
      have g0 := hff 0 _ rfl
      have g1 := hff 1 _ rfl
      have g2 := hff 2 _ rfl
      have g3 := hff 3 _ rfl
      have g4 := hff 4 _ rfl
      have g5 := hff 5 _ rfl
      simp [cells4, cells5, cells28, cells30, cells21] at g0 g1 g2 g3 g4 g5
      obtain ⟨x0, r0, _, wf0⟩ := DataW.trod_int Yba.underlying5 g0
      obtain ⟨x1, r1, _, wf1⟩ := DataW.trod_int Yba.underlying30 g1
      obtain ⟨b3, r3, _⟩ := DataW.trod_bool Yba.underlying4 g3
      obtain ⟨x4, r4, _, wf4⟩ := DataW.trod_int Yba.underlying21 g4
      obtain ⟨x5, r5, _, wf5⟩ := DataW.trod_int Yba.underlying21 g5
      obtain ⟨d2, p2⟩ := y2
      have hs2 : ∀ n ∈ d2.weights Yba.prog 28, n ≤ reachBytes := fun n hn => by
        refine hsz2 i hi n ?_
        rw [hD]
        simp only [DataW.weights, Yba.underlying32]
        exact DataW.weights_mem_each (j := 2) (t := 28) (d := d2) rfl rfl n hn
      obtain ⟨ja, jn, jc, jg, r2, kj, bj⟩ := u8_open g2 hs2
      have bx := bounds_u8 wf0
      have by' := bounds_i16 wf1
      have e0 := hcell 0 (by omega)
      have e1 := hcell 1 (by omega)
      have e2 := hcell 2 (by omega)
      have e3 := hcell 3 (by omega)
      have e4 := hcell 4 (by omega)
      have e5 := hcell 5 (by omega)
      rw [add_add] at e0 e1 e2 e3 e4 e5
      simp at r0 r1 r3 r4 r5
      subst r0 r1 r2 r3 r4 r5
      have ex : ((x0.toNat : Nat) : Int) = x0 := by omega
      refine ⟨⟨x0.toNat, x1, ja, jn, jc, jg, b3, x4, x5⟩, by simp; omega, by simpa using by', bj, kj, ?_, by simpa using e1, by simpa using e2, by simpa using e3, by simpa using e4, by simpa using e5⟩
      simpa [ex] using e0
    obtain ⟨q, hq⟩ := choose_lt each
    refine ⟨some a', len, cap, hcs, hlen, fun h0 => ?_⟩
    obtain ⟨b, off, spot⟩ := a'
    have hspot : spot = none := by simpa [Addr.add] using World.cell?_spot (hq 0 h0).2.2.2.2.1
    subst hspot
    have hc : ∀ i, i < len → W.cell? ⟨b, off + i * 6, none⟩ = some (.int .u8 (((q i).l : Nat) : Int)) ∧ W.cell? ⟨b, off + i * 6 + 1, none⟩ = some (.int .i16 (q i).nx) ∧ W.cell? ⟨b, off + i * 6 + 2, none⟩ = some (.slice (q i).jp (q i).jn (q i).jc) ∧ W.cell? ⟨b, off + i * 6 + 3, none⟩ = some (.bool (q i).ind) ∧ W.cell? ⟨b, off + i * 6 + 4, none⟩ = some (.int .i32 (q i).fi) ∧ W.cell? ⟨b, off + i * 6 + 5, none⟩ = some (.int .i32 (q i).la) := fun i hi => by
      obtain ⟨_, _, _, _, q1, q2, q3, q4, q5, q6⟩ := hq i hi
      rw [add_plain] at q1 q2 q3 q4 q5 q6
      exact ⟨q1, by simpa [Nat.add_assoc] using q2, by simpa [Nat.add_assoc] using q3, by simpa [Nat.add_assoc] using q4, by simpa [Nat.add_assoc] using q5, by simpa [Nat.add_assoc] using q6⟩
    refine ⟨b, off, dOf q len, rfl, ⟨fun i hi => ?_, fun i hi => ?_, fun i hi => (hc i hi).2.2.1, fun i hi => (hc i hi).2.2.2.1, fun i hi => (hc i hi).2.2.2.2.1, fun i hi => (hc i hi).2.2.2.2.2, fun i => ?_, fun i => ?_, fun i hi => (hq i hi).2.2.2.1, World.block_lt_of_cell? W _ (hc 0 h0).1⟩, fun i hi => (hq i hi).2.2.1⟩
    · show W.cell? ⟨b, off + i * 6, none⟩ = some (.int .u8 (((if i < len then (q i).l else 0 : Nat)) : Int))
      rw [if_pos hi]
      exact (hc i hi).1
    · show W.cell? ⟨b, off + i * 6 + 1, none⟩ = some (.int .i16 (if i < len then (q i).nx else 0))
      rw [if_pos hi]
      exact (hc i hi).2.1
    · show (if i < len then (q i).l else 0) < 256
      split
      · rename_i hi; exact (hq i hi).1
      · omega
    · show -32768 ≤ (if i < len then (q i).nx else 0) ∧ (if i < len then (q i).nx else 0) ≤ 32767
      split
      · rename_i hi; exact (hq i hi).2.1
      · omega
end

set_option maxRecDepth 100000 in
theorem lifted (os : Os) (started : os.Started) (H : Type) (enc : TypeId × Value → H) :
    ReturnsInHanded {} Yba.checked os 4 .any (Rows.lawS8356CWholeSpec.pre6 enc Yba.prog Yba.f4 Rows.lawS8356CWholeRow.domain false) (Rows.lawS8356CWholeSpec.post enc Yba.prog Yba.f4 false true false false) := by
  refine returnsInHanded_of_change_sized (C := Yba.checked) own started (by kernel_rfl) Yba.func4
    (ChangeSpec.witness6 (enc := enc) (C := Yba.checked) false ⟨#[], #[.slice none 0 0, .slice none 0 0, .int .u8 0], []⟩ 8 (by kernel_rfl) (by kernel_rfl) (by kernel_rfl) (by kernel_rfl)) ?_
  intro W base args ds gs before hval0 hW _ hsz0 _
  have hsz : (DataW.weightsEach Yba.prog (Yba.f4.params.toList ++ Rows.lawS8356CWholeSpec.plain.varTypes Yba.prog) (ds ++ gs)).all (· ≤ reachBytes) = true := hsz0
  clear hsz0
  have hval : ∀ (j : Nat) t v, Yba.f4.params[j]? = some t → args[j]? = some v → Value.okWide Yba.prog W .any base t v := hval0
  have hW' := hW
  obtain ⟨p, q, hA0, hV, rfl, hfz, hnd⟩ := hW
  have hA : DataW.TrodAll enc Yba.prog W 0 (fun _ => true) true Yba.f4.params.toList args.toList ds p := hA0
  rw [Yba.params4] at hA hval hsz
  obtain ⟨v0, vs0, d0, ds0, p0, q0, hargs, rfl, rfl, h0, r0⟩ := trodAll_cons hA
  obtain ⟨v1, vs1, d1, ds1, p1, q1, rfl, rfl, rfl, h1, r1⟩ := trodAll_cons r0
  obtain ⟨v2, vs2, d2, ds2, p2, q2, rfl, rfl, rfl, h2, r2⟩ := trodAll_cons r1
  obtain ⟨rfl, rfl, rfl⟩ := trodAll_nil r2
  obtain rfl : args = #[v0, v1, v2] := by cases args; simp_all
  obtain ⟨rfl, rfl⟩ := trodVars_none hV
  obtain ⟨a0, len0, cap0, rfl⟩ := okWide_slice Yba.underlying28 (hval 0 28 v0 rfl rfl)
  obtain ⟨a1, len1, cap1, rfl⟩ := okWide_slice Yba.underlying29 (hval 1 29 v1 rfl rfl)
  obtain ⟨x2, rfl, rfl, rfl, w2⟩ := open_int Yba.underlying5 (hval 2 5 v2 rfl rfl) h2
  have lt0 : ∀ x ∈ p0, x.block < W.heap.size := by obtain ⟨m, hm⟩ := h0; exact DataW.trod_lt m _ _ _ hm
  have lt1 : ∀ x ∈ p1, x.block < W.heap.size := by obtain ⟨m, hm⟩ := h1; exact DataW.trod_lt m _ _ _ hm
  have s0 : ∀ n ∈ d0.weights Yba.prog 28, n ≤ reachBytes := fun n hn => of_decide_eq_true (List.all_eq_true.1 hsz n (DataW.weights_mem_each (j := 0) (t := 28) (d := d0) rfl rfl n hn))
  have s1 : ∀ n ∈ d1.weights Yba.prog 29, n ≤ reachBytes := fun n hn => of_decide_eq_true (List.all_eq_true.1 hsz n (DataW.weights_mem_each (j := 1) (t := 29) (d := d1) rfl rfl n hn))
  obtain ⟨g, K0, z0⟩ : ∃ g, KAt W a0 len0 g ∧ len0 ≤ 140737488351232 := by
    obtain ⟨fuel, hf⟩ := h0
    obtain ⟨a, len, cap, g, e, hk, hz⟩ := u8_open hf s0
    injection e with e1 e2 e3
    subst e1 e2
    exact ⟨g, hk, hz⟩
  obtain ⟨z1, B1⟩ : len1 ≤ 140737488351232 ∧ (0 < len1 → ∃ b o D, a1 = some ⟨b, o, none⟩ ∧ BAt W b o len1 D ∧ ∀ i, i < len1 → D.jn i ≤ 140737488351232) := by
    obtain ⟨fuel, hf⟩ := h1
    obtain ⟨a, len, cap, e, hz, hb⟩ := blocks_open hf s1
    injection e with e1 e2 e3
    subst e1 e2
    exact ⟨hz, hb⟩
  have b2 := bounds_u8 w2
  obtain ⟨pr, rfl⟩ : ∃ pr : Nat, x2 = (pr : Int) := ⟨x2.toNat, by omega⟩
  clear hA0 hval0
  refine (law_any a0 a1 len0 cap0 len1 cap1 pr g (by omega) (by omega) (by omega) W K0 B1).mono fun e W' ⟨he, bel⟩ => ?_
  subst he
  exact ⟨_, rfl, _, _, _, [], _, [], hW', trodAll_mk1 (shut_bool Yba.underlying4 _),
    (trodAll_cons_mk (Below.trod laidOut (by kernel_rfl) (of_decide_eq_true (by kernel_rfl)) h0 bel lt0)
    (trodAll_cons_mk (Below.trod laidOut (by kernel_rfl) (of_decide_eq_true (by kernel_rfl)) h1 bel lt1) (trodAll_cons_mk (shut_int Yba.underlying5 w2) trodAll_mk0))), rfl, bel.frame _, fun h => by cases h⟩

theorem over : Rows.lawS8356CWholeRow.holds Yba.pinned (OpenSpec.ofChange Rows.lawS8356CWholeSpec) :=
  OpenClaim.holds_of_wide 4 Yba.f4 rfl rfl rfl rfl rfl rfl rfl ⟨rfl, rfl, rfl, rfl, rfl⟩ rfl rfl rfl rfl rfl (by kernel_rfl) Yba.func4 (by kernel_rfl)
    (of_decide_eq_true (by kernel_rfl)) (by unfold Func.isWrapper; first | (rw [if_pos (by decide +kernel)]; kernel_rfl) | (rw [if_neg (by decide +kernel)]; exact ⟨rfl, rfl⟩))
    (fun os started H enc _ => lifted os started H enc)

/-- THE STATEMENT -/
theorem proved : Rows.LawS8356CWholeSaid := over
end Go.Proofs.Ybulkfqak.lawS8356CWhole
