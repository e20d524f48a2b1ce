import Derived.Test.YbulkfqjoCMain
import Derived.Test.YbulkfqjoCBare
import Derived.ProofKit
import Derived.OpenShut
import Derived.ChangeOld
import Derived.SizedLaws
import Derived.Deep.SlicePairs
namespace Go.Proofs.Ybulkfqjo.lawS8373CWhole
open Go.ChangeShapes Go.WideShapes Go.ChangeAt Go.RowKit Go.Deep
set_option linter.unusedVariables false

theorem own : ownKnob Yba.prog.godebug = none := by kernel_rfl
theorem laidOut : laidOutB Yba.prog = true := by kernel_rfl
theorem cells30 : Yba.prog.cellsOf 30 = 3 := by kernel_rfl
theorem cells4 : Yba.prog.cellsOf 4 = 1 := by kernel_rfl
theorem cells5 : Yba.prog.cellsOf 5 = 1 := by kernel_rfl
theorem bytes30 : Yba.prog.bytesOf 30 = 3 := by kernel_rfl

theorem three {α : Type} {l : List α} (h : l.length = 3) : ∃ a b c, l = [a, b, c] := by
  match l, h with
  | [a, b, c], _ => exact ⟨a, b, c, rfl⟩

/-- A slice of drawn ends that came in: what the walks ask of it. -/
theorem xs_open {H : Type} {enc : TypeId × Value → H} {W : World} {a : Option Addr} {len cap : Nat} {d : DataW H} {p : List MemPlace}
    (h : DataW.Trod enc Yba.prog W 0 (fun _ => true) true 22 (.slice a len cap) d p)
    {ts : List TypeId} {ds : List (DataW H)} (hsz : (DataW.weightsEach Yba.prog ts ds).all (· ≤ reachBytes) = true) {j : Nat} (ht : ts[j]? = some 22) (hd : ds[j]? = some d) :
    ∃ c l x, XAt W a len c l x ∧ len ≤ 140737488355328 := by
  obtain ⟨fuel, hf⟩ := h
  rcases open_slice Yba.underlying22 hf with ⟨hcs, hx⟩ | ⟨a', len', cap', m, n, D, Pl, hcs, _, hl, hm, hmm, hx, hel⟩
  · simp [Value.cells] at hcs
    obtain ⟨rfl, rfl, rfl⟩ := hcs
    exact ⟨fun _ => false, fun _ => false, fun _ => 0, ⟨fun _ => (by decide : 0 < 256), fun _ => rfl, fun h => by omega⟩, by omega⟩
  · simp [Value.cells] at hcs
    obtain ⟨rfl, rfl, rfl⟩ := hcs
    simp only [if_true] at hmm
    have hlen : len ≤ 140737488355328 := by
      simp only [Prod.mk.injEq] at hx
      obtain ⟨rfl, _⟩ := hx
      have := sized_slice hsz ht hd Yba.underlying22
      rw [bytes30] at this
      simp only [List.length_map, List.length_range, reachBytes] at this
      omega
    have each : ∀ i, i < len → ∃ q : Bool × Bool × Nat, q.2.2 < 256 ∧ W.cell? (a'.add (i * 3)) = some (.bool q.1) ∧ W.cell? (a'.add (i * 3 + 1)) = some (.int .u8 ((q.2.2 : Nat) : Int)) ∧ W.cell? (a'.add (i * 3 + 2)) = some (.bool q.2.1) := by
      intro i hi
      obtain ⟨cs', h1, h2⟩ := hel i (by omega)
      rw [cells30] at h1
      obtain ⟨_, hlen', hcell⟩ := World.cells?_some h1
      obtain ⟨xs, k, hk, hxy, _, hxl, hff⟩ := DataW.trod_struct Yba.underlying30 h2
      have hxl' : xs.length = 3 := hxl
      obtain ⟨v0, v1, v2, rfl⟩ := three hlen'
      obtain ⟨y0, y1, y2, rfl⟩ := three hxl'
      clear hxl hxl' hxy
      have g0 := hff 0 _ rfl
      have g1 := hff 1 _ rfl
      have g2 := hff 2 _ rfl
      simp [cells4, cells5] at g0 g1 g2
      obtain ⟨b0, r0, _⟩ := DataW.trod_bool Yba.underlying4 g0
      obtain ⟨x1, r1, _, wf1⟩ := DataW.trod_int Yba.underlying5 g1
      obtain ⟨b2, r2, _⟩ := DataW.trod_bool Yba.underlying4 g2
      have bx := bounds_u8 wf1
      have e0 := hcell 0 (by omega)
      have e1 := hcell 1 (by omega)
      have e2 := hcell 2 (by omega)
      rw [add_add] at e0 e1 e2
      simp at r0 r1 r2
      subst r0 r1 r2
      refine ⟨(b0, b2, x1.toNat), by simp; omega, by simpa using e0, ?_, by simpa using e2⟩
      have : ((x1.toNat : Nat) : Int) = x1 := by omega
      simpa [this] using e1
    obtain ⟨q, hq⟩ := choose_lt each
    refine ⟨fun i => (q i).1, fun i => (q i).2.1, fun i => if (q i).2.2 < 256 then (q i).2.2 else 0, ⟨fun i => (by dsimp only; split <;> omega), fun h => (by cases h), fun h0 => ?_⟩, hlen⟩
    obtain ⟨b, off, spot⟩ := a'
    have hspot : spot = none := by simpa [Addr.add] using World.cell?_spot (hq 0 h0).2.1
    subst hspot
    refine ⟨b, off, rfl, ?_, fun i hi => ?_⟩
    · have := World.block_lt_of_cell? W _ (hq 0 h0).2.1
      simpa [add_plain] using this
    · obtain ⟨q1, q2, q3, q4⟩ := hq i hi
      rw [add_plain] at q2 q3 q4
      dsimp only
      rw [if_pos q1]
      exact ⟨q2, by simpa [Nat.add_assoc] using q3, by simpa [Nat.add_assoc] using q4⟩

theorem walk (e0 h0 d0 : Bool) (p0 p1 p2 : Option Addr) (n0 n1 n2 k0 k1 k2 : Nat) (c0 c1 c2 l0 l1 l2 : Nat → Bool) (x0 x1 x2 : Nat → Nat) (w : World) (hx0 : XAt w p0 n0 c0 l0 x0) (hx1 : XAt w p1 n1 c1 l1 x1) (hx2 : XAt w p2 n2 c2 l2 x2)
    (b0 : n0 ≤ 140737488355328) (b1 : n1 ≤ 140737488355328) (b2 : n2 ≤ 140737488355328) :
    Calls Yba.prog 3 #[.bool e0, .bool h0, .bool d0, .slice p0 n0 k0, .slice p1 n1 k1, .slice p2 n2 k2] w fun e w' => e = .returned (.bool true) ∧ Below w.heap.size w w' := by
  by_cases hn : n0 + n1 + n2 ≤ 1048576
  · cases h0
    · exact main_bare e0 d0 p0 p1 p2 (pick3 n0 n1 n2) (pick3 k0 k1 k2) (pick3 c0 c1 c2) (pick3 l0 l1 l2) (pick3 x0 x1 x2) w hn hx0 hx1 hx2
    · exact main_node e0 d0 p0 p1 p2 (pick3 n0 n1 n2) (pick3 k0 k1 k2) (pick3 c0 c1 c2) (pick3 l0 l1 l2) (pick3 x0 x1 x2) w hn hx0 hx1 hx2
  · exact (main_big e0 h0 d0 p0 p1 p2 n0 n1 n2 k0 k1 k2 w b0 b1 b2 (by omega)).mono fun e w' ⟨he, hw⟩ => ⟨he, by rw [hw]; exact Below.refl _ _⟩

set_option maxRecDepth 100000 in
theorem lifted (os : Os) (started : os.Started) (H : Type) (enc : TypeId × Value → H) :
    ReturnsInHanded {} Yba.checked os 3 .any (Rows.lawS8373CWholeSpec.pre6 enc Yba.prog Yba.f3 Rows.lawS8373CWholeRow.domain false) (Rows.lawS8373CWholeSpec.post enc Yba.prog Yba.f3 false true false false) := by
  refine returnsInHanded_of_change_sized (C := Yba.checked) own started (by kernel_rfl) Yba.func3
    (ChangeSpec.witness6 (enc := enc) (C := Yba.checked) false ⟨#[], #[.bool false, .bool false, .bool false, .slice none 0 0, .slice none 0 0, .slice none 0 0], []⟩ 8 (by kernel_rfl) (by kernel_rfl) (by kernel_rfl) (by kernel_rfl)) ?_
  intro W base args ds gs before hval0 hW _ hsz0 _
  have hsz : (DataW.weightsEach Yba.prog (Yba.f3.params.toList ++ Rows.lawS8373CWholeSpec.plain.varTypes Yba.prog) (ds ++ gs)).all (· ≤ reachBytes) = true := hsz0
  clear hsz0
  have hval : ∀ (j : Nat) t v, Yba.f3.params[j]? = some t → args[j]? = some v → Value.okWide Yba.prog W .any base t v := hval0
  have hW' := hW
  obtain ⟨p, q, hA0, hV, rfl, hfz, hnd⟩ := hW
  have hA : DataW.TrodAll enc Yba.prog W 0 (fun _ => true) true Yba.f3.params.toList args.toList ds p := hA0
  rw [Yba.params3] at hA hval hsz
  obtain ⟨v0, vs0, d0, ds0, p0, q0, hargs, rfl, rfl, h0, r0⟩ := trodAll_cons hA
  obtain ⟨v1, vs1, d1, ds1, p1, q1, rfl, rfl, rfl, h1, r1⟩ := trodAll_cons r0
  obtain ⟨v2, vs2, d2, ds2, p2, q2, rfl, rfl, rfl, h2, r2⟩ := trodAll_cons r1
  obtain ⟨v3, vs3, d3, ds3, p3, q3, rfl, rfl, rfl, h3, r3⟩ := trodAll_cons r2
  obtain ⟨v4, vs4, d4, ds4, p4, q4, rfl, rfl, rfl, h4, r4⟩ := trodAll_cons r3
  obtain ⟨v5, vs5, d5, ds5, p5, q5, rfl, rfl, rfl, h5, r5⟩ := trodAll_cons r4
  obtain ⟨rfl, rfl, rfl⟩ := trodAll_nil r5
  obtain rfl : args = #[v0, v1, v2, v3, v4, v5] := by cases args; simp_all
  obtain ⟨rfl, rfl⟩ := trodVars_none hV
  obtain ⟨b0, rfl, rfl, rfl⟩ := open_bool Yba.underlying4 (hval 0 4 v0 rfl rfl) h0
  obtain ⟨b1, rfl, rfl, rfl⟩ := open_bool Yba.underlying4 (hval 1 4 v1 rfl rfl) h1
  obtain ⟨b2, rfl, rfl, rfl⟩ := open_bool Yba.underlying4 (hval 2 4 v2 rfl rfl) h2
  obtain ⟨a3, len3, cap3, rfl⟩ := okWide_slice Yba.underlying22 (hval 3 22 v3 rfl rfl)
  obtain ⟨a4, len4, cap4, rfl⟩ := okWide_slice Yba.underlying22 (hval 4 22 v4 rfl rfl)
  obtain ⟨a5, len5, cap5, rfl⟩ := okWide_slice Yba.underlying22 (hval 5 22 v5 rfl rfl)
  have lt3 : ∀ x ∈ p3, x.block < W.heap.size := by obtain ⟨m, hm⟩ := h3; exact DataW.trod_lt m _ _ _ hm
  have lt4 : ∀ x ∈ p4, x.block < W.heap.size := by obtain ⟨m, hm⟩ := h4; exact DataW.trod_lt m _ _ _ hm
  have lt5 : ∀ x ∈ p5, x.block < W.heap.size := by obtain ⟨m, hm⟩ := h5; exact DataW.trod_lt m _ _ _ hm
  obtain ⟨c3, l3, x3, X3, z3⟩ := xs_open h3 hsz (j := 3) rfl rfl
  obtain ⟨c4, l4, x4, X4, z4⟩ := xs_open h4 hsz (j := 4) rfl rfl
  obtain ⟨c5, l5, x5, X5, z5⟩ := xs_open h5 hsz (j := 5) rfl rfl
  clear hA0 hval0
  refine (walk b0 b1 b2 a3 a4 a5 len3 len4 len5 cap3 cap4 cap5 c3 c4 c5 l3 l4 l5 x3 x4 x5 W X3 X4 X5 z3 z4 z5).mono fun e W' ⟨he, bel⟩ => ?_
  subst he
  exact ⟨_, rfl, _, _, _, [], _, [], hW', trodAll_mk1 (shut_bool Yba.underlying4 _), (trodAll_cons_mk (shut_bool Yba.underlying4 _) (trodAll_cons_mk (shut_bool Yba.underlying4 _) (trodAll_cons_mk (shut_bool Yba.underlying4 _)
    (trodAll_cons_mk (Below.trod laidOut (by kernel_rfl) (of_decide_eq_true (by kernel_rfl)) h3 bel lt3)
    (trodAll_cons_mk (Below.trod laidOut (by kernel_rfl) (of_decide_eq_true (by kernel_rfl)) h4 bel lt4)
    (trodAll_cons_mk (Below.trod laidOut (by kernel_rfl) (of_decide_eq_true (by kernel_rfl)) h5 bel lt5) trodAll_mk0)))))), rfl, bel.frame _, fun h => by cases h⟩

theorem over : Rows.lawS8373CWholeRow.holds Yba.pinned (OpenSpec.ofChange Rows.lawS8373CWholeSpec) :=
  OpenClaim.holds_of_wide 3 Yba.f3 rfl rfl rfl rfl rfl rfl rfl ⟨rfl, rfl, rfl, rfl, rfl⟩ rfl rfl rfl rfl rfl (by kernel_rfl) Yba.func3 (by kernel_rfl)
    (of_decide_eq_true (by kernel_rfl)) (by unfold Func.isWrapper; first | (rw [if_pos (by decide +kernel)]; kernel_rfl) | (rw [if_neg (by decide +kernel)]; exact ⟨rfl, rfl⟩))
    (fun os started H enc _ => lifted os started H enc)

/-- ████ THE STATEMENT ████ -/
theorem proved : Rows.LawS8373CWholeSaid := over
end Go.Proofs.Ybulkfqjo.lawS8373CWhole
