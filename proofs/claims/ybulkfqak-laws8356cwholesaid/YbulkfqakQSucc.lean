import Derived.RangeFuncNested
import Derived.RangeFuncBound
import Derived.RangeFuncCalls
import Derived.RangeFuncLeaves
import Derived.Shelf.Abstract
import Derived.Shelf.RegionOpen
import Derived.OwnWalkIn
import Derived.TacticsInMore
import Derived.LoopNIn
import Derived.LoopIn
import Derived.Test.YbulkfqakQBase
namespace Go.Proofs.Ybulkfqak
open Go.RowKit Go.Shelf
attribute [local go_sem] Oper.semAt_some

theorem succs_any (a : Addr) (w : World) : Calls Yba.prog 17 #[.pointer (some a)] w fun e w' => e = .returned (.func (.func 36) #[] #[.pointer (some ⟨w.heap.size, 0, none⟩)]) ∧ w' = w.alloc (.cells #[.pointer (some a)] 76) := by
  go_enter Yba.func17, Yba.ntmps17
  go_wp2_with fail
  go_ret
  exact ⟨rfl, rfl⟩

abbrev Bl (nb : Nat) := { x : Nat // x < nb }
def encB {nb : Nat} (x : Bl nb) : Array Value := #[.int .i32 ((x.1 : Nat) : Int)]
def nextInt {nb : Nat} : Option (Bl nb) → Int
  | none => -1
  | some x => ((x.1 : Nat) : Int)
/-- what a round keeps for the walk over the block's successors -/
structure KeptS (Bn K o : Nat) (q : Option Addr) (W W' : World) : Prop where
  box : W'.heap[Bn]? = W.heap[Bn]?
  jumps : W'.cell? ⟨K, o + 5, none⟩ = W.cell? ⟨K, o + 5, none⟩
  row : ∀ g, q = some ⟨g, 0, none⟩ → W'.heap[g]? = W.heap[g]?
theorem KeptS.trans {Bn K o : Nat} {q : Option Addr} {A B C : World} (h : KeptS Bn K o q A B) (k : KeptS Bn K o q B C) : KeptS Bn K o q A C :=
  ⟨k.box.trans h.box, k.jumps.trans h.jumps, fun g e => (k.row g e).trans (h.row g e)⟩
/-- what the walk reads -/
structure SuccAt {nb : Nat} (Bn K o : Nat) (nxo : Option (Bl nb)) (q : Option Addr) (js : List (Bl nb)) (W : World) : Prop where
  box : W.cell? ⟨Bn, 0, none⟩ = some (.pointer (some ⟨K, o, none⟩))
  next : W.cell? ⟨K, o + 4, none⟩ = some (.int .i32 (nextInt nxo))
  jumps : W.cell? ⟨K, o + 5, none⟩ = some (.slice q js.length js.length)
  row : (q = none ∧ js = []) ∨ ∃ g, q = some ⟨g, 0, none⟩ ∧ ∀ i (h : i < js.length), W.cell? ⟨g, i, none⟩ = some (.int .i32 (((js[i]).1 : Nat) : Int))

set_option maxRecDepth 100000 in
set_option maxHeartbeats 2000000 in
theorem succs1_in {nb : Nat} (l Bn K o : Nat) (nxo : Option (Bl nb)) (q : Option Addr) (js : List (Bl nb)) (hjs : js.length ≤ 1048576) (J Jx : List (Bl nb) → World → Prop)
    (hY : ∀ pre x W, J pre W → pre.length < (nxo.toList ++ js).length → YieldAt Fence.wide (3 - 1 - 1) Yba.prog l (encB x) W fun e W' =>
      (e = .returned (.bool true) ∧ J (pre ++ [x]) W' ∧ KeptS Bn K o q W W') ∨ (e = .returned (.bool false) ∧ Jx (pre ++ [x]) W'))
    (W : World) (hS : SuccAt Bn K o nxo q js W) (h0 : J [] W) :
    CallsIn Fence.wide (3 - 1) Yba.prog 36 #[.func (.yield l) #[] #[], .pointer (some ⟨Bn, 0, none⟩)] W fun e W' => (∃ v, e = .returned v) ∧
      ((∃ ys, ys = nxo.toList ++ js ∧ J ys W') ∨ (∃ pre, pre <+: nxo.toList ++ js ∧ Jx pre W')) := by
  refine callsIn_of_wp Yba.func36 rfl trivial ?_ rfl
  simp only [Yba.ntmps36, List.size_toArray, List.length_cons, List.length_nil, Nat.reduceAdd, Nat.reduceSub, Array.replicate_succ, Array.replicate_zero, List.push_toArray, List.append_toArray, List.nil_append, List.cons_append]
  obtain ⟨sb, sn, sj, sr⟩ := hS
  cases nxo with
  | none =>
    simp only [nextInt] at sn
    have hJ0 : J ([] : List (Bl nb)) W := h0
    gi_wp2
    refine ⟨fun _ h => (by cases h), ?_⟩
    have hcj : (W).cell? ⟨K, o + 5, none⟩ = some (.slice q js.length js.length) := sj
    gi_wp2
    gi_loopw [24] (fun s24 wr => ∃ k : Nat, s24 = .int .i64 (k : Int) ∧ k ≤ js.length ∧ Hid (J (([] : List (Bl nb)) ++ js.take k) wr) ∧ Hid (∀ g, q = some ⟨g, 0, none⟩ → wr.heap[g]? = (W).heap[g]?)) (fun s24 _ => js.length - (intOf s24).toNat)
    case atStart => exact ⟨0, rfl, by omega, (by simpa [Hid] using hJ0), fun _ _ => rfl⟩
    case round =>
      obtain ⟨k, rfl, hk, hJk, hrow⟩ := hrel
      by_cases hlt : k < js.length
      · rcases sr with ⟨_, hn⟩ | ⟨g, rfl, hr⟩
        · subst hn
          simp at hlt
        · have hck : wr.cell? ⟨g, k, none⟩ = some (.int .i32 (((js[k]).1 : Nat) : Int)) := (World.cell?_of_block (a := ⟨g, k, none⟩) (hrow.out g rfl)).trans (hr k hlt)
          obtain ⟨y, hy⟩ : ∃ y, js[k] = y := ⟨_, rfl⟩
          rw [hy] at hck
          have hpre : Hid (([] : List (Bl nb)) ++ js.take (k + 1) = ([] : List (Bl nb)) ++ js.take k ++ [y]) := by show _ = _; rw [List.take_succ_eq_append_getElem hlt, hy, List.append_assoc]
          obtain ⟨fn, tmps, assign, body, hy2, hR⟩ := hY (([] : List (Bl nb)) ++ js.take k) y wr hJk.out (by simp; omega)
          dsimp only [encB] at hy2
          have hlt' : (k : Int) < (js.length : Int) := by omega
          have hkm : k < js.length := hlt
          gi_wp2
          refine hR.mono ?_
          rintro e W3 (⟨rfl, hJ3, hk3⟩ | ⟨rfl, hJx3⟩)
          · gi_wp2
            go_roundw
            case rel => exact ⟨k + 1, by simp, by omega, by rw [hpre.out]; exact hJ3, fun g' e => (hk3.row g' e).trans (hrow.out g' e)⟩
            case measure => simp [intOf]; omega
          · gi_wp2
            refine bodyPost_ret (results_none rfl _ _ _) rfl ?_
            exact ⟨⟨_, rfl⟩, .inr ⟨_, ⟨js.drop (k + 1), by rw [← hpre.out]; simp⟩, hJx3⟩⟩
      · obtain rfl : k = js.length := by omega
        have hlt' : ¬ (js.length : Int) < (js.length : Int) := by omega
        gi_wp2
        go_end0
        exact ⟨⟨_, rfl⟩, .inl (by have := hJk.out; simpa using this)⟩
  | some x =>
    simp only [nextInt] at sn
    have hx := x.2
    have hge : (0 : Int) ≤ ((x.1 : Nat) : Int) := by omega
    obtain ⟨fn, tmps, assign, body, hy, hR⟩ := hY [] x W h0 (by simp)
    dsimp only [encB] at hy
    gi_wp2
    refine hR.mono ?_
    rintro e W1 (⟨rfl, hJ0, hk1⟩ | ⟨rfl, hJx1⟩)
    · have sb1 : W1.cell? ⟨Bn, 0, none⟩ = some (.pointer (some ⟨K, o, none⟩)) := (World.cell?_of_block (a := ⟨Bn, 0, none⟩) hk1.box).trans sb
      replace sj : W1.cell? ⟨K, o + 5, none⟩ = some (.slice q js.length js.length) := hk1.jumps.trans sj
      replace sr : (q = none ∧ js = []) ∨ ∃ g, q = some ⟨g, 0, none⟩ ∧ ∀ i (h : i < js.length), W1.cell? ⟨g, i, none⟩ = some (.int .i32 (((js[i]).1 : Nat) : Int)) := by
        rcases sr with h | ⟨g, e, hr⟩
        · exact Or.inl h
        · exact Or.inr ⟨g, e, fun i h => (World.cell?_of_block (a := ⟨g, i, none⟩) (hk1.row g e)).trans (hr i h)⟩
      have hcj : (W1).cell? ⟨K, o + 5, none⟩ = some (.slice q js.length js.length) := sj
      gi_wp2
      gi_loopw [24] (fun s24 wr => ∃ k : Nat, s24 = .int .i64 (k : Int) ∧ k ≤ js.length ∧ Hid (J ([x] ++ js.take k) wr) ∧ Hid (∀ g, q = some ⟨g, 0, none⟩ → wr.heap[g]? = (W1).heap[g]?)) (fun s24 _ => js.length - (intOf s24).toNat)
      case atStart => exact ⟨0, rfl, by omega, (by simpa [Hid] using hJ0), fun _ _ => rfl⟩
      case round =>
        obtain ⟨k, rfl, hk, hJk, hrow⟩ := hrel
        by_cases hlt : k < js.length
        · rcases sr with ⟨_, hn⟩ | ⟨g, rfl, hr⟩
          · subst hn
            simp at hlt
          · have hck : wr.cell? ⟨g, k, none⟩ = some (.int .i32 (((js[k]).1 : Nat) : Int)) := (World.cell?_of_block (a := ⟨g, k, none⟩) (hrow.out g rfl)).trans (hr k hlt)
            obtain ⟨y, hy⟩ : ∃ y, js[k] = y := ⟨_, rfl⟩
            rw [hy] at hck
            have hpre : Hid ([x] ++ js.take (k + 1) = [x] ++ js.take k ++ [y]) := by show _ = _; rw [List.take_succ_eq_append_getElem hlt, hy, List.append_assoc]
            obtain ⟨fn, tmps, assign, body, hy2, hR⟩ := hY ([x] ++ js.take k) y wr hJk.out (by simp; omega)
            dsimp only [encB] at hy2
            have hlt' : (k : Int) < (js.length : Int) := by omega
            have hkm : k < js.length := hlt
            gi_wp2
            refine hR.mono ?_
            rintro e W3 (⟨rfl, hJ3, hk3⟩ | ⟨rfl, hJx3⟩)
            · gi_wp2
              go_roundw
              case rel => exact ⟨k + 1, by simp, by omega, by rw [hpre.out]; exact hJ3, fun g' e => (hk3.row g' e).trans (hrow.out g' e)⟩
              case measure => simp [intOf]; omega
            · gi_wp2
              refine bodyPost_ret (results_none rfl _ _ _) rfl ?_
              exact ⟨⟨_, rfl⟩, .inr ⟨_, ⟨js.drop (k + 1), by rw [← hpre.out]; simp⟩, hJx3⟩⟩
        · obtain rfl : k = js.length := by omega
          have hlt' : ¬ (js.length : Int) < (js.length : Int) := by omega
          gi_wp2
          go_end0
          exact ⟨⟨_, rfl⟩, .inl (by have := hJk.out; simpa using this)⟩
    · gi_wp2
      refine bodyPost_ret (results_none rfl _ _ _) rfl ?_
      exact ⟨⟨_, rfl⟩, .inr ⟨_, ⟨js, rfl⟩, hJx1⟩⟩

theorem SuccAt.below {nb Bn K o : Nat} {nxo : Option (Bl nb)} {q : Option Addr} {js : List (Bl nb)} {W W' : World} (h : SuccAt Bn K o nxo q js W) (k : Below W.heap.size W W') : SuccAt Bn K o nxo q js W' := by
  have hk : ∀ (a : Addr) (v : Value), W.cell? a = some v → W'.cell? a = some v := fun a v e => (k.cell (p := a) (World.block_lt_of_cell? W _ e)).trans e
  refine ⟨hk _ _ h.box, hk _ _ h.next, hk _ _ h.jumps, ?_⟩
  rcases h.row with e | ⟨g, e, hr⟩
  · exact Or.inl e
  · exact Or.inr ⟨g, e, fun i hi => hk _ _ (hr i hi)⟩

/-- the walk over a block's successors -/
theorem succs_stops {nb : Nat} (Bn K o : Nat) (nxo : Option (Bl nb)) (q : Option Addr) (js : List (Bl nb)) (hjs : js.length ≤ 1048576) (w : World) (hS : SuccAt Bn K o nxo q js w) :
    SeqStopsK Fence.wide (3 - 1) Yba.prog 36 #[.pointer (some ⟨Bn, 0, none⟩)] (encB (nb := nb)) (KeptS Bn K o q) (fun ys => ys = nxo.toList ++ js) (fun pre => pre <+: nxo.toList ++ js) (nxo.toList ++ js).length w := fun l J Jx W hW _ _ hY h0 =>
  succs1_in l Bn K o nxo q js hjs J Jx hY W (hS.below hW) h0
end Go.Proofs.Ybulkfqak
