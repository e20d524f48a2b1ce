import Derived.Test.YbulkfqbmFMain
import Derived.ProofKit
import Derived.OpenShut
import Derived.ShutString
import Derived.ChangeOld
namespace Go.Proofs.Ybulkfqbm
open Go.ChangeShapes Go.WideShapes Go.ChangeAt Go.RowKit

theorem f_own : ownKnob Yba.prog.godebug = none := by kernel_rfl

set_option maxRecDepth 100000 in
theorem f_lifted (os : Os) (started : os.Started) (H : Type) (enc : TypeId × Value → H) :
    ReturnsInHanded {} Yba.checked os 4 .any (Rows.lawS8358CFromIntSpec.pre6 enc Yba.prog Yba.f4 Rows.lawS8358CFromIntRow.domain false) (Rows.lawS8358CFromIntSpec.post enc Yba.prog Yba.f4 false true false false) := by
  refine returnsInHanded_of_change (C := Yba.checked) f_own started (by kernel_rfl) Yba.func4
    (ChangeSpec.witness6 (enc := enc) (C := Yba.checked) false ⟨#[], #[.int .i64 0], []⟩ 8 (by kernel_rfl) (by kernel_rfl) (by kernel_rfl) (by kernel_rfl)) ?_
  intro W base args ds gs before hval0 hW hcnd _
  have hval : ∀ (j : Nat) t v, Yba.f4.params[j]? = some t → args[j]? = some v → Value.okWide Yba.prog W .any base t v := hval0
  have hW' := hW
  obtain ⟨p, q, hA0, hV, rfl, hfz, hnd⟩ := hW
  have hA : DataW.TrodAll enc Yba.prog W 0 (fun _ => true) true Yba.f4.params.toList args.toList ds p := hA0
  rw [Yba.params4] at hA hval
  obtain ⟨v0, vs0, d0, ds0, p0, q0, hargs, rfl, rfl, h0, r0⟩ := trodAll_cons hA
  obtain ⟨rfl, rfl, rfl⟩ := trodAll_nil r0
  obtain rfl : args = #[v0] := by cases args; simp_all
  obtain ⟨rfl, rfl⟩ := trodVars_none hV
  obtain ⟨a0, rfl, rfl, rfl, w0⟩ := open_int Yba.underlying2 (hval 0 2 v0 rfl rfl) h0
  clear hA0 hval0
  have b0 := bounds_i64 w0
  have fin : ∀ e W', (e = Ending.returned (.bool true) ∧ Below W.heap.size W W') →
      ∃ v, e = Ending.returned v ∧ Rows.lawS8358CFromIntSpec.post enc Yba.checked.prog Yba.f4 false true false false W #[.int .i64 a0] v W' := by
    intro e W' ⟨he, bel⟩
    subst he
    exact ⟨_, rfl, _, _, _, [], _, [], hW', trodAll_mk1 (shut_bool Yba.underlying4 _), (trodAll_cons_mk (shut_int Yba.underlying2 w0) trodAll_mk0), rfl, bel.frame _, fun h => by cases h⟩
  by_cases hn : a0 < 0
  · exact (f_main_neg a0 W b0.1 b0.2 hn).mono fin
  · by_cases hz : a0 = 0
    · subst hz
      exact (f_main_zero W).mono fin
    · exact (f_main_pos a0 W b0.1 b0.2 (by omega)).mono fin

theorem f_over : Rows.lawS8358CFromIntRow.holds Yba.pinned (OpenSpec.ofChange Rows.lawS8358CFromIntSpec) :=
  OpenClaim.holds_of_wide 4 Yba.f4 rfl rfl rfl rfl rfl rfl rfl ⟨rfl, rfl, rfl, rfl, rfl⟩ rfl rfl rfl rfl rfl (by kernel_rfl) Yba.func4 (by kernel_rfl)
    (of_decide_eq_true (by kernel_rfl)) (by unfold Func.isWrapper; first | (rw [if_pos (by decide +kernel)]; kernel_rfl) | (rw [if_neg (by decide +kernel)]; exact ⟨rfl, rfl⟩))
    (fun os started H enc _ => f_lifted os started H enc)

/-- THE STATEMENT -/
theorem f_proved : Rows.LawS8358CFromIntSaid := f_over
end Go.Proofs.Ybulkfqbm
