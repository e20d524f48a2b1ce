import Derived.Test.YbulkfpliCMain
import Derived.Test.YbulkfpliCMap
import Derived.ProofKit
import Derived.OpenShut
import Derived.ShutString
import Derived.ChangeOld
import Derived.SizedLaws
namespace Go.Proofs.Ybulkfpli
open Go.ChangeShapes Go.WideShapes Go.ChangeAt Go.RowKit
open Go.ChangeMaps (open_string shut_string)

theorem own : ownKnob Yba.prog.godebug = none := by kernel_rfl
theorem laidOut : laidOutB Yba.prog = true := by kernel_rfl
theorem cells9 : Yba.prog.cellsOf 9 = 1 := by kernel_rfl
theorem bytes9 : Yba.prog.bytesOf 9 = 16 := by kernel_rfl

/-- A slice of strings that came in: what the walks ask of it. -/
theorem strSl_open {H : Type} {enc : TypeId × Value → H} {W : World} {a : Option Addr} {len cap : Nat} {d : DataW H} {p : List MemPlace}
    (h : DataW.Trod enc Yba.prog W 0 (fun _ => true) true 22 (.slice a len cap) d p) (hlt : ∀ x ∈ p, x.block < W.heap.size)
    {ts : List TypeId} {ds : List (DataW H)} (hsz : (DataW.weightsEach Yba.prog ts ds).all (· ≤ reachBytes) = true) {j : Nat} (ht : ts[j]? = some 22) (hd : ds[j]? = some d) :
    ∃ ss : List ByteArray, ss.length = len ∧ StrSl W (.slice a len cap) ss ∧ (∀ i, (valAt ss i).size ≤ maxLen) ∧ ss.length < 9000000000000 := by
  obtain ⟨fuel, hf⟩ := h
  rcases open_strings Yba.underlying22 Yba.underlying9 cells9 hf with ⟨hcs, hx⟩ | ⟨a', len', cap', ss, hcs, _, hl, hm, hz, hx, hcell, hws⟩
  · simp [Value.cells] at hcs
    obtain ⟨rfl, rfl, rfl⟩ := hcs
    exact ⟨[], rfl, ⟨none, 0, rfl, fun h => by simp at h⟩, fun i => by simp [valAt], by simp⟩
  · simp [Value.cells] at hcs
    obtain ⟨rfl, rfl, rfl⟩ := hcs
    simp only [Prod.mk.injEq] at hx
    obtain ⟨rfl, rfl⟩ := hx
    simp only [if_true] at hz
    have hlen : (ss.take len).length = len := by rw [List.length_take]; omega
    refine ⟨ss.take len, hlen, ⟨some a', cap, by rw [hlen], fun h0 => ?_⟩, fun i => ?_, ?_⟩
    · rw [hlen] at h0
      obtain ⟨b, off, spot⟩ := a'
      have hspot : spot = none := by simpa [Addr.add] using World.cell?_spot (hcell 0 (by omega))
      subst hspot
      refine ⟨b, off, rfl, hlt (.cell b off) (MemPlace.mem_row.2 ⟨0, by omega, by simp⟩), fun j hj => ?_⟩
      rw [hlen] at hj
      have := hcell j (by omega)
      rw [add_plain] at this
      rw [this]
      congr 2
      unfold valAt
      rw [List.getD, List.getD, List.getElem?_take, if_pos hj]
    · unfold valAt
      rw [List.getD]
      cases hi : (ss.take len)[i]? with
      | none => exact Nat.zero_le _
      | some x => exact hws _ (List.mem_of_mem_take (List.mem_of_getElem? hi))
    · rw [hlen]
      have := sized_slice hsz ht hd Yba.underlying22
      rw [bytes9] at this
      simp only [strs, List.length_map, List.length_take, List.length_drop, reachBytes] at this
      omega

theorem bounds_u8' {n : Int} (h : (Lit.int .u8 n).wf = true) : 0 ≤ n ∧ n ≤ 255 := bounds_u8 h

set_option maxRecDepth 100000 in
theorem c_lifted (os : Os) (started : os.Started) (H : Type) (enc : TypeId × Value → H) :
    ReturnsInHanded {} Yba.checked os 3 .any (Rows.lawS8328CWholeSpec.pre6 enc Yba.prog Yba.f3 Rows.lawS8328CWholeRow.domain false) (Rows.lawS8328CWholeSpec.post enc Yba.prog Yba.f3 false true false false) := by
  refine returnsInHanded_of_change_sized (C := Yba.checked) own started (by kernel_rfl) Yba.func3
    (ChangeSpec.witness6 (enc := enc) (C := Yba.checked) false ⟨#[], #[.string ByteArray.empty, .string ByteArray.empty, .bool false, .slice none 0 0, .slice none 0 0, .string ByteArray.empty, .int .u8 0, .string ByteArray.empty, .string ByteArray.empty, .string ByteArray.empty], []⟩ 8 (by kernel_rfl) (by kernel_rfl) (by kernel_rfl) (by kernel_rfl)) ?_
  intro W base args ds gs before hval0 hW _ hsz0 _
  have hsz : (DataW.weightsEach Yba.prog (Yba.f3.params.toList ++ Rows.lawS8328CWholeSpec.plain.varTypes Yba.prog) (ds ++ gs)).all (· ≤ reachBytes) = true := hsz0
  clear hsz0
  have hval : ∀ (j : Nat) t v, Yba.f3.params[j]? = some t → args[j]? = some v → Value.okWide Yba.prog W .any base t v := hval0
  have hW' := hW
  obtain ⟨p, q, hA0, hV, rfl, hfz, hnd⟩ := hW
  have hA : DataW.TrodAll enc Yba.prog W 0 (fun _ => true) true Yba.f3.params.toList args.toList ds p := hA0
  rw [Yba.params3] at hA hval hsz
  obtain ⟨v0, vs0, d0, ds0, p0, q0, hargs, rfl, rfl, h0, r0⟩ := trodAll_cons hA
  obtain ⟨v1, vs1, d1, ds1, p1, q1, rfl, rfl, rfl, h1, r1⟩ := trodAll_cons r0
  obtain ⟨v2, vs2, d2, ds2, p2, q2, rfl, rfl, rfl, h2, r2⟩ := trodAll_cons r1
  obtain ⟨v3, vs3, d3, ds3, p3, q3, rfl, rfl, rfl, h3, r3⟩ := trodAll_cons r2
  obtain ⟨v4, vs4, d4, ds4, p4, q4, rfl, rfl, rfl, h4, r4⟩ := trodAll_cons r3
  obtain ⟨v5, vs5, d5, ds5, p5, q5, rfl, rfl, rfl, h5, r5⟩ := trodAll_cons r4
  obtain ⟨v6, vs6, d6, ds6, p6, q6, rfl, rfl, rfl, h6, r6⟩ := trodAll_cons r5
  obtain ⟨v7, vs7, d7, ds7, p7, q7, rfl, rfl, rfl, h7, r7⟩ := trodAll_cons r6
  obtain ⟨v8, vs8, d8, ds8, p8, q8, rfl, rfl, rfl, h8, r8⟩ := trodAll_cons r7
  obtain ⟨v9, vs9, d9, ds9, p9, q9, rfl, rfl, rfl, h9, r9⟩ := trodAll_cons r8
  obtain ⟨rfl, rfl, rfl⟩ := trodAll_nil r9
  obtain rfl : args = #[v0, v1, v2, v3, v4, v5, v6, v7, v8, v9] := by cases args; simp_all
  obtain ⟨rfl, rfl⟩ := trodVars_none hV
  obtain ⟨s0, rfl, rfl, rfl, w0⟩ := open_string Yba.underlying9 (hval 0 9 v0 rfl rfl) h0
  obtain ⟨s1, rfl, rfl, rfl, w1⟩ := open_string Yba.underlying9 (hval 1 9 v1 rfl rfl) h1
  obtain ⟨b2, rfl, rfl, rfl⟩ := open_bool Yba.underlying4 (hval 2 4 v2 rfl rfl) h2
  obtain ⟨a3, len3, cap3, rfl⟩ := okWide_slice Yba.underlying22 (hval 3 22 v3 rfl rfl)
  obtain ⟨a4, len4, cap4, rfl⟩ := okWide_slice Yba.underlying22 (hval 4 22 v4 rfl rfl)
  obtain ⟨s5, rfl, rfl, rfl, w5⟩ := open_string Yba.underlying9 (hval 5 9 v5 rfl rfl) h5
  obtain ⟨n6, rfl, rfl, rfl, w6⟩ := open_int Yba.underlying5 (hval 6 5 v6 rfl rfl) h6
  obtain ⟨s7, rfl, rfl, rfl, w7⟩ := open_string Yba.underlying9 (hval 7 9 v7 rfl rfl) h7
  obtain ⟨s8, rfl, rfl, rfl, w8⟩ := open_string Yba.underlying9 (hval 8 9 v8 rfl rfl) h8
  obtain ⟨s9, rfl, rfl, rfl, w9⟩ := open_string Yba.underlying9 (hval 9 9 v9 rfl rfl) h9
  have lt3 : ∀ x ∈ p3, x.block < W.heap.size := by obtain ⟨m, hm⟩ := h3; exact DataW.trod_lt m _ _ _ hm
  have lt4 : ∀ x ∈ p4, x.block < W.heap.size := by obtain ⟨m, hm⟩ := h4; exact DataW.trod_lt m _ _ _ hm
  obtain ⟨ks, hkl, hks, hkz, _⟩ := strSl_open h3 lt3 hsz (j := 3) rfl rfl
  obtain ⟨vs, hvl, hvs, hvz, hvb⟩ := strSl_open h4 lt4 hsz (j := 4) rfl rfl
  have b6 := bounds_u8' w6
  clear hA0 hval0
  have fin : ∀ e W', (e = Ending.returned (.bool true) ∧ Below W.heap.size W W') →
      ∃ v, e = Ending.returned v ∧ Rows.lawS8328CWholeSpec.post enc Yba.checked.prog Yba.f3 false true false false W #[.string s0, .string s1, .bool b2, .slice a3 len3 cap3, .slice a4 len4 cap4, .string s5, .int .u8 n6, .string s7, .string s8, .string s9] v W' := by
    intro e W' ⟨he, bel⟩
    subst he
    exact ⟨_, rfl, _, _, _, [], _, [], hW', trodAll_mk1 (shut_bool Yba.underlying4 _),
      (trodAll_cons_mk (shut_string Yba.underlying9 w0) (trodAll_cons_mk (shut_string Yba.underlying9 w1) (trodAll_cons_mk (shut_bool Yba.underlying4 _)
        (trodAll_cons_mk (Below.trod laidOut (by kernel_rfl) (of_decide_eq_true (by kernel_rfl)) h3 bel lt3)
        (trodAll_cons_mk (Below.trod laidOut (by kernel_rfl) (of_decide_eq_true (by kernel_rfl)) h4 bel lt4)
        (trodAll_cons_mk (shut_string Yba.underlying9 w5) (trodAll_cons_mk (shut_int Yba.underlying5 w6) (trodAll_cons_mk (shut_string Yba.underlying9 w7)
        (trodAll_cons_mk (shut_string Yba.underlying9 w8) (trodAll_cons_mk (shut_string Yba.underlying9 w9) trodAll_mk0)))))))))), rfl, bel.frame _, fun h => by cases h⟩
  by_cases hbig : len3 ≤ 4096
  · cases b2
    · exact (main_map s0 s1 s5 s7 s8 s9 _ _ ks vs n6 W (by omega) hks hvs hvb hkz hvz b6.1 b6.2 w8 w9).mono fin
    · exact (main_nil s0 s1 s5 s7 s8 s9 a3 a4 len3 cap3 len4 cap4 n6 W hbig b6.1 b6.2 w8 w9).mono fin
  · exact (main_big s0 s1 s5 s7 s8 s9 b2 a3 a4 len3 cap3 len4 cap4 n6 W (by omega)).mono (fun e W' ⟨he, hw⟩ => fin e W' ⟨he, by rw [hw]; exact Below.refl _ _⟩)

theorem c_over : Rows.lawS8328CWholeRow.holds Yba.pinned (OpenSpec.ofChange Rows.lawS8328CWholeSpec) :=
  OpenClaim.holds_of_wide 3 Yba.f3 rfl rfl rfl rfl rfl rfl rfl ⟨rfl, rfl, rfl, rfl, rfl⟩ rfl rfl rfl rfl rfl (by kernel_rfl) Yba.func3 (by kernel_rfl)
    (of_decide_eq_true (by kernel_rfl)) (by unfold Func.isWrapper; first | (rw [if_pos (by decide +kernel)]; kernel_rfl) | (rw [if_neg (by decide +kernel)]; exact ⟨rfl, rfl⟩))
    (fun os started H enc _ => c_lifted os started H enc)

/-- THE STATEMENT -/
theorem c_proved : Rows.LawS8328CWholeSaid := c_over
end Go.Proofs.Ybulkfpli
