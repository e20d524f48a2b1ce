import Derived.Test.YbulkfqakQLoop2
import Derived.Test.YbulkfqakQLoop3
import Derived.Test.YbulkfqakQSearch
namespace Go.Proofs.Ybulkfqak
open Go.RowKit Go.Shelf
attribute [-simp] Yba.isAgg95

theorem info3 : (Yba.prog.info? 3).map (fun i => (i.zero, i.size, i.bytes)) = some (some (.int .i64 0), 1, 8) := by kernel_rfl
def st0Cells : List Value := .pointer none :: .int .i64 0 :: (List.replicate 32 zv4).flatten
theorem zv95_eq : (Yba.prog.info? 95).map (fun i => (i.zero, i.size)) = some (some (.agg st0Cells.toArray), 130) := by kernel_rfl
theorem bytes95 : (Yba.prog.info? 95).map (·.bytes) = some 528 := by kernel_rfl

section
variable {x : Cx} {nb : Nat} {p : Prg nb} {q : Nat → Option Addr} {fi la : Nat → Int} {w0 : World} {v0 : Value} {n0 : Nat} {xs0 : List Value}

theorem row_new (w : World) (v : Value) (t : TypeId) : (w.alloc (.cells #[v] t)).rowIs w.heap.size t 1 (fun _ => v) := ⟨_, heap_alloc_new _ _, rfl, fun j hj => by obtain rfl : j = 0 := (by omega); rfl⟩
theorem row_new' {b : Nat} (w : World) (v : Value) (t : TypeId) (hb : b = w.heap.size) : (w.alloc (.cells #[v] t)).rowIs b t 1 (fun _ => v) := by subst hb; exact row_new w v t


set_option maxRecDepth 1000000 in
set_option maxHeartbeats 4000000 in
theorem loop1 (he : Ent x p q fi la v0 n0 xs0 w0) (c0 c1 c2 c4 c6 c10 c11 c12 c13 c14 c15 c16 c17 c18 c19 c20 c21 c22 c23 c24 c25 c26 c27 c28 c29 c48 c49 c50 c51 c52 c53 c54 c55 c56 c57 c58 c59 c60 c61 c62 c63 c64 c65 c66 c67 c68 c69 c70 c71 c72 c73 c74 c75 c76 c77 c78 c79 c80 c81 c82 c83 c84 c85 c86 c87 c88 c89 c90 c91 c92 c93 c94 c95 c96 c97 c98 c99 c100 c101 c102 c103 c104 c105 c106 c107 c108 c109 c110 c111 c112 c113 c114 c115 c116 c117 c118 c119 c120 c121 c122 c123 c124 c125 c126 c127 c128 c129 c130 c131 c132 c133 c134 c135 c136 c137 c138 c139 c140 c141 c142 c143 c144 c145 c146 c147 c148 c149 c150 c151 c152 c153 c154 c155 c156 c157 c158 c159 c160 c161 c162 c163 c164 c165 c166 c167 c168 c169 c170 c171 c172 c173 c174 c175 c176 c177 c178 c179 c180 c181 c182 c183 c184 c185 c186 c187 c188 c189 c190 c191 c192 c193 c194 c195 c196 c197 c198 : Value) (u8 u9 u33 u34 u35 u36 u37 u38 u39 u40 u41 u42 u43 u44 u45 u46 u47 : Value) (WB : World) (b3 b4 b5 b6 b7 F : Nat)
    (HB1 : Hid (w0.grownBy WB none ∧ WB.rowIs b3 66 1 (fun _ => .pointer (some ⟨x.C, 0, none⟩)) ∧ WB.rowIs b4 34 1 (fun _ => .slice (some ⟨x.I, 0, none⟩) x.N x.N) ∧ WB.rowIs b5 35 1 (fun _ => .slice (some ⟨x.O, 0, none⟩) x.N x.N) ∧ WB.rowIs b6 4 1 (fun _ => .bool false) ∧ WB.rowIs b7 33 1 (fun _ => .slice (some ⟨F, 0, none⟩) nb nb)))
    (HFl : Hid (w0.heap.size ≤ F)) (HF0 : Hid (WB.rowIs F 3 nb (fun i => .int .i64 (((if i < 0 then p.st i else 0) : Nat) : Int)))) (Q1 : Exit → Act → World → Prop)
    (hexit : ∀ (v8 v9 v32 v33 v34 v35 v36 v37 v38 v39 v40 v41 v42 v43 v44 v45 v46 v47 : Value) (W' : World), WB.grownBy W' (some F) → W'.rowIs F 3 nb (fun i => .int .i64 ((p.st i : Nat) : Int)) → Q1 (.exit 0) ⟨#[c0, c1, c2, .pointer (some ⟨b3, 0, none⟩), c4, .pointer (some ⟨b5, 0, none⟩), c6, .pointer (some ⟨b7, 0, none⟩), v8, v9, c10, c11, c12, c13, c14, c15, c16, c17, c18, c19, c20, c21, c22, c23, c24, c25, c26, c27, c28, c29, .slice (some ⟨x.K, 0, none⟩) nb nb, .int .i64 ((nb : Nat) : Int), v32, v33, v34, v35, v36, v37, v38, v39, v40, v41, v42, v43, v44, v45, v46, v47, c48, c49, c50, c51, c52, c53, c54, c55, c56, c57, c58, c59, c60, c61, c62, c63, c64, c65, c66, c67, c68, c69, c70, c71, c72, c73, c74, c75, c76, c77, c78, c79, c80, c81, c82, c83, c84, c85, c86, c87, c88, c89, c90, c91, c92, c93, c94, c95, c96, c97, c98, c99, c100, c101, c102, c103, c104, c105, c106, c107, c108, c109, c110, c111, c112, c113, c114, c115, c116, c117, c118, c119, c120, c121, c122, c123, c124, c125, c126, c127, c128, c129, c130, c131, c132, c133, c134, c135, c136, c137, c138, c139, c140, c141, c142, c143, c144, c145, c146, c147, c148, c149, c150, c151, c152, c153, c154, c155, c156, c157, c158, c159, c160, c161, c162, c163, c164, c165, c166, c167, c168, c169, c170, c171, c172, c173, c174, c175, c176, c177, c178, c179, c180, c181, c182, c183, c184, c185, c186, c187, c188, c189, c190, c191, c192, c193, c194, c195, c196, c197, c198], []⟩ W') :
    Code.wp Yba.prog (.loop (lp11 0)) (NoPanic Q1) ⟨#[c0, c1, c2, .pointer (some ⟨b3, 0, none⟩), c4, .pointer (some ⟨b5, 0, none⟩), c6, .pointer (some ⟨b7, 0, none⟩), u8, u9, c10, c11, c12, c13, c14, c15, c16, c17, c18, c19, c20, c21, c22, c23, c24, c25, c26, c27, c28, c29, .slice (some ⟨x.K, 0, none⟩) nb nb, .int .i64 ((nb : Nat) : Int), .int .i64 0, u33, u34, u35, u36, u37, u38, u39, u40, u41, u42, u43, u44, u45, u46, u47, c48, c49, c50, c51, c52, c53, c54, c55, c56, c57, c58, c59, c60, c61, c62, c63, c64, c65, c66, c67, c68, c69, c70, c71, c72, c73, c74, c75, c76, c77, c78, c79, c80, c81, c82, c83, c84, c85, c86, c87, c88, c89, c90, c91, c92, c93, c94, c95, c96, c97, c98, c99, c100, c101, c102, c103, c104, c105, c106, c107, c108, c109, c110, c111, c112, c113, c114, c115, c116, c117, c118, c119, c120, c121, c122, c123, c124, c125, c126, c127, c128, c129, c130, c131, c132, c133, c134, c135, c136, c137, c138, c139, c140, c141, c142, c143, c144, c145, c146, c147, c148, c149, c150, c151, c152, c153, c154, c155, c156, c157, c158, c159, c160, c161, c162, c163, c164, c165, c166, c167, c168, c169, c170, c171, c172, c173, c174, c175, c176, c177, c178, c179, c180, c181, c182, c183, c184, c185, c186, c187, c188, c189, c190, c191, c192, c193, c194, c195, c196, c197, c198], []⟩ WB := by
  conv => arg 2; arg 1; whnf
  have HX : Hid (∀ (v8 v9 v32 v33 v34 v35 v36 v37 v38 v39 v40 v41 v42 v43 v44 v45 v46 v47 : Value) (W' : World), WB.grownBy W' (some F) → W'.rowIs F 3 nb (fun i => .int .i64 ((p.st i : Nat) : Int)) → Q1 (.exit 0) ⟨#[c0, c1, c2, .pointer (some ⟨b3, 0, none⟩), c4, .pointer (some ⟨b5, 0, none⟩), c6, .pointer (some ⟨b7, 0, none⟩), v8, v9, c10, c11, c12, c13, c14, c15, c16, c17, c18, c19, c20, c21, c22, c23, c24, c25, c26, c27, c28, c29, .slice (some ⟨x.K, 0, none⟩) nb nb, .int .i64 ((nb : Nat) : Int), v32, v33, v34, v35, v36, v37, v38, v39, v40, v41, v42, v43, v44, v45, v46, v47, c48, c49, c50, c51, c52, c53, c54, c55, c56, c57, c58, c59, c60, c61, c62, c63, c64, c65, c66, c67, c68, c69, c70, c71, c72, c73, c74, c75, c76, c77, c78, c79, c80, c81, c82, c83, c84, c85, c86, c87, c88, c89, c90, c91, c92, c93, c94, c95, c96, c97, c98, c99, c100, c101, c102, c103, c104, c105, c106, c107, c108, c109, c110, c111, c112, c113, c114, c115, c116, c117, c118, c119, c120, c121, c122, c123, c124, c125, c126, c127, c128, c129, c130, c131, c132, c133, c134, c135, c136, c137, c138, c139, c140, c141, c142, c143, c144, c145, c146, c147, c148, c149, c150, c151, c152, c153, c154, c155, c156, c157, c158, c159, c160, c161, c162, c163, c164, c165, c166, c167, c168, c169, c170, c171, c172, c173, c174, c175, c176, c177, c178, c179, c180, c181, c182, c183, c184, c185, c186, c187, c188, c189, c190, c191, c192, c193, c194, c195, c196, c197, c198], []⟩ W') := hexit
  clear hexit
  have hnb := he.hnb
  have hCl := he.rC.lt
  have HE : Hid (Ent x p q fi la v0 n0 xs0 w0) := he
  clear he
  dsimp only
  go_loopw [32] (fun s32 wr => ∃ k : Nat, s32 = .int .i64 (k : Int) ∧ k ≤ nb ∧ Hid (WB.grownBy wr (some F) ∧ wr.rowIs F 3 nb (fun i => .int .i64 (((if i < k then p.st i else 0) : Nat) : Int)))) (fun s32 _ => nb - (intOf s32).toNat)
  case atStart => exact ⟨0, rfl, by omega, gb_refl _ _, HF0⟩
  case round =>
    obtain ⟨k, rfl, hk, hr⟩ := hrel
    obtain ⟨gw, rF⟩ := hr.out
    obtain ⟨gB, r3, r4, r5, r6, r7⟩ := HB1.out
    have q3 := row_grown r3 gw (fun e => by injection e with e; exact row_ne r3 HF0.out (by decide) e)
    have q5 := row_grown r5 gw (fun e => by injection e with e; exact row_ne r5 HF0.out (by decide) e)
    have q7 := row_grown r7 gw (fun e => by injection e with e; exact row_ne r7 HF0.out (by decide) e)
    have gold : ∀ b, b < w0.heap.size → wr.heap[b]? = w0.heap[b]? := fun b hb => (gw.block b (Nat.lt_of_lt_of_le hb gB.size) (fun e => by injection e with e; have := HFl.out; omega)).trans (gB.block b hb (by simp))
    have HQ : Hid (wr.rowIs x.K 54 (nb * 11) (blkF p q fi la (fun _ => false)) ∧ wr.rowIs x.O 40 x.N (fun k => .int .u32 ((3 * k : Nat) : Int)) ∧ wr.cell? ⟨x.C, 2, none⟩ = some (.slice (some ⟨x.K, 0, none⟩) nb nb)) := ⟨HE.out.rK.of_block (gold _ HE.out.rK.lt), HE.out.rO.of_block (gold _ HE.out.rO.lt), (World.cell?_of_block (a := ⟨x.C, 2, none⟩) (gold _ HE.out.rC.lt)).trans (HE.out.rC.cell (i := 2) (by omega))⟩
    by_cases hlt : k < nb
    · have k0 := HQ.out.1.cell (i := k * 11) (by omega)
      have k1 := HQ.out.1.cell (i := k * 11 + 1) (by omega)
      have k2 := HQ.out.1.cell (i := k * 11 + 2) (by omega)
      have k3 := HQ.out.1.cell (i := k * 11 + 3) (by omega)
      have k4 := HQ.out.1.cell (i := k * 11 + 4) (by omega)
      have k5 := HQ.out.1.cell (i := k * 11 + 5) (by omega)
      have k6 := HQ.out.1.cell (i := k * 11 + 6) (by omega)
      have k7 := HQ.out.1.cell (i := k * 11 + 7) (by omega)
      have k8 := HQ.out.1.cell (i := k * 11 + 8) (by omega)
      have k9 := HQ.out.1.cell (i := k * 11 + 9) (by omega)
      have k10 := HQ.out.1.cell (i := k * 11 + 10) (by omega)
      rw [blk0] at k0
      rw [blk1] at k1
      rw [blk2] at k2
      rw [blk3] at k3
      rw [blk4] at k4
      rw [blk5] at k5
      rw [blk6] at k6
      rw [blk7] at k7
      rw [blk8] at k8
      rw [blk9] at k9
      rw [blk10] at k10
      have d5 := q5.cell (i := 0) (by omega)
      have d7 := q7.cell (i := 0) (by omega)
      have l5 := q5.lt
      have l7 := q7.lt
      have lF := rF.lt
      have dF := rF.cell hlt
      have fF := rF.frozen k
      have hkn : (k : Int) < (nb : Int) := by omega
      clear gw rF gB r3 r4 r5 r6 r7 q3 q5 q7 gold
      go_upto_region 5 with fail
      obtain ⟨WC, hWC, HWC⟩ : ∃ WC, WC = wr.alloc (.cells #[.int .u32 (3 * (p.st k : Int)), .int .u32 (3 * (p.st (k + 1) : Int)), .int .i32 (fi k), .int .i32 (la k), .int .i32 (nextInt (p.nxo k)), .slice (q k) (p.js k).length (p.js k).length, .int .u8 0, .bool (p.ind k), .bool false, .bool false, .slice none 0 0] 54) ∧
          Hid (wr.grownBy WC none ∧ WC.cell? ⟨wr.heap.size, 0, none⟩ = some (.int .u32 (3 * (p.st k : Int)))) := by
        refine ⟨_, rfl, gb_alloc _ _ _, ?_⟩
        simp only [World.cell?, heap_alloc_new]
        rfl
      obtain ⟨B9, hB9⟩ : ∃ B9, B9 = wr.heap.size := ⟨_, rfl⟩
      rw [← hWC, ← hB9]
      have e9 : WC.cell? ⟨B9, 0, none⟩ = some (.int .u32 (3 * (p.st k : Int))) := by rw [hB9]; exact HWC.out.2
      have HR1 : Hid (WB.grownBy WC (some F) ∧ WC.rowIs F 3 nb (fun i => .int .i64 (((if i < k then p.st i else 0) : Nat) : Int))) := ⟨gb_trans hr.out.1 (HWC.out.1.but _), row_grown hr.out.2 HWC.out.1 (by simp)⟩
      have HO1 : Hid (WC.rowIs x.O 40 x.N (fun k => .int .u32 ((3 * k : Nat) : Int))) := row_grown HQ.out.2.1 HWC.out.1 (by simp)
      have e5 : WC.cell? ⟨b5, 0, none⟩ = some (.slice (some ⟨x.O, 0, none⟩) x.N x.N) := (World.cell?_of_block (a := ⟨b5, 0, none⟩) (HWC.out.1.block b5 l5 (by simp))).trans d5
      have e7 : WC.cell? ⟨b7, 0, none⟩ = some (.slice (some ⟨F, 0, none⟩) nb nb) := (World.cell?_of_block (a := ⟨b7, 0, none⟩) (HWC.out.1.block b7 l7 (by simp))).trans d7
      have eF := HR1.out.2.cell hlt
      have fF' := HR1.out.2.frozen k
      clear hWC hB9 HWC d5 d7 dF fF k0 k1 k2 k3 k4 k5 k6 k7 k8 k9 k10 HQ
      have hsl := HE.out.st_le (nb - k) k (by omega)
      have hN := HE.out.hN
      have HSR : Hid (∀ w, w.rowIs x.O 40 x.N (fun k => .int .u32 ((3 * k : Nat) : Int)) → Calls Yba.prog 14 #[.slice (some ⟨x.O, 0, none⟩) x.N x.N, .int .u32 (3 * (p.st k : Int))] w fun e w' => ∃ f, e = .returned (.tuple #[.int .i64 (p.st k : Int), .bool f]) ∧ w' = w) := fun w h => by
        have := search_any x.O x.N (p.st k) w hN hsl h
        simpa using this
      go_region_with (go_at_call 14; refine (HSR.out _ HO1.out.drew).mono ?_; rintro e w' ⟨fnd, rfl, rfl⟩)
      all_goals go_wp2_with fail
      all_goals go_roundw
      all_goals first
        | (refine ⟨k + 1, by simp, by omega, gb_trans (gb_trans HR1.out.1 (gb_below (below_drew WC) _)) (gb_set _ _ _ _), ((HR1.out.2.drew.set k _).congr fun i hi => ?_)⟩
           by_cases e : i = k
           · subst e; rw [if_pos rfl, if_pos (by omega)]
           · rw [if_neg e]
             by_cases h : i < k
             · rw [if_pos h, if_pos (by omega)]
             · rw [if_neg h, if_neg (by omega)])
        | (simp [intOf]; omega)
    · obtain rfl : k = nb := by omega
      have hkn : ¬ (k : Int) < (k : Int) := by omega
      clear gw rF gB r3 r4 r5 r6 r7 q3 q5 q7 gold HQ
      go_wp2_with fail
      exact HX.out _ _ _ _ _ _ _ _ _ _ _ _ _ _ _ _ _ _ wr hr.out.1 (hr.out.2.congr fun i hi => by rw [if_pos hi])
end
end Go.Proofs.Ybulkfqak
