import Derived.Test.YbulkfqakQThree
import Derived.Deep.RegionHeld3
namespace Go.Proofs.Ybulkfqak
open Go.RowKit Go.Shelf
attribute [-simp] Yba.isAgg95
section
variable {x : Cx} {nb : Nat} {p : Prg nb} {q : Nat → Option Addr} {fi la : Nat → Int} {w0 : World} {v0 : Value} {n0 : Nat} {xs0 : List Value}
/-- how many readings and writings there are before block i -/
def cntTo {nb : Nat} (p : Prg nb) (sn : Nat → Bool) (n0 : Nat) : Nat → Nat
  | 0 => n0
  | i + 1 => cntTo p sn n0 i + (if sn i = true then accNum p.kd (p.st i) (p.st (i + 1) - p.st i) else 0)
def accTo {nb : Nat} (p : Prg nb) (sn : Nat → Bool) (dl : Nat → Int) (xs0 : List Value) : Nat → List Value
  | 0 => xs0
  | i + 1 => accTo p sn dl xs0 i ++ (if sn i = true then accFrom p.kd (p.st i) (p.st (i + 1) - p.st i) (dl i) else [])
def fiTo {nb : Nat} (p : Prg nb) (sn : Nat → Bool) (n0 : Nat) (fi : Nat → Int) (i : Nat) : Nat → Int := fun j => if j < i then ((cntTo p sn n0 j : Nat) : Int) else fi j
def laTo {nb : Nat} (p : Prg nb) (sn : Nat → Bool) (n0 : Nat) (la : Nat → Int) (i : Nat) : Nat → Int := fun j => if j < i then ((cntTo p sn n0 (j + 1) : Nat) : Int) else la j
theorem cntTo_le {x : Cx} {nb : Nat} {p : Prg nb} {q : Nat → Option Addr} {fi la : Nat → Int} {v0 : Value} {n0 : Nat} {xs0 : List Value} {w0 : World} (he : Ent x p q fi la v0 n0 xs0 w0) (sn : Nat → Bool) : ∀ i, i ≤ nb → cntTo p sn n0 i ≤ n0 + p.st i
  | 0, _ => by unfold cntTo; omega
  | i + 1, h => by
    have h1 := cntTo_le he sn i (by omega)
    have h2 := he.mono i (by omega)
    have h3 := accNum_le p.kd (p.st (i + 1) - p.st i) (p.st i)
    unfold cntTo
    split <;> omega
theorem fiTo_step {nb : Nat} (p : Prg nb) (sn : Nat → Bool) (n0 : Nat) (fi : Nat → Int) (i : Nat) : upd (fiTo p sn n0 fi i) i ((cntTo p sn n0 i : Nat) : Int) = fiTo p sn n0 fi (i + 1) := by
  funext j
  unfold upd fiTo
  by_cases e : j = i
  · subst e; rw [if_pos rfl, if_pos (by omega)]
  · rw [if_neg e]
    by_cases h : j < i
    · rw [if_pos h, if_pos (by omega)]
    · rw [if_neg h, if_neg (by omega)]
theorem laTo_step {nb : Nat} (p : Prg nb) (sn : Nat → Bool) (n0 : Nat) (la : Nat → Int) (i : Nat) : upd (laTo p sn n0 la i) i ((cntTo p sn n0 (i + 1) : Nat) : Int) = laTo p sn n0 la (i + 1) := by
  funext j
  unfold upd laTo
  by_cases e : j = i
  · subst e; rw [if_pos rfl, if_pos (by omega)]
  · rw [if_neg e]
    by_cases h : j < i
    · rw [if_pos h, if_pos (by omega)]
    · rw [if_neg h, if_neg (by omega)]

theorem Copied.own_ne {W : World} {S base n : Nat} {d : Int} {xs : List Value} {v : Value} (h : Copied x S d w0 W) (ho : W.ownsRow base 60 7 v n xs) : some S ≠ v.ownBlock := by
  intro e
  obtain ⟨c, hc⟩ := own60_at ho e.symm
  obtain ⟨c', h2, _⟩ := h.blk
  rw [hc] at h2
  injection h2 with h2
  injection h2 with _ h2
  cases h2

set_option maxRecDepth 1000000 in
set_option maxHeartbeats 4000000 in
theorem loop3 (he : Ent x p q fi la v0 n0 xs0 w0) (c0 c1 c2 c4 c5 c6 c7 c8 c9 c12 c13 c14 c15 c16 c17 c21 c22 c23 c24 c25 c26 c27 c28 c29 c30 c31 c32 c33 c34 c35 c36 c37 c38 c39 c40 c41 c42 c43 c44 c45 c46 c47 c48 c49 c50 c51 c52 c53 c54 c55 c56 c57 c58 c59 c60 c61 c62 c63 c64 c65 c66 c67 c68 c69 c70 c71 c72 c73 c74 c75 c76 c77 c78 c79 c80 c81 c82 c83 c84 c85 c86 c87 c88 c89 c90 c91 c92 c93 c94 c95 c96 c97 c98 c99 c100 c101 c102 c103 c104 c105 c106 c107 c108 c109 c110 c111 c112 c113 c114 c115 c116 c117 c118 c119 c120 c121 c122 c123 c124 c125 c126 c127 c128 c129 c130 c131 c132 c133 c134 c135 c136 c137 c138 c139 c140 c141 c142 c143 c144 c145 c146 c147 c148 c149 c150 c151 c152 c153 c154 c155 c156 : Value) (u18 u19 u20 u159 u160 u161 u162 u163 u164 u165 u166 u167 u168 u169 u170 u171 u172 u173 u174 u175 u176 u177 u178 u179 u180 u181 u182 u183 u184 u185 u186 u187 u188 u189 u190 u191 u192 u193 u194 u195 u196 u197 u198 : Value) (Ds : List Nat) (s : St) (t : Nat) (W : World) (hF : F3 x p q w0 v0 s.seen s.delta fi la n0 xs0 v0 W) (hg : Good nb s t) (hM : Marks w0.heap.size Ds W) (Q0 : Exit → Act → World → Prop)
    (hexit : ∀ (v18 v19 v20 v158 v159 v160 v161 v162 v163 v164 v165 v166 v167 v168 v169 v170 v171 v172 v173 v174 v175 v176 v177 v178 v179 v180 v181 v182 v183 v184 v185 v186 v187 v188 v189 v190 v191 v192 v193 v194 v195 v196 v197 v198 : Value) (v : Value) (W' : World), F3 x p q w0 v0 s.seen s.delta (fiTo p s.seen n0 fi nb) (laTo p s.seen n0 la nb) (cntTo p s.seen n0 nb) (accTo p s.seen s.delta xs0 nb) v W' → Marks w0.heap.size Ds W' → Q0 (.exit 6) ⟨#[c0, c1, c2, .pointer (some ⟨x.b3, 0, none⟩), c4, c5, c6, c7, c8, c9, .func (.func 15) #[] #[.pointer (some ⟨x.b7, 0, none⟩), .pointer (some ⟨x.b4, 0, none⟩), .pointer (some ⟨x.b5, 0, none⟩), .pointer (some ⟨x.b3, 0, none⟩)], .pointer (some ⟨x.b11, 0, none⟩), c12, c13, c14, c15, c16, c17, v18, v19, v20, c21, c22, c23, c24, c25, c26, c27, c28, c29, c30, c31, c32, c33, c34, c35, c36, c37, c38, c39, c40, c41, c42, c43, c44, c45, c46, c47, c48, c49, c50, c51, c52, c53, c54, c55, c56, c57, c58, c59, c60, c61, c62, c63, c64, c65, c66, c67, c68, c69, c70, c71, c72, c73, c74, c75, c76, c77, c78, c79, c80, c81, c82, c83, c84, c85, c86, c87, c88, c89, c90, c91, c92, c93, c94, c95, c96, c97, c98, c99, c100, c101, c102, c103, c104, c105, c106, c107, c108, c109, c110, c111, c112, c113, c114, c115, c116, c117, c118, c119, c120, c121, c122, c123, c124, c125, c126, c127, c128, c129, c130, c131, c132, c133, c134, c135, c136, c137, c138, c139, c140, c141, c142, c143, c144, c145, c146, c147, c148, c149, c150, c151, c152, c153, c154, c155, c156, .int .i64 ((nb : Nat) : Int), v158, v159, v160, v161, v162, v163, v164, v165, v166, v167, v168, v169, v170, v171, v172, v173, v174, v175, v176, v177, v178, v179, v180, v181, v182, v183, v184, v185, v186, v187, v188, v189, v190, v191, v192, v193, v194, v195, v196, v197, v198], Ds.map mk⟩ W') :
    Code.wp Yba.prog (.loop (lp11 2)) Q0 ⟨#[c0, c1, c2, .pointer (some ⟨x.b3, 0, none⟩), c4, c5, c6, c7, c8, c9, .func (.func 15) #[] #[.pointer (some ⟨x.b7, 0, none⟩), .pointer (some ⟨x.b4, 0, none⟩), .pointer (some ⟨x.b5, 0, none⟩), .pointer (some ⟨x.b3, 0, none⟩)], .pointer (some ⟨x.b11, 0, none⟩), c12, c13, c14, c15, c16, c17, u18, u19, u20, c21, c22, c23, c24, c25, c26, c27, c28, c29, c30, c31, c32, c33, c34, c35, c36, c37, c38, c39, c40, c41, c42, c43, c44, c45, c46, c47, c48, c49, c50, c51, c52, c53, c54, c55, c56, c57, c58, c59, c60, c61, c62, c63, c64, c65, c66, c67, c68, c69, c70, c71, c72, c73, c74, c75, c76, c77, c78, c79, c80, c81, c82, c83, c84, c85, c86, c87, c88, c89, c90, c91, c92, c93, c94, c95, c96, c97, c98, c99, c100, c101, c102, c103, c104, c105, c106, c107, c108, c109, c110, c111, c112, c113, c114, c115, c116, c117, c118, c119, c120, c121, c122, c123, c124, c125, c126, c127, c128, c129, c130, c131, c132, c133, c134, c135, c136, c137, c138, c139, c140, c141, c142, c143, c144, c145, c146, c147, c148, c149, c150, c151, c152, c153, c154, c155, c156, .int .i64 ((nb : Nat) : Int), .int .i64 0, u159, u160, u161, u162, u163, u164, u165, u166, u167, u168, u169, u170, u171, u172, u173, u174, u175, u176, u177, u178, u179, u180, u181, u182, u183, u184, u185, u186, u187, u188, u189, u190, u191, u192, u193, u194, u195, u196, u197, u198], Ds.map mk⟩ W := by
  conv => arg 2; arg 1; whnf
  obtain ⟨Z, hZs, hz⟩ := zero95
  have HE : Hid (Ent x p q fi la v0 n0 xs0 w0) := he
  have HG : Hid (Good nb s t) := hg
  have H0 : Hid (F3 x p q w0 v0 s.seen s.delta fi la n0 xs0 v0 W ∧ Marks w0.heap.size Ds W) := ⟨hF, hM⟩
  have HX : Hid (∀ (v18 v19 v20 v158 v159 v160 v161 v162 v163 v164 v165 v166 v167 v168 v169 v170 v171 v172 v173 v174 v175 v176 v177 v178 v179 v180 v181 v182 v183 v184 v185 v186 v187 v188 v189 v190 v191 v192 v193 v194 v195 v196 v197 v198 : Value) (v : Value) (W' : World), F3 x p q w0 v0 s.seen s.delta (fiTo p s.seen n0 fi nb) (laTo p s.seen n0 la nb) (cntTo p s.seen n0 nb) (accTo p s.seen s.delta xs0 nb) v W' → Marks w0.heap.size Ds W' → Q0 (.exit 6) ⟨#[c0, c1, c2, .pointer (some ⟨x.b3, 0, none⟩), c4, c5, c6, c7, c8, c9, .func (.func 15) #[] #[.pointer (some ⟨x.b7, 0, none⟩), .pointer (some ⟨x.b4, 0, none⟩), .pointer (some ⟨x.b5, 0, none⟩), .pointer (some ⟨x.b3, 0, none⟩)], .pointer (some ⟨x.b11, 0, none⟩), c12, c13, c14, c15, c16, c17, v18, v19, v20, c21, c22, c23, c24, c25, c26, c27, c28, c29, c30, c31, c32, c33, c34, c35, c36, c37, c38, c39, c40, c41, c42, c43, c44, c45, c46, c47, c48, c49, c50, c51, c52, c53, c54, c55, c56, c57, c58, c59, c60, c61, c62, c63, c64, c65, c66, c67, c68, c69, c70, c71, c72, c73, c74, c75, c76, c77, c78, c79, c80, c81, c82, c83, c84, c85, c86, c87, c88, c89, c90, c91, c92, c93, c94, c95, c96, c97, c98, c99, c100, c101, c102, c103, c104, c105, c106, c107, c108, c109, c110, c111, c112, c113, c114, c115, c116, c117, c118, c119, c120, c121, c122, c123, c124, c125, c126, c127, c128, c129, c130, c131, c132, c133, c134, c135, c136, c137, c138, c139, c140, c141, c142, c143, c144, c145, c146, c147, c148, c149, c150, c151, c152, c153, c154, c155, c156, .int .i64 ((nb : Nat) : Int), v158, v159, v160, v161, v162, v163, v164, v165, v166, v167, v168, v169, v170, v171, v172, v173, v174, v175, v176, v177, v178, v179, v180, v181, v182, v183, v184, v185, v186, v187, v188, v189, v190, v191, v192, v193, v194, v195, v196, v197, v198], Ds.map mk⟩ W') := hexit
  clear he hg hF hM hexit
  dsimp only
  go_loopw [158] (fun s158 wr => ∃ (i : Nat) (v : Value), s158 = .int .i64 (i : Int) ∧ i ≤ nb ∧ Hid (F3 x p q w0 v0 s.seen s.delta (fiTo p s.seen n0 fi i) (laTo p s.seen n0 la i) (cntTo p s.seen n0 i) (accTo p s.seen s.delta xs0 i) v wr ∧ Marks w0.heap.size Ds wr)) (fun s158 _ => nb - (intOf s158).toNat)
  case atStart =>
    refine ⟨0, v0, rfl, by omega, ?_⟩
    have e1 : fiTo p s.seen n0 fi 0 = fi := by funext j; simp [fiTo]
    have e2 : laTo p s.seen n0 la 0 = la := by funext j; simp [laTo]
    rw [e1, e2]
    exact H0
  case round =>
    obtain ⟨i, v, rfl, hi, hr⟩ := hrel
    have HEs := HE.out
    have hnb := HEs.hnb
    have hN := HEs.hN
    have hn0 := HEs.hn0
    by_cases hlt : i < nb
    · have HF1 : Hid (F3 x p q w0 v0 s.seen s.delta (fiTo p s.seen n0 fi i) (laTo p s.seen n0 la i) (cntTo p s.seen n0 i) (accTo p s.seen s.delta xs0 i) v wr) := hr.out.1
      have HM1 : Hid (Marks w0.heap.size Ds wr) := hr.out.2
      have hcl := cntTo_le HEs s.seen i (by omega)
      have hst := HEs.st_le (nb - i) i (by omega)
      obtain ⟨m, hme⟩ : ∃ m, m = cntTo p s.seen n0 i := ⟨_, rfl⟩
      rw [← hme] at HF1 hcl
      have Hme : Hid (m = cntTo p s.seen n0 i) := hme
      clear hme
      obtain ⟨vp, cap, rfl⟩ := own60_form HF1.out.acc.own
      have c3 := HF1.out.B3.cell (i := 0) (by omega)
      have cC : wr.cell? ⟨x.C, 2, none⟩ = some (.slice (some ⟨x.K, 0, none⟩) nb nb) := (HF1.out.code 2 (by omega)).trans (HEs.rC.cell (i := 2) (by omega))
      have cA := HF1.out.acc.cell
      have c2 := HF1.out.rK.cell (i := i * 11 + 2) (by omega)
      rw [blk2] at c2
      have f2 := HF1.out.rK.frozen (i * 11 + 2)
      have hlt' : (i : Int) < (nb : Int) := by omega
      have hm1 : (m : Int) ≤ 2147483647 := by omega
      have hm2 : -2147483648 ≤ (m : Int) := by omega
      clear hr HEs
      go_upto_region 31 with fail
      have HF2 : Hid (F3 x p q w0 v0 s.seen s.delta (fiTo p s.seen n0 fi (i + 1)) (laTo p s.seen n0 la i) m (accTo p s.seen s.delta xs0 i) (.slice vp m cap) (wr.setCell ⟨x.K, i * 11 + 2, none⟩ (.int .i32 (m : Int)))) := by
        have := HF1.out.setK (o := i * 11 + 2) (u := .int .i32 (m : Int)) (fun j => blk_first p q _ _ s.seen i (m : Int) j)
        rw [Hme.out, fiTo_step] at this
        rw [Hme.out]
        exact this
      have HM2 : Hid (Marks w0.heap.size Ds (wr.setCell ⟨x.K, i * 11 + 2, none⟩ (.int .i32 (m : Int)))) := HM1.out.keep (gb_set _ _ _ _) (fun k e => by injection e with e; subst e; exact row_cells HF1.out.rK)
      obtain ⟨W2, hW2⟩ : ∃ W2, W2 = wr.setCell ⟨x.K, i * 11 + 2, none⟩ (.int .i32 (m : Int)) := ⟨_, rfl⟩
      rw [← hW2] at HF2 HM2 ⊢
      clear hW2 HF1 HM1 c3 cC cA c2 f2
      have c9 := HF2.out.rK.cell (i := i * 11 + 9) (by omega)
      rw [blk9] at c9
      have c3 := HF2.out.B3.cell (i := 0) (by omega)
      cases hsi : s.seen i with
      | true =>
        rw [hsi] at c9
        have c11 := HF2.out.B11.cell (i := 0) (by omega)
        have HS2 : Hid (W2.rangeAt x.ST (i * 130) (stCells x.A (s.delta i))) := HF2.out.st.2 i hlt hsi
        go_upto_region 32 with fail
        iterate 11 go_step
        refine wp_load_mid 95 (.tmp 182) rfl x.ST (i * 130) rfl (stCells x.A (s.delta i)) _ HS2.out Yba.underlying95 rfl (by rw [stCells_length]; exact size95) ?_
        iterate 5 go_step
        refine wp_store_mid 95 (.tmp 20) (.tmp 183) rfl W2.heap.size 0 _ rfl rfl (by simpa [stCells_length] using there_new W2 Z 95 130 (by omega)) (by simpa [stCells_length] using size95) (stCells_one x.A (s.delta i)) ?_
        go_step
        have HM3 : Hid (Marks w0.heap.size Ds ((W2.alloc (.cells Z 95)).setCells W2.heap.size 0 (stCells x.A (s.delta i)))) :=
          (HM2.out.keep (gb_alloc W2 _ none) (fun k e => by cases e)).keep (gb_sets _ _ _ _) (fun k e => by injection e with e; subst e; exact ⟨Z, 95, (0, 0), heap_alloc_new _ _⟩)
        obtain ⟨HF3, HC3⟩ : Hid (F3 x p q w0 v0 s.seen s.delta (fiTo p s.seen n0 fi (i + 1)) (laTo p s.seen n0 la i) m (accTo p s.seen s.delta xs0 i) (.slice vp m cap) ((W2.alloc (.cells Z 95)).setCells W2.heap.size 0 (stCells x.A (s.delta i)))) ∧ Hid (Copied x W2.heap.size (s.delta i) w0 ((W2.alloc (.cells Z 95)).setCells W2.heap.size 0 (stCells x.A (s.delta i)))) := copied3 HF2.out hZs
        obtain ⟨W3, hW3⟩ : ∃ W3, W3 = (W2.alloc (.cells Z 95)).setCells W2.heap.size 0 (stCells x.A (s.delta i)) := ⟨_, rfl⟩
        rw [← hW3] at HF3 HC3 HM3 ⊢
        obtain ⟨S, hS⟩ : ∃ S, S = W2.heap.size := ⟨_, rfl⟩
        rw [← hS] at HC3 ⊢
        clear hW3 hS HF2 HM2 HS2 c11 c3 c9
        have c3 := HF3.out.B3.cell (i := 0) (by omega)
        have hbd := HG.out.bnd i hlt hsi
        have hcn := HG.out.cnt
        have HEs := HE.out
        have hold : ∀ {b t m f}, w0.rowIs b t m f → t ≠ 54 → t ≠ 70 → t ≠ 60 → W3.rowIs b t m f := fun hb h1 h2 h3 => hb.of_block (HF3.out.old HEs hb h1 h2 h3)
        obtain ⟨fI, hfI⟩ := HEs.rI
        obtain ⟨nA, fA, hfA⟩ := HEs.rA
        obtain ⟨e3, e4, e5, e6, e7, e11, eF, eK, eS⟩ := HF3.out.ne
        have hSn := HC3.out.new
        have hCl := HF3.out.Clt
        have hn5 : m ≤ 900000 := by omega
        go_wp2_with fail
        refine (steps_c x.b7 x.b4 x.b5 x.b3 x.F x.I x.O x.C x.K nb x.N i (p.st i) (p.st (i + 1)) S x.A x.base m (accTo p s.seen s.delta xs0 i) (.slice vp m cap) p.kd (s.delta i) W3 hlt (HEs.mono i hlt) (HEs.st_le (nb - (i + 1)) (i + 1) (by omega)) HEs.hN HEs.kd4 (HF3.out.env HEs hlt) (HF3.out.insts HEs) (HC3.out.stepAt (HF3.out.arch HEs)) (by omega) (by omega) HF3.out.acc hn5
          (HC3.out.row_ne HF3.out.B7 (by decide)) (HC3.out.row_ne HF3.out.B4 (by decide)) (HC3.out.row_ne HF3.out.B5 (by decide)) (HC3.out.row_ne HF3.out.B3 (by decide)) (HC3.out.row_ne HF3.out.rF (by decide)) (HC3.out.row_ne (hold HEs.rO (by decide) (by decide) (by decide)) (by decide)) (by omega) (HC3.out.row_ne HF3.out.rK (by decide)) (HC3.out.row_ne (hold hfI (by decide) (by decide) (by decide)) (by decide)) (HC3.out.row_ne (hold hfA (by decide) (by decide) (by decide)) (by decide))
          e7 e4 e5 e3 eF (row_ne HEs.rO HEs.rC (by decide)) eK (row_ne hfI HEs.rC (by decide)) (row_ne hfA HEs.rC (by decide))
          (own60_ne HF3.out.acc.own HF3.out.B7 (by decide)) (own60_ne HF3.out.acc.own HF3.out.B4 (by decide)) (own60_ne HF3.out.acc.own HF3.out.B5 (by decide)) (own60_ne HF3.out.acc.own HF3.out.B3 (by decide)) (own60_ne HF3.out.acc.own HF3.out.rF (by decide)) (own60_ne HF3.out.acc.own (hold HEs.rO (by decide) (by decide) (by decide)) (by decide)) (own60_ne HF3.out.acc.own HF3.out.rK (by decide)) (own60_ne HF3.out.acc.own (hold hfI (by decide) (by decide) (by decide)) (by decide)) (own60_ne HF3.out.acc.own (hold hfA (by decide) (by decide) (by decide)) (by decide))
          (HC3.out.own_ne HF3.out.acc.own)).mono ?_
        rintro e W5 ⟨r, rfl, hp⟩
        obtain ⟨dk, v5, ha5, hg5⟩ : ∃ dk v5, Hid (Acc W5 x.C x.base (m + accNum p.kd (p.st i) (p.st (i + 1) - p.st i)) (accTo p s.seen s.delta xs0 i ++ accFrom p.kd (p.st i) (p.st (i + 1) - p.st i) (s.delta i)) v5) ∧ Hid (Grew x.C (W3.setCell ⟨S, 1, none⟩ (.int .i64 dk)) (.slice vp m cap) W5 v5) := hp.out
        have e1 : cntTo p s.seen n0 (i + 1) = m + accNum p.kd (p.st i) (p.st (i + 1) - p.st i) := by conv => lhs; unfold cntTo; rw [hsi, ← Hme.out]; simp
        have e2 : accTo p s.seen s.delta xs0 (i + 1) = accTo p s.seen s.delta xs0 i ++ accFrom p.kd (p.st i) (p.st (i + 1) - p.st i) (s.delta i) := by conv => lhs; unfold accTo; rw [hsi]; simp
        obtain ⟨cS, hcS, _⟩ := HC3.out.blk
        have h3' := HF3.out.keep (gb_set W3 S 1 (.int .i64 dk)) (fun k e => by
          injection e with e
          subst e
          refine ⟨HC3.out.new, HC3.out.ne, fun c t fr hc => ?_⟩
          rw [hcS] at hc
          injection hc with hc
          injection hc with _ hc
          exact hc.symm)
        have HF5 : Hid (F3 x p q w0 v0 s.seen s.delta (fiTo p s.seen n0 fi (i + 1)) (laTo p s.seen n0 la i) (cntTo p s.seen n0 (i + 1)) (accTo p s.seen s.delta xs0 (i + 1)) v5 W5) := by
          rw [e1, e2]
          exact h3'.grew hg5.out ha5.out
        have HM5 : Hid (Marks w0.heap.size Ds W5) := (HM3.out.keep (gb_set W3 S 1 (.int .i64 dk)) (fun k e => by injection e with e; subst e; exact ⟨cS, _, _, hcS⟩)).grew hg5.out (cells_of_cell h3'.acc.cell) h3'.acc.own
        clear HF3 HC3 HM3 h3' ha5 hg5 hp e1 e2 c3 hcS hfI hfA hold HEs e3 e4 e5 e6 e7 e11 eF eK eS hSn hCl hn5
        have hm5 := cntTo_le HE.out s.seen (i + 1) (by omega)
        have hst5 := HE.out.st_le (nb - (i + 1)) (i + 1) (by omega)
        obtain ⟨m5, hm5e⟩ : ∃ m5, m5 = cntTo p s.seen n0 (i + 1) := ⟨_, rfl⟩
        rw [← hm5e] at HF5 hm5
        have Hm5 : Hid (m5 = cntTo p s.seen n0 (i + 1)) := hm5e
        clear hm5e
        obtain ⟨vp5, cap5, rfl⟩ := own60_form HF5.out.acc.own
        have d3 := HF5.out.B3.cell (i := 0) (by omega)
        have dA := HF5.out.acc.cell
        have d10 := HF5.out.rK.cell (i := i * 11 + 3) (by omega)
        rw [blk3] at d10
        have f10 := HF5.out.rK.frozen (i * 11 + 3)
        have hk5 : (m5 : Int) ≤ 2147483647 := by omega
        have hk5b : -2147483648 ≤ (m5 : Int) := by omega
        go_wp2_with fail
        go_roundw
        case rel =>
          refine ⟨i + 1, .slice vp5 m5 cap5, by simp, by omega, ?_, HM5.out.keep (gb_set _ _ _ _) (fun k e => by injection e with e; subst e; exact row_cells HF5.out.rK)⟩
          have := HF5.out.setK (o := i * 11 + 3) (u := .int .i32 (m5 : Int)) (fun j => blk_last p q _ _ s.seen i (m5 : Int) j)
          rw [Hm5.out, laTo_step] at this
          rw [Hm5.out]
          exact this
        case measure => simp [intOf]; omega
      | false =>
        rw [hsi] at c9
        obtain ⟨W5, hW5⟩ : ∃ W5, W5 = W2 := ⟨_, rfl⟩
        obtain ⟨v5, hv5⟩ : ∃ v5, v5 = Value.slice vp m cap := ⟨_, rfl⟩
        have e1 : cntTo p s.seen n0 (i + 1) = m := by unfold cntTo; rw [hsi, Hme.out]; rfl
        have e2 : accTo p s.seen s.delta xs0 (i + 1) = accTo p s.seen s.delta xs0 i := by conv => lhs; unfold accTo; rw [hsi]; simp
        have HF5 : Hid (F3 x p q w0 v0 s.seen s.delta (fiTo p s.seen n0 fi (i + 1)) (laTo p s.seen n0 la i) (cntTo p s.seen n0 (i + 1)) (accTo p s.seen s.delta xs0 (i + 1)) v5 W5) := by
          rw [e1, e2, hW5, hv5]
          exact HF2
        have HM5 : Hid (Marks w0.heap.size Ds W5) := by rw [hW5]; exact HM2
        rw [← hW5] at c9 c3 ⊢
        clear HF2 HM2 e1 e2 hW5 hv5
        have hm5 := cntTo_le HE.out s.seen (i + 1) (by omega)
        have hst5 := HE.out.st_le (nb - (i + 1)) (i + 1) (by omega)
        obtain ⟨m5, hm5e⟩ : ∃ m5, m5 = cntTo p s.seen n0 (i + 1) := ⟨_, rfl⟩
        rw [← hm5e] at HF5 hm5
        have Hm5 : Hid (m5 = cntTo p s.seen n0 (i + 1)) := hm5e
        clear hm5e
        obtain ⟨vp5, cap5, rfl⟩ := own60_form HF5.out.acc.own
        have d3 := HF5.out.B3.cell (i := 0) (by omega)
        have dA := HF5.out.acc.cell
        have d10 := HF5.out.rK.cell (i := i * 11 + 3) (by omega)
        rw [blk3] at d10
        have f10 := HF5.out.rK.frozen (i * 11 + 3)
        have hk5 : (m5 : Int) ≤ 2147483647 := by omega
        have hk5b : -2147483648 ≤ (m5 : Int) := by omega
        go_wp2_with fail
        go_roundw
        case rel =>
          refine ⟨i + 1, .slice vp5 m5 cap5, by simp, by omega, ?_, HM5.out.keep (gb_set _ _ _ _) (fun k e => by injection e with e; subst e; exact row_cells HF5.out.rK)⟩
          have := HF5.out.setK (o := i * 11 + 3) (u := .int .i32 (m5 : Int)) (fun j => blk_last p q _ _ s.seen i (m5 : Int) j)
          rw [Hm5.out, laTo_step] at this
          rw [Hm5.out]
          exact this
        case measure => simp [intOf]; omega
    · obtain rfl : i = nb := by omega
      have hlt' : ¬ (i : Int) < (i : Int) := by omega
      go_wp2_with fail
      exact HX.out _ _ _ _ _ _ _ _ _ _ _ _ _ _ _ _ _ _ _ _ _ _ _ _ _ _ _ _ _ _ _ _ _ _ _ _ _ _ _ _ _ _ _ _ v wr hr.out.1 hr.out.2

end
end Go.Proofs.Ybulkfqak
