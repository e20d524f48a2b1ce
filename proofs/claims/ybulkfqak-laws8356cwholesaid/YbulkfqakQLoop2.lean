import Derived.Test.YbulkfqakQRange
namespace Go.Proofs.Ybulkfqak
open Go.RowKit Go.Shelf
attribute [-simp] Yba.isAgg95
attribute [local go_sem] Oper.semAt_some
section
variable {x : Cx} {nb : Nat} {p : Prg nb} {q : Nat → Option Addr} {fi la : Nat → Int} {w0 : World} {v0 : Value} {n0 : Nat} {xs0 : List Value}
set_option maxRecDepth 1000000 in
set_option maxHeartbeats 4000000 in
theorem round2_go (he : Ent x p q fi la v0 n0 xs0 w0) (c0 c1 c2 c4 c5 c7 c8 c9 c18 c19 c20 c21 c22 c23 c24 c25 c26 c27 c28 c29 c30 c31 c32 c33 c34 c35 c36 c37 c38 c39 c40 c41 c42 c43 c44 c45 c46 c47 c48 c49 c50 c51 c52 c53 c54 c55 c56 c57 c58 c59 c60 c61 c62 c63 c64 c65 c66 c67 c68 c153 c154 c155 c156 c157 c158 c159 c160 c161 c162 c163 c164 c165 c166 c167 c168 c169 c170 c171 c172 c173 c174 c175 c176 c177 c178 c179 c180 c181 c182 c183 c184 c185 c186 c187 c188 c189 c190 c191 c192 c193 c194 c195 c196 c197 c198 : Value) (u13 u14 u15 u16 u17 u69 u70 u71 u72 u73 u74 u75 u76 u77 u78 u79 u80 u81 u82 u83 u84 u85 u86 u87 u88 u89 u90 u91 u92 u93 u94 u95 u96 u97 u98 u99 u100 u101 u102 u103 u104 u105 u106 u107 u108 u109 u110 u111 u112 u113 u114 u115 u116 u117 u118 u119 u120 u121 u122 u123 u124 u125 u126 u127 u128 u129 u130 u131 u132 u133 u134 u135 u136 u137 u138 u139 u140 u141 u142 u143 u144 u145 u146 u147 u148 u149 u150 u151 u152 : Value) (Ds : List Nat) (s : St) (t : Nat) (l : List Nat) (i : Nat) (W : World) (hF : FAll x p q fi la w0 s.stack s.seen s.seen s.delta W) (hg : Good nb s t) (hM : Marks w0.heap.size Ds W) (hs : s.stack = l ++ [i])
    (K : Act → World → Prop) (Q0 : Exit → Act → World → Prop) (hK : ∀ (v13 v14 v15 v16 v17 v69 v70 v71 v72 v73 v74 v75 v76 v77 v78 v79 v80 v81 v82 v83 v84 v85 v86 v87 v88 v89 v90 v91 v92 v93 v94 v95 v96 v97 v98 v99 v100 v101 v102 v103 v104 v105 v106 v107 v108 v109 v110 v111 v112 v113 v114 v115 v116 v117 v118 v119 v120 v121 v122 v123 v124 v125 v126 v127 v128 v129 v130 v131 v132 v133 v134 v135 v136 v137 v138 v139 v140 v141 v142 v143 v144 v145 v146 v147 v148 v149 v150 v151 v152 : Value) (Ds' : List Nat) (s' : St) (W' : World), p.step { s with stack := l } i = (s', true) → FS x p q fi la w0 s' W' → Good nb s' (t + 1) → Marks w0.heap.size Ds' W' → K ⟨#[c0, c1, c2, .pointer (some ⟨x.b3, 0, none⟩), c4, c5, .pointer (some ⟨x.b6, 0, none⟩), c7, c8, c9, .func (.func 15) #[] #[.pointer (some ⟨x.b7, 0, none⟩), .pointer (some ⟨x.b4, 0, none⟩), .pointer (some ⟨x.b5, 0, none⟩), .pointer (some ⟨x.b3, 0, none⟩)], .pointer (some ⟨x.b11, 0, none⟩), .pointer (some ⟨x.b12, 0, none⟩), v13, v14, v15, v16, v17, c18, c19, c20, c21, c22, c23, c24, c25, c26, c27, c28, c29, c30, c31, c32, c33, c34, c35, c36, c37, c38, c39, c40, c41, c42, c43, c44, c45, c46, c47, c48, c49, c50, c51, c52, c53, c54, c55, c56, c57, c58, c59, c60, c61, c62, c63, c64, c65, c66, c67, c68, v69, v70, v71, v72, v73, v74, v75, v76, v77, v78, v79, v80, v81, v82, v83, v84, v85, v86, v87, v88, v89, v90, v91, v92, v93, v94, v95, v96, v97, v98, v99, v100, v101, v102, v103, v104, v105, v106, v107, v108, v109, v110, v111, v112, v113, v114, v115, v116, v117, v118, v119, v120, v121, v122, v123, v124, v125, v126, v127, v128, v129, v130, v131, v132, v133, v134, v135, v136, v137, v138, v139, v140, v141, v142, v143, v144, v145, v146, v147, v148, v149, v150, v151, v152, c153, c154, c155, c156, c157, c158, c159, c160, c161, c162, c163, c164, c165, c166, c167, c168, c169, c170, c171, c172, c173, c174, c175, c176, c177, c178, c179, c180, c181, c182, c183, c184, c185, c186, c187, c188, c189, c190, c191, c192, c193, c194, c195, c196, c197, c198], Ds'.map mk⟩ W') (hret : ∀ a' W', RetAt x p q fi la w0 s a' W' → Q0 .ret a' W') :
    Code.wp Yba.prog (lp11 1) (Exit.then K Q0) ⟨#[c0, c1, c2, .pointer (some ⟨x.b3, 0, none⟩), c4, c5, .pointer (some ⟨x.b6, 0, none⟩), c7, c8, c9, .func (.func 15) #[] #[.pointer (some ⟨x.b7, 0, none⟩), .pointer (some ⟨x.b4, 0, none⟩), .pointer (some ⟨x.b5, 0, none⟩), .pointer (some ⟨x.b3, 0, none⟩)], .pointer (some ⟨x.b11, 0, none⟩), .pointer (some ⟨x.b12, 0, none⟩), u13, u14, u15, u16, u17, c18, c19, c20, c21, c22, c23, c24, c25, c26, c27, c28, c29, c30, c31, c32, c33, c34, c35, c36, c37, c38, c39, c40, c41, c42, c43, c44, c45, c46, c47, c48, c49, c50, c51, c52, c53, c54, c55, c56, c57, c58, c59, c60, c61, c62, c63, c64, c65, c66, c67, c68, u69, u70, u71, u72, u73, u74, u75, u76, u77, u78, u79, u80, u81, u82, u83, u84, u85, u86, u87, u88, u89, u90, u91, u92, u93, u94, u95, u96, u97, u98, u99, u100, u101, u102, u103, u104, u105, u106, u107, u108, u109, u110, u111, u112, u113, u114, u115, u116, u117, u118, u119, u120, u121, u122, u123, u124, u125, u126, u127, u128, u129, u130, u131, u132, u133, u134, u135, u136, u137, u138, u139, u140, u141, u142, u143, u144, u145, u146, u147, u148, u149, u150, u151, u152, c153, c154, c155, c156, c157, c158, c159, c160, c161, c162, c163, c164, c165, c166, c167, c168, c169, c170, c171, c172, c173, c174, c175, c176, c177, c178, c179, c180, c181, c182, c183, c184, c185, c186, c187, c188, c189, c190, c191, c192, c193, c194, c195, c196, c197, c198], Ds.map mk⟩ W := by
  conv => arg 2; whnf
  obtain ⟨Z, hZs, hz⟩ := zero95
  obtain ⟨hi, hsi⟩ := hg.stk i (by rw [hs]; simp)
  obtain ⟨g, cap, h12, ho⟩ := hF.wk
  have hoo := ho
  rw [hs] at h12 ho
  have e1 : (l ++ [i]).length = l.length + 1 := by simp
  rw [e1] at h12 ho
  obtain ⟨hgl, cg, hcg, hcs, hcn, hcm, hct⟩ := own21_at ho
  have hll : l.length < 65536 := by have h1 := hg.cnt; have h2 := he.hnb; rw [hs] at h1; simp at h1; omega
  have cW := h12.cell (i := 0) (by omega)
  have fW := h12.frozen 0
  have cI : W.cell? ⟨g, l.length, none⟩ = some (.int .i32 (i : Int)) := by
    have e2 : cg.toList[l.length]? = (encS (l ++ [i]))[l.length]? := by rw [← hct, List.getElem?_take_of_lt (by omega)]
    simp only [World.cell?, hcg]
    simp at e2
    simp [e2, encS]
  have HM1 : Hid (Marks w0.heap.size Ds (W.setCell ⟨x.b12, 0, none⟩ (.slice (some ⟨g, 0, none⟩) l.length cap))) := hM.keep (gb_set _ _ _ _) (fun k e => by injection e with e; subst e; exact row_cells h12)
  have HF1 : Hid (FAll x p q fi la w0 l s.seen s.seen s.delta (W.setCell ⟨x.b12, 0, none⟩ (.slice (some ⟨g, 0, none⟩) l.length cap))) := hF.setWork hoo (gb_refl W _) (own_pop ho)
  obtain ⟨m, hm⟩ : ∃ m, l.length = m := ⟨_, rfl⟩
  rw [hm] at cW cI hll HF1 HM1
  have hii : (i : Int) < (nb : Int) := by omega
  have Hm : Hid (l.length = m) := hm
  have hmc : m + 1 ≤ cap := by omega
  clear hm hcn hcg hct hoo ho h12 hgl hcs e1
  go_upto_region 15 with fail
  obtain ⟨W1, hW1⟩ : ∃ W1, W1 = W.setCell ⟨x.b12, 0, none⟩ (.slice (some ⟨g, 0, none⟩) m cap) := ⟨_, rfl⟩
  rw [← hW1] at HF1 HM1 ⊢
  clear hW1 cW fW cI hcm
  have c11 := HF1.out.B11.cell (i := 0) (by omega)
  have HS1 : Hid (W1.rangeAt x.ST (i * 130) (stCells x.A (s.delta i))) := HF1.out.st.2 i hi hsi
  iterate 11 go_step
  refine wp_load_mid 95 (.tmp 85) rfl x.ST (i * 130) rfl (stCells x.A (s.delta i)) _ HS1.out Yba.underlying95 rfl (by rw [stCells_length]; exact size95) ?_
  iterate 5 go_step
  refine wp_store_mid 95 (.tmp 14) (.tmp 86) rfl W1.heap.size 0 _ rfl rfl (by simpa [stCells_length] using there_new W1 Z 95 130 (by omega)) (by simpa [stCells_length] using size95) (stCells_one x.A (s.delta i)) ?_
  go_step
  have HM2 : Hid (Marks w0.heap.size Ds ((W1.alloc (.cells Z 95)).setCells W1.heap.size 0 (stCells x.A (s.delta i)))) :=
    (HM1.out.keep (gb_alloc W1 _ none) (fun k e => by cases e)).keep (gb_sets _ _ _ _) (fun k e => by injection e with e; subst e; exact ⟨Z, 95, (0, 0), heap_alloc_new _ _⟩)
  obtain ⟨HF2, HC2⟩ : Hid (FAll x p q fi la w0 l s.seen s.seen s.delta ((W1.alloc (.cells Z 95)).setCells W1.heap.size 0 (stCells x.A (s.delta i)))) ∧ Hid (Copied x W1.heap.size (s.delta i) w0 ((W1.alloc (.cells Z 95)).setCells W1.heap.size 0 (stCells x.A (s.delta i)))) := copied HF1.out hZs
  obtain ⟨W2, hW2⟩ : ∃ W2, W2 = (W1.alloc (.cells Z 95)).setCells W1.heap.size 0 (stCells x.A (s.delta i)) := ⟨_, rfl⟩
  rw [← hW2] at HF2 HC2 HM2 ⊢
  obtain ⟨S, hS⟩ : ∃ S, S = W1.heap.size := ⟨_, rfl⟩
  rw [← hS] at HC2 ⊢
  clear hW2 hS HF1 HM1 HS1 c11 hz hZs
  have c3 := HF2.out.B3.cell (i := 0) (by omega)
  have cC := (HF2.out.old he he.rC (by decide)).cell (i := 2) (by omega)
  simp only [codeF] at cC
  have cK7 := HF2.out.rK.cell (i := i * 11 + 7) (by omega)
  rw [blk7] at cK7
  cases hind : p.ind i with
  | true =>
    rw [hind] at cK7
    obtain ⟨f6, h6⟩ := HF2.out.B6
    have c6 := h6.cell (i := 0) (by omega)
    have r6 := h6.frozen 0
    go_wp2_with fail
    exact ⟨{ s with stack := l }, Ds, HF2.out.set6.1, HF2.out.set6.2, HM2.out.keep (gb_set _ _ _ _) (fun k e => by injection e with e; subst e; exact row_cells h6), Done.bad s l i _ hs (by simp [Prg.step, hind]), rfl, rfl⟩
  | false =>
    rw [hind] at cK7
    have hbd := (hg.pop hs).bnd i hi hsi
    have hcnt := (hg.pop hs).cnt
    simp only at hbd hcnt
    have hnb' := he.hnb
    go_wp2_with fail
    refine (steps_d x.b7 x.b4 x.b5 x.b3 x.F x.I x.O x.C x.K nb x.N i (p.st i) (p.st (i + 1)) S x.A p.kd (s.delta i) W2 hi (he.mono i hi) (he.st_le (nb - (i + 1)) (i + 1) (by omega)) he.hN he.kd4 (HF2.out.env he hi) (HF2.out.insts he) (HC2.out.stepAt (HF2.out.arch he)) (by omega) (by omega)
      (HC2.out.row_ne HF2.out.B7 (by decide)) (HC2.out.row_ne HF2.out.B4 (by decide)) (HC2.out.row_ne HF2.out.B5 (by decide)) (HC2.out.row_ne HF2.out.B3 (by decide)) (HC2.out.row_ne HF2.out.rF (by decide)) (HC2.out.row_ne (HF2.out.old he he.rO (by decide)) (by decide)) (HC2.out.row_ne (HF2.out.old he he.rC (by decide)) (by decide)) (HC2.out.row_ne HF2.out.rK (by decide))
      (by obtain ⟨f, hf⟩ := he.rI; exact HC2.out.row_ne (HF2.out.old he hf (by decide)) (by decide)) (by obtain ⟨n, f, hf⟩ := he.rA; exact HC2.out.row_ne (HF2.out.old he hf (by decide)) (by decide))).mono ?_
    rintro e W3 ⟨rfl, dk, hb3, hdk⟩
    obtain ⟨HF3, HC3⟩ : Hid (FAll x p q fi la w0 l s.seen s.seen s.delta W3) ∧ Hid (Copied x S dk w0 W3) := HC2.out.stepped HF2.out hb3
    have HM3 : Hid (Marks w0.heap.size Ds W3) := by
      obtain ⟨c, hc, _⟩ := HC2.out.blk
      exact HM2.out.keep (gb_trans (gb_set W2 S 1 _) (gb_below (by simpa using hb3) _)) (fun k e => by injection e with e; subst e; exact ⟨c, _, _, hc⟩)
    clear hb3 HM2 HF2 HC2 c3 cC cK7
    obtain ⟨R, hR⟩ : ∃ R, R = p.run i (s.delta i) := ⟨_, rfl⟩
    have hRr : runFrom p.kd (p.st i) (p.st (i + 1) - p.st i) (s.delta i) = R := hR.symm
    rw [hRr] at hdk ⊢
    have HR : Hid (p.run i (s.delta i) = R) := hR.symm
    clear hR hRr
    obtain ⟨d, fine⟩ := R
    simp only at hdk
    have c3 := HF3.out.B3.cell (i := 0) (by omega)
    have cC := (HF3.out.old he he.rC (by decide)).cell (i := 2) (by omega)
    simp only [codeF] at cC
    cases fine with
    | false =>
      obtain ⟨f6, h6⟩ := HF3.out.B6
      have c6 := h6.cell (i := 0) (by omega)
      have r6 := h6.frozen 0
      go_wp2_with fail
      exact ⟨{ s with stack := l }, Ds, HF3.out.set6.1, HF3.out.set6.2, HM3.out.keep (gb_set _ _ _ _) (fun k e => by injection e with e; subst e; exact row_cells h6), Done.bad s l i _ hs (by have := HR.out; simp [Prg.step, hind, this]), rfl, rfl⟩
    | true =>
      obtain rfl : dk = d := hdk rfl
      go_wp2_with fail
      refine (succs_any ⟨x.K, i * 11, none⟩ W3).mono ?_
      rintro e W4 ⟨rfl, rfl⟩
      go_wp2_with fail
      have hb0 := hg.bnd i hi hsi
      have hrb := runFrom_bound p.kd (p.st (i + 1) - p.st i) (p.st i) (s.delta i)
      have hRR : runFrom p.kd (p.st i) (p.st (i + 1) - p.st i) (s.delta i) = (dk, true) := HR.out
      rw [hRR] at hrb
      have hse := he.st_le (nb - (i + 1)) (i + 1) (by omega)
      have hsN := he.hN
      have hstep : p.step { s with stack := l } i = visit dk { s with stack := l } (p.succ i) := by
        have := HR.out
        simp [Prg.step, hind, this]
      have HM4 : Marks w0.heap.size Ds (W3.alloc (.cells #[.pointer (some ⟨x.K, i * 11, none⟩)] 76)) := HM3.out.keep (gb_alloc W3 _ none) (fun k e => by cases e)
      have hgo := hg.pop hs
      have hd1 : -(524288 * ((t + 1 : Nat) : Int)) ≤ dk := by simp only at hrb; omega
      have hd2 : dk ≤ 524288 * ((t + 1 : Nat) : Int) := by simp only at hrb; omega
      refine range2 he _ _ _ _ _ _ _ _ _ _ _ _ _ _ _ _ _ _ _ _ _ _ _ _ _ _ _ _ _ _ _ _ _ _ _ _ _ _ _ _ _ _ _ _ _ _ _ _ _ _ _ _ _ _ _ _ _ _ _ _ _ _ _ _ _ _ _ _ _ _ _ _ _ _ _ _ _ _ _ _ _ _ _ _ _ _ _ _ _ _ _ _ _ _ _ _ _ _ _ _ _ _ _ _ _ _ _ _ _ _ _ _ _ _ _ _ _ _ _ _ _ _ _ _ _ _ _ _ _ _ _ _ _ _ _ _ _ _ _ _ _ _ _ _ _ _ _ _ _ _ _ _ _ _ _ _ _ _ _ _ _ _ _ _ _ _ _ _ _ _ _ _ _ _ _ _ _ _ _ _ _ _ _ _ _ _ _ _ _ _ _ _ _ Ds { s with stack := l } (t + 1) S W3.heap.size i dk _ hi (HF3.out.keep (gb_alloc W3 _ none) (fun k e => by cases e)) (HC3.out.keep ((gb_alloc W3 _ none).block S HC3.out.lt (by simp))) HM4
        ⟨_, heap_alloc_new _ _, rfl, fun j hj => by obtain rfl : j = 0 := (by omega); rfl⟩ hgo hd1 hd2 _ ?_ ?_
      · intro D W' hv hF' hM'
        exact hK _ _ _ _ _ _ _ _ _ _ _ _ _ _ _ _ _ _ _ _ _ _ _ _ _ _ _ _ _ _ _ _ _ _ _ _ _ _ _ _ _ _ _ _ _ _ _ _ _ _ _ _ _ _ _ _ _ _ _ _ _ _ _ _ _ _ _ _ _ _ _ _ _ _ _ _ _ _ _ _ _ _ _ _ _ _ _ _ _ (D :: Ds) (visit dk { s with stack := l } (p.succ i)).1 W' (by rw [hstep, ← hv]) hF' (Good.visit hd1 hd2 _ _ hgo) hM'
      · intro D W' hv hF' h6 hM'
        exact hret _ _ ⟨_, D :: Ds, hF', h6, hM', Done.bad s l i _ hs (by rw [hstep, ← hv]), rfl, rfl⟩


set_option maxRecDepth 1000000 in
set_option maxHeartbeats 4000000 in
theorem round2_end (c0 c1 c2 c4 c5 c7 c8 c9 c18 c19 c20 c21 c22 c23 c24 c25 c26 c27 c28 c29 c30 c31 c32 c33 c34 c35 c36 c37 c38 c39 c40 c41 c42 c43 c44 c45 c46 c47 c48 c49 c50 c51 c52 c53 c54 c55 c56 c57 c58 c59 c60 c61 c62 c63 c64 c65 c66 c67 c68 c153 c154 c155 c156 c157 c158 c159 c160 c161 c162 c163 c164 c165 c166 c167 c168 c169 c170 c171 c172 c173 c174 c175 c176 c177 c178 c179 c180 c181 c182 c183 c184 c185 c186 c187 c188 c189 c190 c191 c192 c193 c194 c195 c196 c197 c198 : Value) (u13 u14 u15 u16 u17 u69 u70 u71 u72 u73 u74 u75 u76 u77 u78 u79 u80 u81 u82 u83 u84 u85 u86 u87 u88 u89 u90 u91 u92 u93 u94 u95 u96 u97 u98 u99 u100 u101 u102 u103 u104 u105 u106 u107 u108 u109 u110 u111 u112 u113 u114 u115 u116 u117 u118 u119 u120 u121 u122 u123 u124 u125 u126 u127 u128 u129 u130 u131 u132 u133 u134 u135 u136 u137 u138 u139 u140 u141 u142 u143 u144 u145 u146 u147 u148 u149 u150 u151 u152 : Value) (Ds : List Nat) (s : St) (W : World) (hF : FS x p q fi la w0 s W) (hs : s.stack = []) (K : Act → World → Prop) (Q0 : Exit → Act → World → Prop)
    (hexit : ∀ (v13 v14 v15 v16 v17 v69 v70 v71 v72 v73 v74 v75 v76 v77 v78 v79 v80 v81 v82 v83 v84 v85 v86 v87 v88 v89 v90 v91 v92 v93 v94 v95 v96 v97 v98 v99 v100 v101 v102 v103 v104 v105 v106 v107 v108 v109 v110 v111 v112 v113 v114 v115 v116 v117 v118 v119 v120 v121 v122 v123 v124 v125 v126 v127 v128 v129 v130 v131 v132 v133 v134 v135 v136 v137 v138 v139 v140 v141 v142 v143 v144 v145 v146 v147 v148 v149 v150 v151 v152 : Value), Q0 (.exit 2) ⟨#[c0, c1, c2, .pointer (some ⟨x.b3, 0, none⟩), c4, c5, .pointer (some ⟨x.b6, 0, none⟩), c7, c8, c9, .func (.func 15) #[] #[.pointer (some ⟨x.b7, 0, none⟩), .pointer (some ⟨x.b4, 0, none⟩), .pointer (some ⟨x.b5, 0, none⟩), .pointer (some ⟨x.b3, 0, none⟩)], .pointer (some ⟨x.b11, 0, none⟩), .pointer (some ⟨x.b12, 0, none⟩), v13, v14, v15, v16, v17, c18, c19, c20, c21, c22, c23, c24, c25, c26, c27, c28, c29, c30, c31, c32, c33, c34, c35, c36, c37, c38, c39, c40, c41, c42, c43, c44, c45, c46, c47, c48, c49, c50, c51, c52, c53, c54, c55, c56, c57, c58, c59, c60, c61, c62, c63, c64, c65, c66, c67, c68, v69, v70, v71, v72, v73, v74, v75, v76, v77, v78, v79, v80, v81, v82, v83, v84, v85, v86, v87, v88, v89, v90, v91, v92, v93, v94, v95, v96, v97, v98, v99, v100, v101, v102, v103, v104, v105, v106, v107, v108, v109, v110, v111, v112, v113, v114, v115, v116, v117, v118, v119, v120, v121, v122, v123, v124, v125, v126, v127, v128, v129, v130, v131, v132, v133, v134, v135, v136, v137, v138, v139, v140, v141, v142, v143, v144, v145, v146, v147, v148, v149, v150, v151, v152, c153, c154, c155, c156, c157, c158, c159, c160, c161, c162, c163, c164, c165, c166, c167, c168, c169, c170, c171, c172, c173, c174, c175, c176, c177, c178, c179, c180, c181, c182, c183, c184, c185, c186, c187, c188, c189, c190, c191, c192, c193, c194, c195, c196, c197, c198], Ds.map mk⟩ W) :
    Code.wp Yba.prog (lp11 1) (Exit.then K Q0) ⟨#[c0, c1, c2, .pointer (some ⟨x.b3, 0, none⟩), c4, c5, .pointer (some ⟨x.b6, 0, none⟩), c7, c8, c9, .func (.func 15) #[] #[.pointer (some ⟨x.b7, 0, none⟩), .pointer (some ⟨x.b4, 0, none⟩), .pointer (some ⟨x.b5, 0, none⟩), .pointer (some ⟨x.b3, 0, none⟩)], .pointer (some ⟨x.b11, 0, none⟩), .pointer (some ⟨x.b12, 0, none⟩), u13, u14, u15, u16, u17, c18, c19, c20, c21, c22, c23, c24, c25, c26, c27, c28, c29, c30, c31, c32, c33, c34, c35, c36, c37, c38, c39, c40, c41, c42, c43, c44, c45, c46, c47, c48, c49, c50, c51, c52, c53, c54, c55, c56, c57, c58, c59, c60, c61, c62, c63, c64, c65, c66, c67, c68, u69, u70, u71, u72, u73, u74, u75, u76, u77, u78, u79, u80, u81, u82, u83, u84, u85, u86, u87, u88, u89, u90, u91, u92, u93, u94, u95, u96, u97, u98, u99, u100, u101, u102, u103, u104, u105, u106, u107, u108, u109, u110, u111, u112, u113, u114, u115, u116, u117, u118, u119, u120, u121, u122, u123, u124, u125, u126, u127, u128, u129, u130, u131, u132, u133, u134, u135, u136, u137, u138, u139, u140, u141, u142, u143, u144, u145, u146, u147, u148, u149, u150, u151, u152, c153, c154, c155, c156, c157, c158, c159, c160, c161, c162, c163, c164, c165, c166, c167, c168, c169, c170, c171, c172, c173, c174, c175, c176, c177, c178, c179, c180, c181, c182, c183, c184, c185, c186, c187, c188, c189, c190, c191, c192, c193, c194, c195, c196, c197, c198], Ds.map mk⟩ W := by
  conv => arg 2; whnf
  obtain ⟨g, cap, h12, ho⟩ := hF.wk
  rw [hs] at h12
  have cW := h12.cell (i := 0) (by omega)
  simp only [List.length_nil] at cW
  clear h12 ho
  go_wp2_with fail
  exact hexit _ _ _ _ _ _ _ _ _ _ _ _ _ _ _ _ _ _ _ _ _ _ _ _ _ _ _ _ _ _ _ _ _ _ _ _ _ _ _ _ _ _ _ _ _ _ _ _ _ _ _ _ _ _ _ _ _ _ _ _ _ _ _ _ _ _ _ _ _ _ _ _ _ _ _ _ _ _ _ _ _ _ _ _ _ _ _ _ _

set_option maxRecDepth 1000000 in
def WI2 (x : Cx) {nb : Nat} (p : Prg nb) (q : Nat → Option Addr) (fi la : Nat → Int) (w0 : World) (s : St) (c0 c1 c2 c4 c5 c7 c8 c9 c18 c19 c20 c21 c22 c23 c24 c25 c26 c27 c28 c29 c30 c31 c32 c33 c34 c35 c36 c37 c38 c39 c40 c41 c42 c43 c44 c45 c46 c47 c48 c49 c50 c51 c52 c53 c54 c55 c56 c57 c58 c59 c60 c61 c62 c63 c64 c65 c66 c67 c68 c153 c154 c155 c156 c157 c158 c159 c160 c161 c162 c163 c164 c165 c166 c167 c168 c169 c170 c171 c172 c173 c174 c175 c176 c177 c178 c179 c180 c181 c182 c183 c184 c185 c186 c187 c188 c189 c190 c191 c192 c193 c194 c195 c196 c197 c198 : Value) (k : Nat) (a' : Act) (W' : World) : Prop :=
  ∃ u13 u14 u15 u16 u17 u69 u70 u71 u72 u73 u74 u75 u76 u77 u78 u79 u80 u81 u82 u83 u84 u85 u86 u87 u88 u89 u90 u91 u92 u93 u94 u95 u96 u97 u98 u99 u100 u101 u102 u103 u104 u105 u106 u107 u108 u109 u110 u111 u112 u113 u114 u115 u116 u117 u118 u119 u120 u121 u122 u123 u124 u125 u126 u127 u128 u129 u130 u131 u132 u133 u134 u135 u136 u137 u138 u139 u140 u141 u142 u143 u144 u145 u146 u147 u148 u149 u150 u151 u152 : Value, ∃ (Ds' : List Nat) (s' : St) (t' : Nat), (k + t' = nb ∧ FS x p q fi la w0 s' W' ∧ Good nb s' t' ∧ Marks w0.heap.size Ds' W' ∧ ∀ r b, Done p s' r b → Done p s r b) ∧ a' = ⟨#[c0, c1, c2, .pointer (some ⟨x.b3, 0, none⟩), c4, c5, .pointer (some ⟨x.b6, 0, none⟩), c7, c8, c9, .func (.func 15) #[] #[.pointer (some ⟨x.b7, 0, none⟩), .pointer (some ⟨x.b4, 0, none⟩), .pointer (some ⟨x.b5, 0, none⟩), .pointer (some ⟨x.b3, 0, none⟩)], .pointer (some ⟨x.b11, 0, none⟩), .pointer (some ⟨x.b12, 0, none⟩), u13, u14, u15, u16, u17, c18, c19, c20, c21, c22, c23, c24, c25, c26, c27, c28, c29, c30, c31, c32, c33, c34, c35, c36, c37, c38, c39, c40, c41, c42, c43, c44, c45, c46, c47, c48, c49, c50, c51, c52, c53, c54, c55, c56, c57, c58, c59, c60, c61, c62, c63, c64, c65, c66, c67, c68, u69, u70, u71, u72, u73, u74, u75, u76, u77, u78, u79, u80, u81, u82, u83, u84, u85, u86, u87, u88, u89, u90, u91, u92, u93, u94, u95, u96, u97, u98, u99, u100, u101, u102, u103, u104, u105, u106, u107, u108, u109, u110, u111, u112, u113, u114, u115, u116, u117, u118, u119, u120, u121, u122, u123, u124, u125, u126, u127, u128, u129, u130, u131, u132, u133, u134, u135, u136, u137, u138, u139, u140, u141, u142, u143, u144, u145, u146, u147, u148, u149, u150, u151, u152, c153, c154, c155, c156, c157, c158, c159, c160, c161, c162, c163, c164, c165, c166, c167, c168, c169, c170, c171, c172, c173, c174, c175, c176, c177, c178, c179, c180, c181, c182, c183, c184, c185, c186, c187, c188, c189, c190, c191, c192, c193, c194, c195, c196, c197, c198], Ds'.map mk⟩

set_option maxRecDepth 1000000 in
set_option maxHeartbeats 4000000 in
theorem loop2 (he : Ent x p q fi la v0 n0 xs0 w0) (c0 c1 c2 c4 c5 c7 c8 c9 c18 c19 c20 c21 c22 c23 c24 c25 c26 c27 c28 c29 c30 c31 c32 c33 c34 c35 c36 c37 c38 c39 c40 c41 c42 c43 c44 c45 c46 c47 c48 c49 c50 c51 c52 c53 c54 c55 c56 c57 c58 c59 c60 c61 c62 c63 c64 c65 c66 c67 c68 c153 c154 c155 c156 c157 c158 c159 c160 c161 c162 c163 c164 c165 c166 c167 c168 c169 c170 c171 c172 c173 c174 c175 c176 c177 c178 c179 c180 c181 c182 c183 c184 c185 c186 c187 c188 c189 c190 c191 c192 c193 c194 c195 c196 c197 c198 : Value) (u13 u14 u15 u16 u17 u69 u70 u71 u72 u73 u74 u75 u76 u77 u78 u79 u80 u81 u82 u83 u84 u85 u86 u87 u88 u89 u90 u91 u92 u93 u94 u95 u96 u97 u98 u99 u100 u101 u102 u103 u104 u105 u106 u107 u108 u109 u110 u111 u112 u113 u114 u115 u116 u117 u118 u119 u120 u121 u122 u123 u124 u125 u126 u127 u128 u129 u130 u131 u132 u133 u134 u135 u136 u137 u138 u139 u140 u141 u142 u143 u144 u145 u146 u147 u148 u149 u150 u151 u152 : Value) (Ds : List Nat) (s : St) (t : Nat) (W : World) (hF : FS x p q fi la w0 s W) (hg : Good nb s t) (hM : Marks w0.heap.size Ds W) (Q0 : Exit → Act → World → Prop)
    (hexit : ∀ (v13 v14 v15 v16 v17 v69 v70 v71 v72 v73 v74 v75 v76 v77 v78 v79 v80 v81 v82 v83 v84 v85 v86 v87 v88 v89 v90 v91 v92 v93 v94 v95 v96 v97 v98 v99 v100 v101 v102 v103 v104 v105 v106 v107 v108 v109 v110 v111 v112 v113 v114 v115 v116 v117 v118 v119 v120 v121 v122 v123 v124 v125 v126 v127 v128 v129 v130 v131 v132 v133 v134 v135 v136 v137 v138 v139 v140 v141 v142 v143 v144 v145 v146 v147 v148 v149 v150 v151 v152 : Value) (Ds' : List Nat) (s' : St) (t' : Nat) (W' : World), FS x p q fi la w0 s' W' → Good nb s' t' → Marks w0.heap.size Ds' W' → Done p s s' true → Q0 (.exit 2) ⟨#[c0, c1, c2, .pointer (some ⟨x.b3, 0, none⟩), c4, c5, .pointer (some ⟨x.b6, 0, none⟩), c7, c8, c9, .func (.func 15) #[] #[.pointer (some ⟨x.b7, 0, none⟩), .pointer (some ⟨x.b4, 0, none⟩), .pointer (some ⟨x.b5, 0, none⟩), .pointer (some ⟨x.b3, 0, none⟩)], .pointer (some ⟨x.b11, 0, none⟩), .pointer (some ⟨x.b12, 0, none⟩), v13, v14, v15, v16, v17, c18, c19, c20, c21, c22, c23, c24, c25, c26, c27, c28, c29, c30, c31, c32, c33, c34, c35, c36, c37, c38, c39, c40, c41, c42, c43, c44, c45, c46, c47, c48, c49, c50, c51, c52, c53, c54, c55, c56, c57, c58, c59, c60, c61, c62, c63, c64, c65, c66, c67, c68, v69, v70, v71, v72, v73, v74, v75, v76, v77, v78, v79, v80, v81, v82, v83, v84, v85, v86, v87, v88, v89, v90, v91, v92, v93, v94, v95, v96, v97, v98, v99, v100, v101, v102, v103, v104, v105, v106, v107, v108, v109, v110, v111, v112, v113, v114, v115, v116, v117, v118, v119, v120, v121, v122, v123, v124, v125, v126, v127, v128, v129, v130, v131, v132, v133, v134, v135, v136, v137, v138, v139, v140, v141, v142, v143, v144, v145, v146, v147, v148, v149, v150, v151, v152, c153, c154, c155, c156, c157, c158, c159, c160, c161, c162, c163, c164, c165, c166, c167, c168, c169, c170, c171, c172, c173, c174, c175, c176, c177, c178, c179, c180, c181, c182, c183, c184, c185, c186, c187, c188, c189, c190, c191, c192, c193, c194, c195, c196, c197, c198], Ds'.map mk⟩ W')
    (hret : ∀ a' W', RetAt x p q fi la w0 s a' W' → Q0 .ret a' W') :
    Code.wp Yba.prog (.loop (lp11 1)) Q0 ⟨#[c0, c1, c2, .pointer (some ⟨x.b3, 0, none⟩), c4, c5, .pointer (some ⟨x.b6, 0, none⟩), c7, c8, c9, .func (.func 15) #[] #[.pointer (some ⟨x.b7, 0, none⟩), .pointer (some ⟨x.b4, 0, none⟩), .pointer (some ⟨x.b5, 0, none⟩), .pointer (some ⟨x.b3, 0, none⟩)], .pointer (some ⟨x.b11, 0, none⟩), .pointer (some ⟨x.b12, 0, none⟩), u13, u14, u15, u16, u17, c18, c19, c20, c21, c22, c23, c24, c25, c26, c27, c28, c29, c30, c31, c32, c33, c34, c35, c36, c37, c38, c39, c40, c41, c42, c43, c44, c45, c46, c47, c48, c49, c50, c51, c52, c53, c54, c55, c56, c57, c58, c59, c60, c61, c62, c63, c64, c65, c66, c67, c68, u69, u70, u71, u72, u73, u74, u75, u76, u77, u78, u79, u80, u81, u82, u83, u84, u85, u86, u87, u88, u89, u90, u91, u92, u93, u94, u95, u96, u97, u98, u99, u100, u101, u102, u103, u104, u105, u106, u107, u108, u109, u110, u111, u112, u113, u114, u115, u116, u117, u118, u119, u120, u121, u122, u123, u124, u125, u126, u127, u128, u129, u130, u131, u132, u133, u134, u135, u136, u137, u138, u139, u140, u141, u142, u143, u144, u145, u146, u147, u148, u149, u150, u151, u152, c153, c154, c155, c156, c157, c158, c159, c160, c161, c162, c163, c164, c165, c166, c167, c168, c169, c170, c171, c172, c173, c174, c175, c176, c177, c178, c179, c180, c181, c182, c183, c184, c185, c186, c187, c188, c189, c190, c191, c192, c193, c194, c195, c196, c197, c198], Ds.map mk⟩ W := by
  refine wp_loop_ghost (WI2 x p q fi la w0 s c0 c1 c2 c4 c5 c7 c8 c9 c18 c19 c20 c21 c22 c23 c24 c25 c26 c27 c28 c29 c30 c31 c32 c33 c34 c35 c36 c37 c38 c39 c40 c41 c42 c43 c44 c45 c46 c47 c48 c49 c50 c51 c52 c53 c54 c55 c56 c57 c58 c59 c60 c61 c62 c63 c64 c65 c66 c67 c68 c153 c154 c155 c156 c157 c158 c159 c160 c161 c162 c163 c164 c165 c166 c167 c168 c169 c170 c171 c172 c173 c174 c175 c176 c177 c178 c179 c180 c181 c182 c183 c184 c185 c186 c187 c188 c189 c190 c191 c192 c193 c194 c195 c196 c197 c198) (nb - t) ?_ ?_
  · refine ⟨u13, u14, u15, u16, u17, u69, u70, u71, u72, u73, u74, u75, u76, u77, u78, u79, u80, u81, u82, u83, u84, u85, u86, u87, u88, u89, u90, u91, u92, u93, u94, u95, u96, u97, u98, u99, u100, u101, u102, u103, u104, u105, u106, u107, u108, u109, u110, u111, u112, u113, u114, u115, u116, u117, u118, u119, u120, u121, u122, u123, u124, u125, u126, u127, u128, u129, u130, u131, u132, u133, u134, u135, u136, u137, u138, u139, u140, u141, u142, u143, u144, u145, u146, u147, u148, u149, u150, u151, u152, Ds, s, t, ⟨?_, hF, hg, hM, fun r b h => h⟩, rfl⟩
    have := hg.cnt
    omega
  · intro k a' W' hI
    unfold WI2 at hI
    obtain ⟨u13, hI⟩ := hI
    obtain ⟨u14, hI⟩ := hI
    obtain ⟨u15, hI⟩ := hI
    obtain ⟨u16, hI⟩ := hI
    obtain ⟨u17, hI⟩ := hI
    obtain ⟨u69, hI⟩ := hI
    obtain ⟨u70, hI⟩ := hI
    obtain ⟨u71, hI⟩ := hI
    obtain ⟨u72, hI⟩ := hI
    obtain ⟨u73, hI⟩ := hI
    obtain ⟨u74, hI⟩ := hI
    obtain ⟨u75, hI⟩ := hI
    obtain ⟨u76, hI⟩ := hI
    obtain ⟨u77, hI⟩ := hI
    obtain ⟨u78, hI⟩ := hI
    obtain ⟨u79, hI⟩ := hI
    obtain ⟨u80, hI⟩ := hI
    obtain ⟨u81, hI⟩ := hI
    obtain ⟨u82, hI⟩ := hI
    obtain ⟨u83, hI⟩ := hI
    obtain ⟨u84, hI⟩ := hI
    obtain ⟨u85, hI⟩ := hI
    obtain ⟨u86, hI⟩ := hI
    obtain ⟨u87, hI⟩ := hI
    obtain ⟨u88, hI⟩ := hI
    obtain ⟨u89, hI⟩ := hI
    obtain ⟨u90, hI⟩ := hI
    obtain ⟨u91, hI⟩ := hI
    obtain ⟨u92, hI⟩ := hI
    obtain ⟨u93, hI⟩ := hI
    obtain ⟨u94, hI⟩ := hI
    obtain ⟨u95, hI⟩ := hI
    obtain ⟨u96, hI⟩ := hI
    obtain ⟨u97, hI⟩ := hI
    obtain ⟨u98, hI⟩ := hI
    obtain ⟨u99, hI⟩ := hI
    obtain ⟨u100, hI⟩ := hI
    obtain ⟨u101, hI⟩ := hI
    obtain ⟨u102, hI⟩ := hI
    obtain ⟨u103, hI⟩ := hI
    obtain ⟨u104, hI⟩ := hI
    obtain ⟨u105, hI⟩ := hI
    obtain ⟨u106, hI⟩ := hI
    obtain ⟨u107, hI⟩ := hI
    obtain ⟨u108, hI⟩ := hI
    obtain ⟨u109, hI⟩ := hI
    obtain ⟨u110, hI⟩ := hI
    obtain ⟨u111, hI⟩ := hI
    obtain ⟨u112, hI⟩ := hI
    obtain ⟨u113, hI⟩ := hI
    obtain ⟨u114, hI⟩ := hI
    obtain ⟨u115, hI⟩ := hI
    obtain ⟨u116, hI⟩ := hI
    obtain ⟨u117, hI⟩ := hI
    obtain ⟨u118, hI⟩ := hI
    obtain ⟨u119, hI⟩ := hI
    obtain ⟨u120, hI⟩ := hI
    obtain ⟨u121, hI⟩ := hI
    obtain ⟨u122, hI⟩ := hI
    obtain ⟨u123, hI⟩ := hI
    obtain ⟨u124, hI⟩ := hI
    obtain ⟨u125, hI⟩ := hI
    obtain ⟨u126, hI⟩ := hI
    obtain ⟨u127, hI⟩ := hI
    obtain ⟨u128, hI⟩ := hI
    obtain ⟨u129, hI⟩ := hI
    obtain ⟨u130, hI⟩ := hI
    obtain ⟨u131, hI⟩ := hI
    obtain ⟨u132, hI⟩ := hI
    obtain ⟨u133, hI⟩ := hI
    obtain ⟨u134, hI⟩ := hI
    obtain ⟨u135, hI⟩ := hI
    obtain ⟨u136, hI⟩ := hI
    obtain ⟨u137, hI⟩ := hI
    obtain ⟨u138, hI⟩ := hI
    obtain ⟨u139, hI⟩ := hI
    obtain ⟨u140, hI⟩ := hI
    obtain ⟨u141, hI⟩ := hI
    obtain ⟨u142, hI⟩ := hI
    obtain ⟨u143, hI⟩ := hI
    obtain ⟨u144, hI⟩ := hI
    obtain ⟨u145, hI⟩ := hI
    obtain ⟨u146, hI⟩ := hI
    obtain ⟨u147, hI⟩ := hI
    obtain ⟨u148, hI⟩ := hI
    obtain ⟨u149, hI⟩ := hI
    obtain ⟨u150, hI⟩ := hI
    obtain ⟨u151, hI⟩ := hI
    obtain ⟨u152, hI⟩ := hI
    obtain ⟨Ds', s', t', ⟨hk, hF', hg', hM', hD'⟩, rfl⟩ := hI
    rcases List.eq_nil_or_concat s'.stack with hs | ⟨l, i, hs⟩
    · exact round2_end _ _ _ _ _ _ _ _ _ _ _ _ _ _ _ _ _ _ _ _ _ _ _ _ _ _ _ _ _ _ _ _ _ _ _ _ _ _ _ _ _ _ _ _ _ _ _ _ _ _ _ _ _ _ _ _ _ _ _ _ _ _ _ _ _ _ _ _ _ _ _ _ _ _ _ _ _ _ _ _ _ _ _ _ _ _ _ _ _ _ _ _ _ _ _ _ _ _ _ _ _ _ _ _ _ _ _ _ _ _ _ _ _ _ _ _ _ _ _ _ _ _ _ _ _ _ _ _ _ _ _ _ _ _ _ _ _ _ _ _ _ _ _ _ _ _ _ _ _ _ _ _ _ _ _ _ _ _ _ _ _ _ _ _ _ _ _ _ _ _ _ _ _ _ _ _ _ _ _ _ _ _ _ _ _ _ _ _ _ _ _ _ _ _ Ds' s' W' hF' hs _ Q0 (fun v13 v14 v15 v16 v17 v69 v70 v71 v72 v73 v74 v75 v76 v77 v78 v79 v80 v81 v82 v83 v84 v85 v86 v87 v88 v89 v90 v91 v92 v93 v94 v95 v96 v97 v98 v99 v100 v101 v102 v103 v104 v105 v106 v107 v108 v109 v110 v111 v112 v113 v114 v115 v116 v117 v118 v119 v120 v121 v122 v123 v124 v125 v126 v127 v128 v129 v130 v131 v132 v133 v134 v135 v136 v137 v138 v139 v140 v141 v142 v143 v144 v145 v146 v147 v148 v149 v150 v151 v152 => hexit v13 v14 v15 v16 v17 v69 v70 v71 v72 v73 v74 v75 v76 v77 v78 v79 v80 v81 v82 v83 v84 v85 v86 v87 v88 v89 v90 v91 v92 v93 v94 v95 v96 v97 v98 v99 v100 v101 v102 v103 v104 v105 v106 v107 v108 v109 v110 v111 v112 v113 v114 v115 v116 v117 v118 v119 v120 v121 v122 v123 v124 v125 v126 v127 v128 v129 v130 v131 v132 v133 v134 v135 v136 v137 v138 v139 v140 v141 v142 v143 v144 v145 v146 v147 v148 v149 v150 v151 v152 Ds' s' t' W' hF' hg' hM' (hD' _ _ (Done.stop s' hs)))
    · rw [List.concat_eq_append] at hs
      refine round2_go he _ _ _ _ _ _ _ _ _ _ _ _ _ _ _ _ _ _ _ _ _ _ _ _ _ _ _ _ _ _ _ _ _ _ _ _ _ _ _ _ _ _ _ _ _ _ _ _ _ _ _ _ _ _ _ _ _ _ _ _ _ _ _ _ _ _ _ _ _ _ _ _ _ _ _ _ _ _ _ _ _ _ _ _ _ _ _ _ _ _ _ _ _ _ _ _ _ _ _ _ _ _ _ _ _ _ _ _ _ _ _ _ _ _ _ _ _ _ _ _ _ _ _ _ _ _ _ _ _ _ _ _ _ _ _ _ _ _ _ _ _ _ _ _ _ _ _ _ _ _ _ _ _ _ _ _ _ _ _ _ _ _ _ _ _ _ _ _ _ _ _ _ _ _ _ _ _ _ _ _ _ _ _ _ _ _ _ _ _ _ _ _ _ _ Ds' s' t' l i W' hF' hg' hM' hs _ Q0 ?_ (fun a'' W'' h => hret a'' W'' ?_)
      · intro v13 v14 v15 v16 v17 v69 v70 v71 v72 v73 v74 v75 v76 v77 v78 v79 v80 v81 v82 v83 v84 v85 v86 v87 v88 v89 v90 v91 v92 v93 v94 v95 v96 v97 v98 v99 v100 v101 v102 v103 v104 v105 v106 v107 v108 v109 v110 v111 v112 v113 v114 v115 v116 v117 v118 v119 v120 v121 v122 v123 v124 v125 v126 v127 v128 v129 v130 v131 v132 v133 v134 v135 v136 v137 v138 v139 v140 v141 v142 v143 v144 v145 v146 v147 v148 v149 v150 v151 v152 Ds2 s2 W2 hst hF2 hg2 hM2
        refine ⟨k - 1, ?_, v13, v14, v15, v16, v17, v69, v70, v71, v72, v73, v74, v75, v76, v77, v78, v79, v80, v81, v82, v83, v84, v85, v86, v87, v88, v89, v90, v91, v92, v93, v94, v95, v96, v97, v98, v99, v100, v101, v102, v103, v104, v105, v106, v107, v108, v109, v110, v111, v112, v113, v114, v115, v116, v117, v118, v119, v120, v121, v122, v123, v124, v125, v126, v127, v128, v129, v130, v131, v132, v133, v134, v135, v136, v137, v138, v139, v140, v141, v142, v143, v144, v145, v146, v147, v148, v149, v150, v151, v152, Ds2, s2, t' + 1, ⟨?_, hF2, hg2, hM2, fun r b h => hD' r b (Done.go s' l i s2 r b hs hst h)⟩, rfl⟩
        · have := hg'.cnt
          rw [hs] at this
          simp at this
          omega
        · have := hg'.cnt
          rw [hs] at this
          simp at this
          omega
      · obtain ⟨s3, Ds3, h1, h2, h3, h4, h5, h6⟩ := h
        exact ⟨s3, Ds3, h1, h2, h3, hD' _ _ h4, h5, h6⟩

end
end Go.Proofs.Ybulkfqak
