import Derived.Test.YbulkfqakQReg
namespace Go.Proofs.Ybulkfqak
open Go.RowKit Go.Shelf
attribute [-simp] Yba.isAgg95
attribute [local go_sem] Oper.semAt_some
section
variable {x : Cx} {nb : Nat} {p : Prg nb} {q : Nat → Option Addr} {fi la : Nat → Int} {w0 : World} {v0 : Value} {n0 : Nat} {xs0 : List Value}
def rangeOf : Code → Option Code
  | .loop c => rangeOf c
  | .seq a b => match rangeOf a with
    | some c => some c
    | none => rangeOf b
  | .block _ c => rangeOf c
  | .scope c => rangeOf c
  | .cond _ a b => match rangeOf a with
    | some c => some c
    | none => rangeOf b
  | .rangeFunc g ps a b => some (.rangeFunc g ps a b)
  | _ => none
noncomputable def rg11 : Code := (Yba.f11.body.bind rangeOf).getD .skip

abbrev FS (x : Cx) {nb : Nat} (p : Prg nb) (q : Nat → Option Addr) (fi la : Nat → Int) (w0 : World) (s : St) (W : World) : Prop := FAll x p q fi la w0 s.stack s.seen s.seen s.delta W
def IB (x : Cx) {nb : Nat} (p : Prg nb) (q : Nat → Option Addr) (fi la : Nat → Int) (w0 : World) (S Bn i : Nat) (d : Int) (s1 : St) (Ds : List Nat) (pre : List (Bl nb)) (W : World) : Prop :=
  (visit d s1 pre).2 = true ∧ FS x p q fi la w0 (visit d s1 pre).1 W ∧ Copied x S d w0 W ∧ Marks w0.heap.size Ds W ∧ W.rowIs Bn 76 1 (fun _ => .pointer (some ⟨x.K, i * 11, none⟩))
def IXB (x : Cx) {nb : Nat} (p : Prg nb) (q : Nat → Option Addr) (fi la : Nat → Int) (w0 : World) (d : Int) (s1 : St) (Ds : List Nat) (c : Code) (pre : List (Bl nb)) (W : World) : Prop :=
  c = .ret ∧ (visit d s1 pre).2 = false ∧ FS x p q fi la w0 (visit d s1 pre).1 W ∧ W.rowIs x.b6 4 1 (fun _ => .bool false) ∧ Marks w0.heap.size Ds W

theorem FAll.other {stk : List Nat} {sn kn : Nat → Bool} {dl : Nat → Int} {W W' : World} {row : Option Nat} {B : Nat} (h : FAll x p q fi la w0 stk sn kn dl W) (g : W.grownBy W' row) (hB : w0.heap.size ≤ B)
    (hr : ∀ r, row = some r → B ≤ r ∧ ∃ o : Obj, W.heap[r]? = some o ∧ o.isCells = false) : FAll x p q fi la w0 stk sn kn dl W' := by
  refine h.keep g fun k e => ?_
  obtain ⟨h1, o, h2, h3⟩ := hr k e
  refine ⟨by omega, fun ek => ?_, fun c t fr hc => ?_⟩
  · obtain ⟨⟨c, hc, _⟩, _⟩ := h.st
    rw [ek, hc] at h2
    injection h2 with h2
    subst h2
    cases h3
  · rw [hc] at h2
    injection h2 with h2
    subst h2
    cases h3
theorem row_other {W W' : World} {row : Option Nat} {B b : Nat} {t : TypeId} {n : Nat} {f : Nat → Value} (h : W.rowIs b t n f) (g : W.grownBy W' row) (hr : ∀ r, row = some r → B ≤ r ∧ ∃ o : Obj, W.heap[r]? = some o ∧ o.isCells = false) : W'.rowIs b t n f := by
  refine row_grown h g fun e => ?_
  obtain ⟨_, o, h2, h3⟩ := hr b e.symm
  obtain ⟨c, hc, _⟩ := h
  rw [hc] at h2
  injection h2 with h2
  subst h2
  cases h3
theorem Copied.keep {W W' : World} {S : Nat} {d : Int} (h : Copied x S d w0 W) (e : W'.heap[S]? = W.heap[S]?) : Copied x S d w0 W' := by
  obtain ⟨c, hc, hs⟩ := h.blk
  exact ⟨fun j v hv => (World.cell?_of_block (a := ⟨S, _, none⟩) e).trans (h.rng j v hv), ⟨c, e.trans hc, hs⟩, h.ne, h.new⟩
theorem Copied.lt {W : World} {S : Nat} {d : Int} (h : Copied x S d w0 W) : S < W.heap.size := by
  obtain ⟨c, hc, hs⟩ := h.blk
  exact (Array.getElem?_eq_some_iff.1 hc).1
theorem Copied.other {W W' : World} {row : Option Nat} {B S : Nat} {d : Int} (h : Copied x S d w0 W) (g : W.grownBy W' row) (hr : ∀ r, row = some r → B ≤ r ∧ ∃ o : Obj, W.heap[r]? = some o ∧ o.isCells = false) : Copied x S d w0 W' := by
  refine h.keep (g.block S h.lt fun e => ?_)
  obtain ⟨_, o, h2, h3⟩ := hr S e.symm
  obtain ⟨c, hc, _⟩ := h.blk
  rw [hc] at h2
  injection h2 with h2
  subst h2
  cases h3
theorem Marks.other {n : Nat} {Ds : List Nat} {W W' : World} {row : Option Nat} {B : Nat} (h : Marks n Ds W) (g : W.grownBy W' row) (hD : ∀ D, D ∈ Ds → D < B) (hr : ∀ r, row = some r → B ≤ r ∧ ∃ o : Obj, W.heap[r]? = some o ∧ o.isCells = false) : Marks n Ds W' := by
  refine ⟨h.1, fun D hd => ⟨(h.2 D hd).1, (g.block D (Array.getElem?_eq_some_iff.1 (h.2 D hd).2).1 fun e => ?_).trans (h.2 D hd).2⟩⟩
  have := (hr D e.symm).1
  have := hD D hd
  omega
theorem Marks.cons {n : Nat} {Ds : List Nat} {W : World} {B D : Nat} (h : Marks n Ds W) (hDl : ∀ E, E ∈ Ds → E < B) (hD : B ≤ D) (hn : n ≤ B) (hK : W.heap[D]? = some (.deferred (some []))) : Marks n (D :: Ds) W := by
  refine ⟨List.nodup_cons.2 ⟨fun hm => ?_, h.1⟩, fun E hE => ?_⟩
  · have := hDl D hm; omega
  · rcases List.mem_cons.1 hE with rfl | hE
    · exact ⟨by omega, hK⟩
    · exact h.2 E hE
theorem IB.own {S Bn i : Nat} {d : Int} {s1 : St} {Ds : List Nat} {B : Nat} (hB : w0.heap.size ≤ B) (hD : ∀ D, D ∈ Ds → D < B) : OwnFrom B (IB x p q fi la w0 S Bn i d s1 Ds) := fun _ _ _ _ h g hr =>
  ⟨h.1, h.2.1.other g hB hr, h.2.2.1.other g hr, h.2.2.2.1.other g hD hr, row_other h.2.2.2.2 g hr⟩
theorem IXB.own {d : Int} {s1 : St} {Ds : List Nat} {B : Nat} (hB : w0.heap.size ≤ B) (hD : ∀ D, D ∈ Ds → D < B) (c : Code) : OwnFrom B (IXB x p q fi la w0 d s1 Ds c) := fun _ _ _ _ h g hr =>
  ⟨h.1, h.2.1, h.2.2.1.other g hB hr, row_other h.2.2.2.1 g hr, h.2.2.2.2.other g hD hr⟩

/-- what a round keeps besides -/
structure Side (x : Cx) (w0 : World) (q : Option Addr) (S Bn i : Nat) (d : Int) (Ds : List Nat) (V V' : World) : Prop where
  cp : Copied x S d w0 V'
  ms : Marks w0.heap.size Ds V'
  bn : V'.rowIs Bn 76 1 (fun _ => .pointer (some ⟨x.K, i * 11, none⟩))
  ko : KeepsOthers V V'
  ks : KeptS Bn x.K (i * 11) q V V'
theorem Side.step {qi : Option Addr} {S Bn i X : Nat} {d : Int} {Ds : List Nat} {V V1 V2 : World} (h : Side x w0 qi S Bn i d Ds V V1) (g : V1.grownBy V2 (some X)) (hX : ∃ c t fr, V1.heap[X]? = some (.cells c t fr) ∧ t ≠ 76) (hS : X ≠ S) (hj : V2.cell? ⟨x.K, i * 11 + 5, none⟩ = V1.cell? ⟨x.K, i * 11 + 5, none⟩)
    (hq : ∀ g, qi = some ⟨g, 0, none⟩ → g < V1.heap.size ∧ g ≠ X) : Side x w0 qi S Bn i d Ds V V2 := by
  obtain ⟨c, t, fr, hc, ht⟩ := hX
  have hb : Bn ≠ X := fun e => by
    obtain ⟨c', h2, _⟩ := h.bn
    rw [e, hc] at h2
    injection h2 with h2
    injection h2 with _ h2
    exact ht h2
  have hbb : V2.heap[Bn]? = V1.heap[Bn]? := g.block Bn h.bn.lt (fun e => by injection e with e; exact hb e)
  refine ⟨h.cp.keep (g.block S h.cp.lt (fun e => by injection e with e; exact hS e.symm)), h.ms.keep g (fun k e => by injection e with e; subst e; exact ⟨c, t, fr, hc⟩), h.bn.of_block hbb, h.ko.trans ⟨g.size, fun k o hk ho => ?_⟩, h.ks.trans ⟨hbb, hj, fun g' e => g.block g' (hq g' e).1 (fun e2 => by injection e2 with e2; exact (hq g' e).2 e2)⟩⟩
  rw [g.block k (Array.getElem?_eq_some_iff.1 hk).1 (fun e => ?_)]
  · exact hk
  · injection e with e
    rw [e, hc] at hk
    injection hk with hk
    subst hk
    cases ho
theorem Side.below {qi : Option Addr} {S Bn i : Nat} {d : Int} {Ds : List Nat} {V V1 V2 : World} (h : Side x w0 qi S Bn i d Ds V V1) (g : Below V1.heap.size V1 V2) (hK : x.K < V1.heap.size) (hq : ∀ g, qi = some ⟨g, 0, none⟩ → g < V1.heap.size) : Side x w0 qi S Bn i d Ds V V2 :=
  ⟨h.cp.keep (g.block S h.cp.lt), h.ms.keep (gb_below g none) (fun k e => by cases e), h.bn.of_block (g.block Bn h.bn.lt), h.ko.trans ⟨g.size, fun k o hk _ => (g.block k (Array.getElem?_eq_some_iff.1 hk).1).trans hk⟩,
   h.ks.trans ⟨g.block Bn h.bn.lt, g.cell (p := ⟨x.K, i * 11 + 5, none⟩) hK, fun g' e => g.block g' (hq g' e)⟩⟩
theorem Side.refl {qi : Option Addr} {S Bn i : Nat} {d : Int} {Ds : List Nat} {V : World} (h1 : Copied x S d w0 V) (h2 : Marks w0.heap.size Ds V) (h3 : V.rowIs Bn 76 1 (fun _ => .pointer (some ⟨x.K, i * 11, none⟩))) : Side x w0 qi S Bn i d Ds V V :=
  ⟨h1, h2, h3, KeepsOthers.refl V, ⟨rfl, rfl, fun _ _ => rfl⟩⟩
theorem below_drew (V : World) : Below V.heap.size V V.drew := (Below.refl _ _).drew

set_option maxRecDepth 1000000 in
set_option maxHeartbeats 4000000 in
theorem range2 (he : Ent x p q fi la v0 n0 xs0 w0) (c0 c1 c2 c4 c5 c7 c8 c9 c13 c18 c19 c20 c21 c22 c23 c24 c25 c26 c27 c28 c29 c30 c31 c32 c33 c34 c35 c36 c37 c38 c39 c40 c41 c42 c43 c44 c45 c46 c47 c48 c49 c50 c51 c52 c53 c54 c55 c56 c57 c58 c59 c60 c61 c62 c63 c64 c65 c66 c67 c68 c69 c70 c71 c72 c73 c74 c75 c76 c77 c78 c79 c80 c81 c82 c83 c84 c85 c86 c87 c88 c89 c90 c91 c92 c93 c94 c95 c96 c97 c98 c99 c100 c101 c102 c103 c104 c105 c106 c107 c108 c109 c153 c154 c155 c156 c157 c158 c159 c160 c161 c162 c163 c164 c165 c166 c167 c168 c169 c170 c171 c172 c173 c174 c175 c176 c177 c178 c179 c180 c181 c182 c183 c184 c185 c186 c187 c188 c189 c190 c191 c192 c193 c194 c195 c196 c197 c198 c10 : Value) (u15 u16 u17 u111 u112 u113 u114 u115 u116 u117 u118 u119 u120 u121 u122 u123 u124 u125 u126 u127 u128 u129 u130 u131 u132 u133 u134 u135 u136 u137 u138 u139 u140 u141 u142 u143 u144 u145 u146 u147 u148 u149 u150 u151 u152 : Value) (Ds : List Nat) (s1 : St) (t S Bn i : Nat) (d : Int) (W : World) (hi : i < nb) (hF : FS x p q fi la w0 s1 W) (hC : Copied x S d w0 W) (hM : Marks w0.heap.size Ds W) (hBn : W.rowIs Bn 76 1 (fun _ => .pointer (some ⟨x.K, i * 11, none⟩)))
    (hg : Good nb s1 t) (hd1 : -(524288 * (t : Int)) ≤ d) (hd2 : d ≤ 524288 * (t : Int)) (Q : Exit → Act → World → Prop)
    (hdone : ∀ D W', (visit d s1 (p.succ i)).2 = true → FS x p q fi la w0 (visit d s1 (p.succ i)).1 W' → Marks w0.heap.size (D :: Ds) W' → Q .normal ⟨#[c0, c1, c2, .pointer (some ⟨x.b3, 0, none⟩), c4, c5, .pointer (some ⟨x.b6, 0, none⟩), c7, c8, c9, c10, .pointer (some ⟨x.b11, 0, none⟩), .pointer (some ⟨x.b12, 0, none⟩), c13, .pointer (some ⟨S, 0, none⟩), u15, u16, u17, c18, c19, c20, c21, c22, c23, c24, c25, c26, c27, c28, c29, c30, c31, c32, c33, c34, c35, c36, c37, c38, c39, c40, c41, c42, c43, c44, c45, c46, c47, c48, c49, c50, c51, c52, c53, c54, c55, c56, c57, c58, c59, c60, c61, c62, c63, c64, c65, c66, c67, c68, c69, c70, c71, c72, c73, c74, c75, c76, c77, c78, c79, c80, c81, c82, c83, c84, c85, c86, c87, c88, c89, c90, c91, c92, c93, c94, c95, c96, c97, c98, c99, c100, c101, c102, c103, c104, c105, c106, c107, c108, c109, .func (.func 36) #[] #[.pointer (some ⟨Bn, 0, none⟩)], u111, u112, u113, u114, u115, u116, u117, u118, u119, u120, u121, u122, u123, u124, u125, u126, u127, u128, u129, u130, u131, u132, u133, u134, u135, u136, u137, u138, u139, u140, u141, u142, u143, u144, u145, u146, u147, u148, u149, u150, u151, u152, c153, c154, c155, c156, c157, c158, c159, c160, c161, c162, c163, c164, c165, c166, c167, c168, c169, c170, c171, c172, c173, c174, c175, c176, c177, c178, c179, c180, c181, c182, c183, c184, c185, c186, c187, c188, c189, c190, c191, c192, c193, c194, c195, c196, c197, c198], (D :: Ds).map mk⟩ W')
    (hret : ∀ D W', (visit d s1 (p.succ i)).2 = false → FS x p q fi la w0 (visit d s1 (p.succ i)).1 W' → W'.rowIs x.b6 4 1 (fun _ => .bool false) → Marks w0.heap.size (D :: Ds) W' → Q .ret ⟨#[c0, c1, c2, .pointer (some ⟨x.b3, 0, none⟩), c4, c5, .pointer (some ⟨x.b6, 0, none⟩), c7, c8, c9, c10, .pointer (some ⟨x.b11, 0, none⟩), .pointer (some ⟨x.b12, 0, none⟩), c13, .pointer (some ⟨S, 0, none⟩), u15, u16, u17, c18, c19, c20, c21, c22, c23, c24, c25, c26, c27, c28, c29, c30, c31, c32, c33, c34, c35, c36, c37, c38, c39, c40, c41, c42, c43, c44, c45, c46, c47, c48, c49, c50, c51, c52, c53, c54, c55, c56, c57, c58, c59, c60, c61, c62, c63, c64, c65, c66, c67, c68, c69, c70, c71, c72, c73, c74, c75, c76, c77, c78, c79, c80, c81, c82, c83, c84, c85, c86, c87, c88, c89, c90, c91, c92, c93, c94, c95, c96, c97, c98, c99, c100, c101, c102, c103, c104, c105, c106, c107, c108, c109, .func (.func 36) #[] #[.pointer (some ⟨Bn, 0, none⟩)], u111, u112, u113, u114, u115, u116, u117, u118, u119, u120, u121, u122, u123, u124, u125, u126, u127, u128, u129, u130, u131, u132, u133, u134, u135, u136, u137, u138, u139, u140, u141, u142, u143, u144, u145, u146, u147, u148, u149, u150, u151, u152, c153, c154, c155, c156, c157, c158, c159, c160, c161, c162, c163, c164, c165, c166, c167, c168, c169, c170, c171, c172, c173, c174, c175, c176, c177, c178, c179, c180, c181, c182, c183, c184, c185, c186, c187, c188, c189, c190, c191, c192, c193, c194, c195, c196, c197, c198], (D :: Ds).map mk⟩ W') :
    Code.wp Yba.prog rg11 Q ⟨#[c0, c1, c2, .pointer (some ⟨x.b3, 0, none⟩), c4, c5, .pointer (some ⟨x.b6, 0, none⟩), c7, c8, c9, c10, .pointer (some ⟨x.b11, 0, none⟩), .pointer (some ⟨x.b12, 0, none⟩), c13, .pointer (some ⟨S, 0, none⟩), u15, u16, u17, c18, c19, c20, c21, c22, c23, c24, c25, c26, c27, c28, c29, c30, c31, c32, c33, c34, c35, c36, c37, c38, c39, c40, c41, c42, c43, c44, c45, c46, c47, c48, c49, c50, c51, c52, c53, c54, c55, c56, c57, c58, c59, c60, c61, c62, c63, c64, c65, c66, c67, c68, c69, c70, c71, c72, c73, c74, c75, c76, c77, c78, c79, c80, c81, c82, c83, c84, c85, c86, c87, c88, c89, c90, c91, c92, c93, c94, c95, c96, c97, c98, c99, c100, c101, c102, c103, c104, c105, c106, c107, c108, c109, .func (.func 36) #[] #[.pointer (some ⟨Bn, 0, none⟩)], u111, u112, u113, u114, u115, u116, u117, u118, u119, u120, u121, u122, u123, u124, u125, u126, u127, u128, u129, u130, u131, u132, u133, u134, u135, u136, u137, u138, u139, u140, u141, u142, u143, u144, u145, u146, u147, u148, u149, u150, u151, u152, c153, c154, c155, c156, c157, c158, c159, c160, c161, c162, c163, c164, c165, c166, c167, c168, c169, c170, c171, c172, c173, c174, c175, c176, c177, c178, c179, c180, c181, c182, c183, c184, c185, c186, c187, c188, c189, c190, c191, c192, c193, c194, c195, c196, c197, c198], Ds.map mk⟩ W := by
  conv => arg 2; whnf
  have hDl : ∀ D, D ∈ Ds → D < W.heap.size := fun D hD => (Array.getElem?_eq_some_iff.1 (hM.2 D hD).2).1
  have hsz := hF.fr.size
  have hKl := hF.rK.lt
  have hBl := hBn.lt
  refine (wpIn_wide (n := 3)).1 ?_
  refine wpIn_rangeFunc_ownG rfl (by omega) (gf := 36) (lb := #[.pointer (some ⟨Bn, 0, none⟩)]) rfl trivial (enters_of Yba.func36 (by kernel_rfl) rfl)
    (succs_stops Bn x.K (i * 11) (p.nxo i) (q i) (p.js i) (he.jsl i hi) W (hF.succ he hi (hBn.cell (by omega)))) (fun h k => h.trans k) ?hKb (Below.refl _ _) (fun _ => rfl)
    (IB x p q fi la w0 S Bn i d s1 Ds) (IXB x p q fi la w0 d s1 Ds) (IB.own hsz hDl) (IXB.own hsz hDl) ⟨rfl, hF, hC, hM, hBn⟩
    (fun y => ⟨#[c0, c1, c2, .pointer (some ⟨x.b3, 0, none⟩), c4, c5, .pointer (some ⟨x.b6, 0, none⟩), c7, c8, c9, c10, .pointer (some ⟨x.b11, 0, none⟩), .pointer (some ⟨x.b12, 0, none⟩), c13, .pointer (some ⟨S, 0, none⟩), .int .i32 ((y.1 : Nat) : Int), u16, u17, c18, c19, c20, c21, c22, c23, c24, c25, c26, c27, c28, c29, c30, c31, c32, c33, c34, c35, c36, c37, c38, c39, c40, c41, c42, c43, c44, c45, c46, c47, c48, c49, c50, c51, c52, c53, c54, c55, c56, c57, c58, c59, c60, c61, c62, c63, c64, c65, c66, c67, c68, c69, c70, c71, c72, c73, c74, c75, c76, c77, c78, c79, c80, c81, c82, c83, c84, c85, c86, c87, c88, c89, c90, c91, c92, c93, c94, c95, c96, c97, c98, c99, c100, c101, c102, c103, c104, c105, c106, c107, c108, c109, .func (.func 36) #[] #[.pointer (some ⟨Bn, 0, none⟩)], .int .i32 ((y.1 : Nat) : Int), u112, u113, u114, u115, u116, u117, u118, u119, u120, u121, u122, u123, u124, u125, u126, u127, u128, u129, u130, u131, u132, u133, u134, u135, u136, u137, u138, u139, u140, u141, u142, u143, u144, u145, u146, u147, u148, u149, u150, u151, u152, c153, c154, c155, c156, c157, c158, c159, c160, c161, c162, c163, c164, c165, c166, c167, c168, c169, c170, c171, c172, c173, c174, c175, c176, c177, c178, c179, c180, c181, c182, c183, c184, c185, c186, c187, c188, c189, c190, c191, c192, c193, c194, c195, c196, c197, c198], []⟩) ?assign ?body ?done ?stop
  case hKb =>
    intro V l o o' hl hlo hc _
    have hlV : l < V.heap.size := (Array.getElem?_eq_some_iff.1 hlo).1
    refine ⟨World.putObj_heap_other (by omega), World.cell?_of_block (World.putObj_heap_other (by show x.K ≠ l; omega)), fun g e => World.putObj_heap_other ?_⟩
    rcases he.rJ i hi with ⟨e1, _⟩ | ⟨g', e1, ⟨f, hf⟩, _⟩
    · rw [e1] at e; cases e
    · rw [e1] at e
      injection e with e
      injection e with e
      have := hf.lt
      omega
  case assign =>
    intro l y W K hK
    unfold encB
    gi_wp2
    exact hK
  case body =>
    rintro l pre y V ⟨hv, hF', hC', hM', hB'⟩ hlen
    obtain ⟨s', hs'⟩ : ∃ s', s' = (visit d s1 pre).1 := ⟨_, rfl⟩
    have hsn : Hid (visit d s1 (pre ++ [y]) = visit1 d s' y.1) := by show _ = _; rw [hs']; exact visit_snoc d y pre s1 hv
    have hgs : Hid (Good nb s' t) := by rw [hs']; exact Good.visit hd1 hd2 pre s1 hg
    rw [← hs'] at hF'
    clear hs' hv
    have hyl := y.2
    obtain ⟨yy, hyy⟩ : ∃ yy, yy = y.1 := ⟨_, rfl⟩
    rw [← hyy] at hsn hyl ⊢
    have HF : Hid (FS x p q fi la w0 s' V) := hF'
    have HC : Hid (Copied x S d w0 V) := hC'
    have HM : Hid (Marks w0.heap.size Ds V) := hM'
    have HB : Hid (V.rowIs Bn 76 1 (fun _ => .pointer (some ⟨x.K, i * 11, none⟩))) := hB'
    have c11 := hF'.B11.cell (i := 0) (by omega)
    have c3 := hF'.B3.cell (i := 0) (by omega)
    have cC := (hF'.old he he.rC (by decide)).cell (i := 2) (by omega)
    simp only [codeF] at cC
    have cK9 := hF'.rK.cell (i := yy * 11 + 9) (by omega)
    rw [blk9] at cK9
    have hyi : (yy : Int) < (nb : Int) := by omega
    clear hF' hC' hM' hB' hlen hyy
    have hJq : ∀ g, q i = some ⟨g, 0, none⟩ → g < w0.heap.size ∧ ∃ f, w0.rowIs g 21 (p.js i).length f := fun g e => by
      rcases he.rJ i hi with ⟨e1, _⟩ | ⟨g', e1, ⟨f, hf⟩, _⟩
      · rw [e1] at e; cases e
      · rw [e1] at e
        injection e with e
        injection e with e
        subst e
        exact ⟨hf.lt, f, hf⟩
    have HJ : Hid (∀ g, q i = some ⟨g, 0, none⟩ → g < w0.heap.size ∧ ∃ f, w0.rowIs g 21 (p.js i).length f) := hJq
    clear hJq
    have HS0 : Hid (Side x w0 (q i) S Bn i d Ds V V) := Side.refl HC.out HM.out HB.out
    have HS1 : Hid (Side x w0 (q i) S Bn i d Ds V V.drew) := HS0.out.below (below_drew V) HF.out.rK.lt (fun g e => Nat.lt_of_lt_of_le (HJ.out g e).1 HF.out.fr.size)
    have HF1 : Hid (FS x p q fi la w0 s' V.drew) := HF.out.below (below_drew V)
    by_cases hsee : s'.seen yy = false
    · rw [hsee] at cK9
      gi_upto_region 20 with fail
      refine reg20 _ _ _ _ _ _ _ _ _ _ _ _ _ _ _ _ _ _ _ _ _ _ _ _ _ _ _ _ _ _ _ _ _ _ _ _ _ _ _ _ _ _ _ _ _ _ _ _ _ _ _ _ _ _ _ _ _ _ _ _ _ _ _ _ _ _ _ _ _ _ _ _ _ _ _ _ _ _ _ _ _ _ _ _ _ _ _ _ _ _ _ _ _ _ _ _ _ _ _ _ _ _ _ _ _ _ _ _ _ _ _ _ _ _ _ _ _ _ _ _ _ _ _ _ _ _ _ _ _ _ _ _ _ _ _ _ _ _ _ _ _ _ _ _ _ _ _ _ _ _ _ _ _ _ _ _ _ _ _ _ _ _ _ _ _ _ _ _ _ _ _ _ _ _ _ _ _ _ _ _ _ _ _ _ _ _ _ _ _ _ _ _ l S yy nb V false true true (fun w' => FAll x p q fi la w0 s'.stack s'.seen (upd s'.seen yy true) (upd s'.delta yy d) w' ∧ Side x w0 (q i) S Bn i d Ds V w') hyi c11 c3 cC cK9 ?_ _ (fun _ _ _ h => h) ?_
      · refine (join_first x.ST (yy * 130) S x.A d V.drew HS1.out.cp.rng (states_there HF1.out.st hyl)).mono ?_
        rintro e w' ⟨rfl, rfl⟩
        obtain ⟨⟨cst, hcst, hcsz⟩, _⟩ := HF1.out.st
        refine ⟨rfl, HF1.out.setST hyl, HS1.out.step (gb_sets x.ST _ _ _) ⟨cst, 95, (0, 0), hcst, by decide⟩ (fun e => HS1.out.cp.ne e.symm) ?_ (fun g e => ⟨Nat.lt_of_lt_of_le (HJ.out g e).1 HF1.out.fr.size, fun e2 => ?_⟩)⟩
        · refine World.cell?_of_block (a := ⟨x.K, i * 11 + 5, none⟩) ((gb_sets x.ST _ _ _).block x.K HF1.out.rK.lt (fun e => ?_))
          injection e with e
          obtain ⟨c', h2, _⟩ := HF1.out.rK
          rw [e, hcst] at h2
          injection h2 with h2
          injection h2 with _ h2
          cases h2
        · have := HF1.out.new.1
          have := (HJ.out g e).1
          omega
      · rintro z112 z113 z114 z115 z116 z117 z118 z119 z120 z121 z122 z123 z124 z125 z126 z127 w' ⟨hF5, hS5⟩
        have HF5 : Hid (FAll x p q fi la w0 s'.stack s'.seen (upd s'.seen yy true) (upd s'.delta yy d) w') := hF5
        have HS5 : Hid (Side x w0 (q i) S Bn i d Ds V w') := hS5
        clear c11 c3 cC cK9
        have c3 := hF5.B3.cell (i := 0) (by omega)
        have cC := (hF5.old he he.rC (by decide)).cell (i := 2) (by omega)
        simp only [codeF] at cC
        have cK9 := hF5.rK.cell (i := yy * 11 + 9) (by omega)
        have fK9 := hF5.rK.frozen (yy * 11 + 9)
        rw [blk9, hsee] at cK9
        clear hF5 hS5
        gi_upto_region 25 with fail
        have HF6 : Hid (FAll x p q fi la w0 s'.stack (upd s'.seen yy true) (upd s'.seen yy true) (upd s'.delta yy d) (w'.setCell ⟨x.K, yy * 11 + 9, none⟩ (.bool true))) := HF5.out.setK
        have HS6 : Hid (Side x w0 (q i) S Bn i d Ds V (w'.setCell ⟨x.K, yy * 11 + 9, none⟩ (.bool true))) := by
          obtain ⟨cK, hcK, _⟩ := HF5.out.rK
          refine HS5.out.step (gb_set w' x.K _ _) ⟨cK, 54, (0, 0), hcK, by decide⟩ (HS5.out.cp.row_ne HF5.out.rK (by decide)) ?_ (fun g e => ?_)
          · exact World.cell?_setCell_other _ _ _ _ (by intro e; injection e with _ e; omega)
          · obtain ⟨h1, f, hf⟩ := HJ.out g e
            exact ⟨Nat.lt_of_lt_of_le h1 HF5.out.fr.size, row_ne hf he.rK (by decide)⟩
        obtain ⟨W6, hW6⟩ : ∃ W6, W6 = w'.setCell ⟨x.K, yy * 11 + 9, none⟩ (.bool true) := ⟨_, rfl⟩
        rw [← hW6] at HF6 HS6 ⊢
        clear hW6 HF5 HS5 c3 cC cK9 fK9
        obtain ⟨g, cap, h12, ho⟩ := HF6.out.wk
        have c12 := h12.cell (i := 0) (by omega)
        have H12 : Hid (W6.rowIs x.b12 48 1 (fun _ => .slice (some ⟨g, 0, none⟩) s'.stack.length cap)) := h12
        have HO : Hid (W6.ownsRow w0.heap.size 21 1 (.slice (some ⟨g, 0, none⟩) s'.stack.length cap) s'.stack.length (encS s'.stack)) := ho
        obtain ⟨i0, hi0, hz0, hz1, hz2⟩ := info_parts info21
        have hlen : s'.stack.length < 65536 := by have h1 := hgs.out.cnt; have h2 := unseen_upd s'.seen yy hsee nb hyl; have h3 := he.hnb; omega
        obtain ⟨gl, cg, hcg, _⟩ := own21_at ho
        have hgn : g ≠ x.b12 := fun e => by
          obtain ⟨c', h2, _⟩ := h12
          rw [← e, hcg] at h2
          injection h2 with h2
          injection h2 with _ h2
          cases h2
        clear ho h12
        have hsz6 : w0.heap.size ≤ W6.heap.size := HF6.out.fr.size
        have h12l : x.b12 < W6.heap.size := H12.out.lt
        gi_wp2_with (gi_at_builtin; refine wpListIn_append_own _ rfl _ _ 48 rfl w0.heap.size 21 i0 (.int .i32 0) 1 4 Yba.underlying48 hi0 hz0 hz1 hz2 rfl (by decide) (.slice (some ⟨g, 0, none⟩) s'.stack.length cap) s'.stack.length (encS s'.stack) rfl (HO.out.alloc _) ⟨W6.heap.size, 0, none⟩ 1 1 [.int .i32 (yy : Int)] rfl rfl (cell_one_new _ _ _) (by simp [Value.oneCell']) (by simp [maxLen]; omega) (by omega) (by simp; omega) ?_; intro v' w1 hown' hgrow _; obtain ⟨g', cap', rfl⟩ := ownsRow_succ hown'; have k12 := row_grown (H12.out.alloc _) hgrow (fun e => hgn (by injection e with e; exact e.symm)); have kc := k12.cell (i := 0) (by omega); have kf := k12.frozen 0)
        have gr : W6.grownBy w1 (some g) := gb_trans (gb_alloc W6 _ _) hgrow
        have hown2 : w1.ownsRow w0.heap.size 21 1 (.slice (some ⟨g', 0, none⟩) (s'.stack ++ [yy]).length cap') (s'.stack ++ [yy]).length (encS (s'.stack ++ [yy])) := by
          rw [List.length_append, List.length_singleton]
          simpa [encS] using hown'
        have hF7 := HF6.out.setWork HO.out gr hown2
        rw [List.length_append, List.length_singleton] at hF7
        have hKg : x.K ≠ g := fun e => by
          obtain ⟨c', h2, _⟩ := HF6.out.rK
          rw [e, hcg] at h2
          injection h2 with h2
          injection h2 with _ h2
          cases h2
        have hKb : x.K ≠ x.b12 := row_ne HF6.out.rK H12.out (by decide)
        have hSg : g ≠ S := fun e => by
          obtain ⟨c', h2, _⟩ := HS6.out.cp.blk
          rw [← e, hcg] at h2
          injection h2 with h2
          injection h2 with _ h2
          cases h2
        have hS7 := (HS6.out.step gr ⟨cg, 21, (0, 0), hcg, by decide⟩ hSg (World.cell?_of_block (a := ⟨x.K, i * 11 + 5, none⟩) (gr.block x.K HF6.out.rK.lt (fun e => by injection e with e; exact hKg e))) (fun g2 e => ⟨Nat.lt_of_lt_of_le (HJ.out g2 e).1 hsz6, fun e2 => by have := (HJ.out g2 e).1; omega⟩)).step
          (gb_set w1 x.b12 0 (.slice (some ⟨g', 0, none⟩) (s'.stack.length + 1) cap')) (by obtain ⟨c, h1, _⟩ := k12; exact ⟨c, 48, (0, 0), h1, by decide⟩) (HS6.out.cp.row_ne H12.out (by decide))
          (World.cell?_of_block (a := ⟨x.K, i * 11 + 5, none⟩) (Below.heap_setCell _ _ _ _ hKb)) (fun g2 e => ⟨Nat.lt_of_lt_of_le (HJ.out g2 e).1 (Nat.le_trans hsz6 gr.size), fun e2 => by have := (HJ.out g2 e).1; have := HF6.out.new.2.1; omega⟩)
        have hv1 : visit1 d s' yy = ({ stack := s'.stack ++ [yy], seen := upd s'.seen yy true, delta := upd s'.delta yy d }, true) := by unfold visit1; rw [if_pos hsee]
        refine ⟨hS7.ko.from _, hS7.ks, ?_⟩
        unfold IB
        rw [hsn.out, hv1]
        exact ⟨rfl, hF7, hS7.cp, hS7.ms, hS7.bn⟩
    · have hsee : s'.seen yy = true := by simpa using hsee
      rw [hsee] at cK9
      have HR := HF1.out.st.2 yy hyl hsee
      by_cases hdl : s'.delta yy = d
      · have hv1 : Hid (visit1 d s' yy = (s', true)) := by show _ = _; unfold visit1; rw [if_neg (by rw [hsee]; decide), if_pos hdl]
        rw [hdl] at HR
        gi_upto_region 20 with fail
        refine reg20 _ _ _ _ _ _ _ _ _ _ _ _ _ _ _ _ _ _ _ _ _ _ _ _ _ _ _ _ _ _ _ _ _ _ _ _ _ _ _ _ _ _ _ _ _ _ _ _ _ _ _ _ _ _ _ _ _ _ _ _ _ _ _ _ _ _ _ _ _ _ _ _ _ _ _ _ _ _ _ _ _ _ _ _ _ _ _ _ _ _ _ _ _ _ _ _ _ _ _ _ _ _ _ _ _ _ _ _ _ _ _ _ _ _ _ _ _ _ _ _ _ _ _ _ _ _ _ _ _ _ _ _ _ _ _ _ _ _ _ _ _ _ _ _ _ _ _ _ _ _ _ _ _ _ _ _ _ _ _ _ _ _ _ _ _ _ _ _ _ _ _ _ _ _ _ _ _ _ _ _ _ _ _ _ _ _ _ _ _ _ _ _ l S yy nb V true false true (fun w' => FS x p q fi la w0 s' w' ∧ Side x w0 (q i) S Bn i d Ds V w') hyi c11 c3 cC cK9 ?_ _ (fun _ _ _ h => h) ?_
        · refine (join_again x.ST (yy * 130) S x.A d V.drew HR HS1.out.cp.rng).mono ?_
          rintro e w' ⟨rfl, hb⟩
          exact ⟨rfl, HF1.out.below hb, HS1.out.below hb HF1.out.rK.lt (fun g e => Nat.lt_of_lt_of_le (HJ.out g e).1 HF1.out.fr.size)⟩
        · rintro z112 z113 z114 z115 z116 z117 z118 z119 z120 z121 z122 z123 z124 z125 z126 z127 w' ⟨hF5, hS5⟩
          have HF5 : Hid (FS x p q fi la w0 s' w') := hF5
          have HS5 : Hid (Side x w0 (q i) S Bn i d Ds V w') := hS5
          clear c11 c3 cC cK9
          have c3 := hF5.B3.cell (i := 0) (by omega)
          have cC := (hF5.old he he.rC (by decide)).cell (i := 2) (by omega)
          simp only [codeF] at cC
          have cK9 := hF5.rK.cell (i := yy * 11 + 9) (by omega)
          rw [blk9, hsee] at cK9
          clear hF5 hS5
          gi_wp2_with fail
          refine ⟨HS5.out.ko.from _, HS5.out.ks, ?_⟩
          unfold IB
          rw [hsn.out, hv1.out]
          exact ⟨rfl, HF5.out, HS5.out.cp, HS5.out.ms, HS5.out.bn⟩
      · have hv1 : Hid (visit1 d s' yy = (s', false)) := by show _ = _; unfold visit1; rw [if_neg (by rw [hsee]; decide), if_neg hdl]
        gi_upto_region 20 with fail
        refine reg20 _ _ _ _ _ _ _ _ _ _ _ _ _ _ _ _ _ _ _ _ _ _ _ _ _ _ _ _ _ _ _ _ _ _ _ _ _ _ _ _ _ _ _ _ _ _ _ _ _ _ _ _ _ _ _ _ _ _ _ _ _ _ _ _ _ _ _ _ _ _ _ _ _ _ _ _ _ _ _ _ _ _ _ _ _ _ _ _ _ _ _ _ _ _ _ _ _ _ _ _ _ _ _ _ _ _ _ _ _ _ _ _ _ _ _ _ _ _ _ _ _ _ _ _ _ _ _ _ _ _ _ _ _ _ _ _ _ _ _ _ _ _ _ _ _ _ _ _ _ _ _ _ _ _ _ _ _ _ _ _ _ _ _ _ _ _ _ _ _ _ _ _ _ _ _ _ _ _ _ _ _ _ _ _ _ _ _ _ _ _ _ _ l S yy nb V true false false (fun w' => FS x p q fi la w0 s' w' ∧ Side x w0 (q i) S Bn i d Ds V w') hyi c11 c3 cC cK9 ?_ _ (fun _ _ _ h => h) ?_
        · refine (join_apart x.ST (yy * 130) S (s'.delta yy) d V.drew (HR 1 _ rfl) (by simpa using HS1.out.cp.rng 1 _ rfl) hdl).mono ?_
          rintro e w' ⟨rfl, m, rfl⟩
          have hb : Below V.drew.heap.size V.drew (V.drew.drewN m) := below_drewN (Below.refl _ _) m
          exact ⟨rfl, HF1.out.below hb, HS1.out.below hb HF1.out.rK.lt (fun g e => Nat.lt_of_lt_of_le (HJ.out g e).1 HF1.out.fr.size)⟩
        · rintro z112 z113 z114 z115 z116 z117 z118 z119 z120 z121 z122 z123 z124 z125 z126 z127 w' ⟨hF5, hS5⟩
          have HF5 : Hid (FS x p q fi la w0 s' w') := hF5
          have HS5 : Hid (Side x w0 (q i) S Bn i d Ds V w') := hS5
          clear c11 c3 cC cK9
          obtain ⟨f6, h6⟩ := hF5.B6
          have c6 := h6.cell (i := 0) (by omega)
          have r6 := h6.frozen 0
          clear hF5 hS5
          gi_wp2_with fail
          have h7 := HF5.out.set6 (v := .bool false)
          refine ⟨(HS5.out.ko.trans (KeepsOthers.setCell _ _ _)).from _, rfl, ?_⟩
          rw [hsn.out, hv1.out]
          exact ⟨rfl, h7.1, h7.2, HS5.out.ms.keep (gb_set _ _ _ _) (fun k e => by injection e with e; subst e; exact row_cells h6)⟩
  case done =>
    rintro D ys V hD rfl ⟨hv, hF', hC', hM', hB'⟩ hK
    exact hdone D V hv hF' (hM'.cons hDl hD hsz hK)
  case stop =>
    rintro D c pre V hD hpre ⟨rfl, hv, hF', h6, hM'⟩ hK
    refine wpIn_wide.2 ?_
    obtain ⟨rest, hrest⟩ := hpre
    have hvv : visit d s1 (p.succ i) = visit d s1 pre := by
      show visit d s1 ((p.nxo i).toList ++ p.js i) = _
      rw [← hrest]
      exact visit_stop d rest pre s1 hv
    have h1 := hret D V (by rw [hvv]; exact hv) (by rw [hvv]; exact hF') h6 (hM'.cons hDl hD hsz hK)
    go_wp2_with fail
    exact h1

end
end Go.Proofs.Ybulkfqak
