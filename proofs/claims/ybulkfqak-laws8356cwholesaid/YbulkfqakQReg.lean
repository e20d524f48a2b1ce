import Derived.Test.YbulkfqakQRun
namespace Go.Proofs.Ybulkfqak
open Go.RowKit Go.Shelf
attribute [-simp] Yba.isAgg95
attribute [local go_sem] Oper.semAt_some

def noDefer (o : Oper) : Bool := match o.op with
  | .defer _ => false
  | _ => true
theorem oper_round {P : Program} {n l : Nat} {o : Oper} {a : Act} {w : World} {K : Act → World → Prop} {Q : Exit → Act → World → Prop} (h : noDefer o = true) (hh : o.wpIn Fence.wide n P a w K Q) : o.wpIn (Fence.wide.inRound l) n P a w K Q := by
  refine ⟨hh.1, ?_⟩
  have e : o.semAt (Fence.wide.inRound l).round a.eval = o.semAt Fence.wide.round a.eval := by
    rw [Oper.semAt_eq _ _ _ (fun c hc => by simp [noDefer, hc] at h), Oper.semAt_eq _ _ _ (fun c hc => by simp [noDefer, hc] at h)]
  rw [e]
  exact hh.2
theorem any_round {P : Program} {n l : Nat} {md : Region.Mode} {ops : Array Oper} {Q : Exit → Act → World → Prop} (hnd : ∀ (i : Nat) (o : Oper), ops[i]? = some o → noDefer o = true) : ∀ (fuel : Nat) (listed : Array Bool) (a : Act) (w : World), wpAnyIn Fence.wide n P md ops Q fuel listed a w → wpAnyIn (Fence.wide.inRound l) n P md ops Q fuel listed a w
  | 0, _, _, _, h => h
  | fuel + 1, listed, a, w, h => by
    refine ⟨h.1, fun i hi => ?_⟩
    have := h.2 i hi
    unfold wpOpIn at this ⊢
    cases ho : ops[i]? with
    | none =>
      simp only [ho] at this ⊢
      exact any_round hnd _ _ _ _ this
    | some o =>
      simp only [ho] at this ⊢
      split
      · rename_i hw
        rw [if_pos hw] at this
        exact Oper.wpIn_mono (fun a w => any_round hnd _ _ a w) (oper_round (hnd i o ho) this)
      · rename_i hw
        rw [if_neg hw] at this
        exact ⟨this.1, any_round hnd _ _ _ _ this.2⟩
theorem no_defers {ops : Array Oper} (h : ops.toList.all noDefer = true) (i : Nat) (o : Oper) (ho : ops[i]? = some o) : noDefer o = true := by
  rw [List.all_eq_true] at h
  exact h o (by rw [← Array.getElem?_toList] at ho; exact List.mem_of_getElem? ho)

def regionOf (k : Nat) : Code → Option Code
  | .region id ops d => if id = k then some (.region id ops d) else none
  | .loop c => regionOf k c
  | .seq a b => match regionOf k a with
    | some c => some c
    | none => regionOf k b
  | .block _ c => regionOf k c
  | .scope c => regionOf k c
  | .cond _ a b => match regionOf k a with
    | some c => some c
    | none => regionOf k b
  | .rangeFunc _ _ a b => match regionOf k a with
    | some c => some c
    | none => regionOf k b
  | _ => none
noncomputable def rn20 : Code := (Yba.f11.body.bind (regionOf 20)).getD .skip

set_option maxRecDepth 1000000 in
set_option maxHeartbeats 4000000 in
theorem reg20 {x : Cx} (c0 c1 c2 c4 c5 c7 c8 c9 c13 c18 c19 c20 c21 c22 c23 c24 c25 c26 c27 c28 c29 c30 c31 c32 c33 c34 c35 c36 c37 c38 c39 c40 c41 c42 c43 c44 c45 c46 c47 c48 c49 c50 c51 c52 c53 c54 c55 c56 c57 c58 c59 c60 c61 c62 c63 c64 c65 c66 c67 c68 c69 c70 c71 c72 c73 c74 c75 c76 c77 c78 c79 c80 c81 c82 c83 c84 c85 c86 c87 c88 c89 c90 c91 c92 c93 c94 c95 c96 c97 c98 c99 c100 c101 c102 c103 c104 c105 c106 c107 c108 c109 c153 c154 c155 c156 c157 c158 c159 c160 c161 c162 c163 c164 c165 c166 c167 c168 c169 c170 c171 c172 c173 c174 c175 c176 c177 c178 c179 c180 c181 c182 c183 c184 c185 c186 c187 c188 c189 c190 c191 c192 c193 c194 c195 c196 c197 c198 c10 c110 : Value) (u16 u17 u112 u113 u114 u115 u116 u117 u118 u119 u120 u121 u122 u123 u124 u125 u126 u127 u128 u129 u130 u131 u132 u133 u134 u135 u136 u137 u138 u139 u140 u141 u142 u143 u144 u145 u146 u147 u148 u149 u150 u151 u152 : Value) (l S yy nb : Nat) (V : World) (b r1 r2 : Bool) (R : World → Prop) (hyi : (yy : Int) < (nb : Int))
    (c11 : V.cell? ⟨x.b11, 0, none⟩ = some (.slice (some ⟨x.ST, 0, none⟩) nb nb)) (c3 : V.cell? ⟨x.b3, 0, none⟩ = some (.pointer (some ⟨x.C, 0, none⟩))) (cC : V.cell? ⟨x.C, 2, none⟩ = some (.slice (some ⟨x.K, 0, none⟩) nb nb))
    (cK9 : V.cell? ⟨x.K, yy * 11 + 9, none⟩ = some (.bool b))
    (hcall : Calls Yba.prog 18 #[.pointer (some ⟨x.ST, yy * 130, none⟩), .pointer (some ⟨S, 0, none⟩), .bool (!b)] V.drew fun e w' => e = .returned (.tuple #[.bool r1, .bool r2]) ∧ R w')
    (Q : Exit → Act → World → Prop) (hQp : ∀ c a w, ¬ Q (.panic c) a w) (hQ : ∀ (z112 z113 z114 z115 z116 z117 z118 z119 z120 z121 z122 z123 z124 z125 z126 z127 : Value) (w' : World), R w' → Q .normal ⟨#[c0, c1, c2, .pointer (some ⟨x.b3, 0, none⟩), c4, c5, .pointer (some ⟨x.b6, 0, none⟩), c7, c8, c9, c10, .pointer (some ⟨x.b11, 0, none⟩), .pointer (some ⟨x.b12, 0, none⟩), c13, .pointer (some ⟨S, 0, none⟩), .int .i32 ((yy : Nat) : Int), .bool r1, .bool r2, c18, c19, c20, c21, c22, c23, c24, c25, c26, c27, c28, c29, c30, c31, c32, c33, c34, c35, c36, c37, c38, c39, c40, c41, c42, c43, c44, c45, c46, c47, c48, c49, c50, c51, c52, c53, c54, c55, c56, c57, c58, c59, c60, c61, c62, c63, c64, c65, c66, c67, c68, c69, c70, c71, c72, c73, c74, c75, c76, c77, c78, c79, c80, c81, c82, c83, c84, c85, c86, c87, c88, c89, c90, c91, c92, c93, c94, c95, c96, c97, c98, c99, c100, c101, c102, c103, c104, c105, c106, c107, c108, c109, c110, .int .i32 ((yy : Nat) : Int), z112, z113, z114, z115, z116, z117, z118, z119, z120, z121, z122, z123, z124, z125, z126, z127, u128, u129, u130, u131, u132, u133, u134, u135, u136, u137, u138, u139, u140, u141, u142, u143, u144, u145, u146, u147, u148, u149, u150, u151, u152, c153, c154, c155, c156, c157, c158, c159, c160, c161, c162, c163, c164, c165, c166, c167, c168, c169, c170, c171, c172, c173, c174, c175, c176, c177, c178, c179, c180, c181, c182, c183, c184, c185, c186, c187, c188, c189, c190, c191, c192, c193, c194, c195, c196, c197, c198], []⟩ w') :
    rn20.wpIn (Fence.wide.inRound l) (3 - 1 - 1) Yba.prog Q ⟨#[c0, c1, c2, .pointer (some ⟨x.b3, 0, none⟩), c4, c5, .pointer (some ⟨x.b6, 0, none⟩), c7, c8, c9, c10, .pointer (some ⟨x.b11, 0, none⟩), .pointer (some ⟨x.b12, 0, none⟩), c13, .pointer (some ⟨S, 0, none⟩), .int .i32 ((yy : Nat) : Int), u16, u17, c18, c19, c20, c21, c22, c23, c24, c25, c26, c27, c28, c29, c30, c31, c32, c33, c34, c35, c36, c37, c38, c39, c40, c41, c42, c43, c44, c45, c46, c47, c48, c49, c50, c51, c52, c53, c54, c55, c56, c57, c58, c59, c60, c61, c62, c63, c64, c65, c66, c67, c68, c69, c70, c71, c72, c73, c74, c75, c76, c77, c78, c79, c80, c81, c82, c83, c84, c85, c86, c87, c88, c89, c90, c91, c92, c93, c94, c95, c96, c97, c98, c99, c100, c101, c102, c103, c104, c105, c106, c107, c108, c109, c110, .int .i32 ((yy : Nat) : Int), u112, u113, u114, u115, u116, u117, u118, u119, u120, u121, u122, u123, u124, u125, u126, u127, u128, u129, u130, u131, u132, u133, u134, u135, u136, u137, u138, u139, u140, u141, u142, u143, u144, u145, u146, u147, u148, u149, u150, u151, u152, c153, c154, c155, c156, c157, c158, c159, c160, c161, c162, c163, c164, c165, c166, c167, c168, c169, c170, c171, c172, c173, c174, c175, c176, c177, c178, c179, c180, c181, c182, c183, c184, c185, c186, c187, c188, c189, c190, c191, c192, c193, c194, c195, c196, c197, c198], []⟩ V := by
  conv => arg 4; whnf
  have hmx : Yba.prog.follows .mixedOrders = true := by kernel_rfl
  refine wpIn_region_any hmx ?_
  refine any_round (no_defers (by kernel_rfl)) _ _ _ _ ?_
  change wpAnyIn _ _ _ _ _ _ _ _ _ (World.drew _)
  refine wpAnyIn_take (i := 1) (v := ?_) rfl rfl (by kernel_rfl) (by kernel_rfl) (by kernel_rfl) (fun _ _ _ h => (hQp _ _ _ h).elim) ⟨Or.inl ⟨by rfl, ?_⟩, fun _ => rfl⟩ ?_
  rotate_left
  · intro w
    go_simp
    try with_reducible rfl
  refine wpAnyIn_take (i := 7) (v := ?_) rfl rfl (by kernel_rfl) (by kernel_rfl) (by kernel_rfl) (fun _ _ _ h => (hQp _ _ _ h).elim) ⟨Or.inl ⟨by rfl, ?_⟩, fun _ => rfl⟩ ?_
  rotate_left
  · intro w
    go_simp
    try with_reducible rfl
  refine wpAnyIn_ready (rs := [0, 3]) (by kernel_rfl) (by simp) ?_
  refine AllReadyIn.cons rfl (fun K hK => ?_) ?_
  · go_simp
    refine hK _ _ ?_
    clear hK K
    refine wpAnyIn_take (i := 2) (v := ?_) rfl rfl (by kernel_rfl) (by kernel_rfl) (by kernel_rfl) (fun _ _ _ h => (hQp _ _ _ h).elim) ⟨Or.inl ⟨by rfl, ?_⟩, fun _ => rfl⟩ ?_
    rotate_left
    · intro w
      go_simp
      try with_reducible rfl
    refine wpAnyIn_ready (rs := [3]) (by kernel_rfl) (by simp) ?_
    refine AllReadyIn.cons rfl (fun K hK => ?_) ?_
    · go_simp
      refine hK _ _ ?_
      clear hK K
      refine wpAnyIn_take (i := 4) (v := ?_) rfl rfl (by kernel_rfl) (by kernel_rfl) (by kernel_rfl) (fun _ _ _ h => (hQp _ _ _ h).elim) ⟨Or.inl ⟨by rfl, ?_⟩, fun _ => rfl⟩ ?_
      rotate_left
      · intro w
        go_simp
        try with_reducible rfl
      refine wpAnyIn_take (i := 5) (v := ?_) rfl rfl (by kernel_rfl) (by kernel_rfl) (by kernel_rfl) (fun _ _ _ h => (hQp _ _ _ h).elim) ⟨Or.inl ⟨by rfl, ?_⟩, fun _ => rfl⟩ ?_
      rotate_left
      · intro w
        go_simp
        try with_reducible rfl
      refine wpAnyIn_ready (rs := [6]) (by kernel_rfl) (by simp) ?_
      refine AllReadyIn.cons rfl (fun K hK => ?_) ?_
      · go_simp
        refine hK _ _ ?_
        clear hK K
        refine wpAnyIn_take (i := 8) (v := ?_) rfl rfl (by kernel_rfl) (by kernel_rfl) (by kernel_rfl) (fun _ _ _ h => (hQp _ _ _ h).elim) ⟨Or.inl ⟨by rfl, ?_⟩, fun _ => rfl⟩ ?_
        rotate_left
        · intro w
          go_simp
          try with_reducible rfl
        refine wpAnyIn_take (i := 9) (v := ?_) rfl rfl (by kernel_rfl) (by kernel_rfl) (by kernel_rfl) (fun _ _ _ h => (hQp _ _ _ h).elim) ⟨Or.inl ⟨by rfl, ?_⟩, fun _ => rfl⟩ ?_
        rotate_left
        · intro w
          go_simp
          try with_reducible rfl
        refine wpAnyIn_ready (rs := [10]) (by kernel_rfl) (by simp) ?_
        refine AllReadyIn.cons rfl (fun K hK => ?_) ?_
        · go_simp
          refine hK _ _ ?_
          clear hK K
          refine wpAnyIn_take (i := 11) (v := ?_) rfl rfl (by kernel_rfl) (by kernel_rfl) (by kernel_rfl) (fun _ _ _ h => (hQp _ _ _ h).elim) ⟨Or.inl ⟨by rfl, ?_⟩, fun _ => rfl⟩ ?_
          rotate_left
          · intro w
            go_simp
            try with_reducible rfl
          refine wpAnyIn_ready (rs := [12]) (by kernel_rfl) (by simp) ?_
          refine AllReadyIn.cons rfl (fun K hK => ?_) ?_
          · go_simp
            refine ⟨trivial, (callsIn_wide.2 hcall).mono ?_⟩
            rintro e w1 ⟨rfl, hR⟩
            go_simp
            refine hK _ _ ?_
            clear hK K
            refine wpAnyIn_take (i := 13) (v := ?_) rfl rfl (by kernel_rfl) (by kernel_rfl) (by kernel_rfl) (fun _ _ _ h => (hQp _ _ _ h).elim) ⟨Or.inl ⟨by rfl, ?_⟩, fun _ => rfl⟩ ?_
            rotate_left
            · intro w
              go_simp
              try with_reducible rfl
            refine wpAnyIn_take (i := 14) (v := ?_) rfl rfl (by kernel_rfl) (by kernel_rfl) (by kernel_rfl) (fun _ _ _ h => (hQp _ _ _ h).elim) ⟨Or.inl ⟨by rfl, ?_⟩, fun _ => rfl⟩ ?_
            rotate_left
            · intro w
              go_simp
              try with_reducible rfl
            refine wpAnyIn_take (i := 15) (v := ?_) rfl rfl (by kernel_rfl) (by kernel_rfl) (by kernel_rfl) (fun _ _ _ h => (hQp _ _ _ h).elim) ⟨Or.inl ⟨by rfl, ?_⟩, fun _ => rfl⟩ ?_
            rotate_left
            · intro w
              go_simp
              try with_reducible rfl
            refine wpAnyIn_take (i := 16) (v := ?_) rfl rfl (by kernel_rfl) (by kernel_rfl) (by kernel_rfl) (fun _ _ _ h => (hQp _ _ _ h).elim) ⟨Or.inl ⟨by rfl, ?_⟩, fun _ => rfl⟩ ?_
            rotate_left
            · intro w
              go_simp
              try with_reducible rfl
            refine wpAnyIn_take (i := 17) (v := ?_) rfl rfl (by kernel_rfl) (by kernel_rfl) (by kernel_rfl) (fun _ _ _ h => (hQp _ _ _ h).elim) ⟨Or.inl ⟨by rfl, ?_⟩, fun _ => rfl⟩ ?_
            rotate_left
            · intro w
              go_simp
              try with_reducible rfl
            refine wpAnyIn_done (by kernel_rfl) ?_ _
            go_simp
            exact hQ _ _ _ _ _ _ _ _ _ _ _ _ _ _ _ _ _ hR
          exact AllReadyIn.nil
        exact AllReadyIn.nil
      exact AllReadyIn.nil
    exact AllReadyIn.nil
  refine AllReadyIn.cons rfl (fun K hK => ?_) ?_
  · go_simp
    refine hK _ _ ?_
    clear hK K
    refine wpAnyIn_take (i := 4) (v := ?_) rfl rfl (by kernel_rfl) (by kernel_rfl) (by kernel_rfl) (fun _ _ _ h => (hQp _ _ _ h).elim) ⟨Or.inl ⟨by rfl, ?_⟩, fun _ => rfl⟩ ?_
    rotate_left
    · intro w
      go_simp
      try with_reducible rfl
    refine wpAnyIn_take (i := 5) (v := ?_) rfl rfl (by kernel_rfl) (by kernel_rfl) (by kernel_rfl) (fun _ _ _ h => (hQp _ _ _ h).elim) ⟨Or.inl ⟨by rfl, ?_⟩, fun _ => rfl⟩ ?_
    rotate_left
    · intro w
      go_simp
      try with_reducible rfl
    refine wpAnyIn_ready (rs := [0, 6]) (by kernel_rfl) (by simp) ?_
    refine AllReadyIn.cons rfl (fun K hK => ?_) ?_
    · go_simp
      refine hK _ _ ?_
      clear hK K
      refine wpAnyIn_take (i := 2) (v := ?_) rfl rfl (by kernel_rfl) (by kernel_rfl) (by kernel_rfl) (fun _ _ _ h => (hQp _ _ _ h).elim) ⟨Or.inl ⟨by rfl, ?_⟩, fun _ => rfl⟩ ?_
      rotate_left
      · intro w
        go_simp
        try with_reducible rfl
      refine wpAnyIn_ready (rs := [6]) (by kernel_rfl) (by simp) ?_
      refine AllReadyIn.cons rfl (fun K hK => ?_) ?_
      · go_simp
        refine hK _ _ ?_
        clear hK K
        refine wpAnyIn_take (i := 8) (v := ?_) rfl rfl (by kernel_rfl) (by kernel_rfl) (by kernel_rfl) (fun _ _ _ h => (hQp _ _ _ h).elim) ⟨Or.inl ⟨by rfl, ?_⟩, fun _ => rfl⟩ ?_
        rotate_left
        · intro w
          go_simp
          try with_reducible rfl
        refine wpAnyIn_take (i := 9) (v := ?_) rfl rfl (by kernel_rfl) (by kernel_rfl) (by kernel_rfl) (fun _ _ _ h => (hQp _ _ _ h).elim) ⟨Or.inl ⟨by rfl, ?_⟩, fun _ => rfl⟩ ?_
        rotate_left
        · intro w
          go_simp
          try with_reducible rfl
        refine wpAnyIn_ready (rs := [10]) (by kernel_rfl) (by simp) ?_
        refine AllReadyIn.cons rfl (fun K hK => ?_) ?_
        · go_simp
          refine hK _ _ ?_
          clear hK K
          refine wpAnyIn_take (i := 11) (v := ?_) rfl rfl (by kernel_rfl) (by kernel_rfl) (by kernel_rfl) (fun _ _ _ h => (hQp _ _ _ h).elim) ⟨Or.inl ⟨by rfl, ?_⟩, fun _ => rfl⟩ ?_
          rotate_left
          · intro w
            go_simp
            try with_reducible rfl
          refine wpAnyIn_ready (rs := [12]) (by kernel_rfl) (by simp) ?_
          refine AllReadyIn.cons rfl (fun K hK => ?_) ?_
          · go_simp
            refine ⟨trivial, (callsIn_wide.2 hcall).mono ?_⟩
            rintro e w1 ⟨rfl, hR⟩
            go_simp
            refine hK _ _ ?_
            clear hK K
            refine wpAnyIn_take (i := 13) (v := ?_) rfl rfl (by kernel_rfl) (by kernel_rfl) (by kernel_rfl) (fun _ _ _ h => (hQp _ _ _ h).elim) ⟨Or.inl ⟨by rfl, ?_⟩, fun _ => rfl⟩ ?_
            rotate_left
            · intro w
              go_simp
              try with_reducible rfl
            refine wpAnyIn_take (i := 14) (v := ?_) rfl rfl (by kernel_rfl) (by kernel_rfl) (by kernel_rfl) (fun _ _ _ h => (hQp _ _ _ h).elim) ⟨Or.inl ⟨by rfl, ?_⟩, fun _ => rfl⟩ ?_
            rotate_left
            · intro w
              go_simp
              try with_reducible rfl
            refine wpAnyIn_take (i := 15) (v := ?_) rfl rfl (by kernel_rfl) (by kernel_rfl) (by kernel_rfl) (fun _ _ _ h => (hQp _ _ _ h).elim) ⟨Or.inl ⟨by rfl, ?_⟩, fun _ => rfl⟩ ?_
            rotate_left
            · intro w
              go_simp
              try with_reducible rfl
            refine wpAnyIn_take (i := 16) (v := ?_) rfl rfl (by kernel_rfl) (by kernel_rfl) (by kernel_rfl) (fun _ _ _ h => (hQp _ _ _ h).elim) ⟨Or.inl ⟨by rfl, ?_⟩, fun _ => rfl⟩ ?_
            rotate_left
            · intro w
              go_simp
              try with_reducible rfl
            refine wpAnyIn_take (i := 17) (v := ?_) rfl rfl (by kernel_rfl) (by kernel_rfl) (by kernel_rfl) (fun _ _ _ h => (hQp _ _ _ h).elim) ⟨Or.inl ⟨by rfl, ?_⟩, fun _ => rfl⟩ ?_
            rotate_left
            · intro w
              go_simp
              try with_reducible rfl
            refine wpAnyIn_done (by kernel_rfl) ?_ _
            go_simp
            exact hQ _ _ _ _ _ _ _ _ _ _ _ _ _ _ _ _ _ hR
          exact AllReadyIn.nil
        exact AllReadyIn.nil
      exact AllReadyIn.nil
    refine AllReadyIn.cons rfl (fun K hK => ?_) ?_
    · go_simp
      refine hK _ _ ?_
      clear hK K
      refine wpAnyIn_take (i := 8) (v := ?_) rfl rfl (by kernel_rfl) (by kernel_rfl) (by kernel_rfl) (fun _ _ _ h => (hQp _ _ _ h).elim) ⟨Or.inl ⟨by rfl, ?_⟩, fun _ => rfl⟩ ?_
      rotate_left
      · intro w
        go_simp
        try with_reducible rfl
      refine wpAnyIn_take (i := 9) (v := ?_) rfl rfl (by kernel_rfl) (by kernel_rfl) (by kernel_rfl) (fun _ _ _ h => (hQp _ _ _ h).elim) ⟨Or.inl ⟨by rfl, ?_⟩, fun _ => rfl⟩ ?_
      rotate_left
      · intro w
        go_simp
        try with_reducible rfl
      refine wpAnyIn_ready (rs := [0, 10]) (by kernel_rfl) (by simp) ?_
      refine AllReadyIn.cons rfl (fun K hK => ?_) ?_
      · go_simp
        refine hK _ _ ?_
        clear hK K
        refine wpAnyIn_take (i := 2) (v := ?_) rfl rfl (by kernel_rfl) (by kernel_rfl) (by kernel_rfl) (fun _ _ _ h => (hQp _ _ _ h).elim) ⟨Or.inl ⟨by rfl, ?_⟩, fun _ => rfl⟩ ?_
        rotate_left
        · intro w
          go_simp
          try with_reducible rfl
        refine wpAnyIn_ready (rs := [10]) (by kernel_rfl) (by simp) ?_
        refine AllReadyIn.cons rfl (fun K hK => ?_) ?_
        · go_simp
          refine hK _ _ ?_
          clear hK K
          refine wpAnyIn_take (i := 11) (v := ?_) rfl rfl (by kernel_rfl) (by kernel_rfl) (by kernel_rfl) (fun _ _ _ h => (hQp _ _ _ h).elim) ⟨Or.inl ⟨by rfl, ?_⟩, fun _ => rfl⟩ ?_
          rotate_left
          · intro w
            go_simp
            try with_reducible rfl
          refine wpAnyIn_ready (rs := [12]) (by kernel_rfl) (by simp) ?_
          refine AllReadyIn.cons rfl (fun K hK => ?_) ?_
          · go_simp
            refine ⟨trivial, (callsIn_wide.2 hcall).mono ?_⟩
            rintro e w1 ⟨rfl, hR⟩
            go_simp
            refine hK _ _ ?_
            clear hK K
            refine wpAnyIn_take (i := 13) (v := ?_) rfl rfl (by kernel_rfl) (by kernel_rfl) (by kernel_rfl) (fun _ _ _ h => (hQp _ _ _ h).elim) ⟨Or.inl ⟨by rfl, ?_⟩, fun _ => rfl⟩ ?_
            rotate_left
            · intro w
              go_simp
              try with_reducible rfl
            refine wpAnyIn_take (i := 14) (v := ?_) rfl rfl (by kernel_rfl) (by kernel_rfl) (by kernel_rfl) (fun _ _ _ h => (hQp _ _ _ h).elim) ⟨Or.inl ⟨by rfl, ?_⟩, fun _ => rfl⟩ ?_
            rotate_left
            · intro w
              go_simp
              try with_reducible rfl
            refine wpAnyIn_take (i := 15) (v := ?_) rfl rfl (by kernel_rfl) (by kernel_rfl) (by kernel_rfl) (fun _ _ _ h => (hQp _ _ _ h).elim) ⟨Or.inl ⟨by rfl, ?_⟩, fun _ => rfl⟩ ?_
            rotate_left
            · intro w
              go_simp
              try with_reducible rfl
            refine wpAnyIn_take (i := 16) (v := ?_) rfl rfl (by kernel_rfl) (by kernel_rfl) (by kernel_rfl) (fun _ _ _ h => (hQp _ _ _ h).elim) ⟨Or.inl ⟨by rfl, ?_⟩, fun _ => rfl⟩ ?_
            rotate_left
            · intro w
              go_simp
              try with_reducible rfl
            refine wpAnyIn_take (i := 17) (v := ?_) rfl rfl (by kernel_rfl) (by kernel_rfl) (by kernel_rfl) (fun _ _ _ h => (hQp _ _ _ h).elim) ⟨Or.inl ⟨by rfl, ?_⟩, fun _ => rfl⟩ ?_
            rotate_left
            · intro w
              go_simp
              try with_reducible rfl
            refine wpAnyIn_done (by kernel_rfl) ?_ _
            go_simp
            exact hQ _ _ _ _ _ _ _ _ _ _ _ _ _ _ _ _ _ hR
          exact AllReadyIn.nil
        exact AllReadyIn.nil
      refine AllReadyIn.cons rfl (fun K hK => ?_) ?_
      · go_simp
        refine hK _ _ ?_
        clear hK K
        refine wpAnyIn_take (i := 11) (v := ?_) rfl rfl (by kernel_rfl) (by kernel_rfl) (by kernel_rfl) (fun _ _ _ h => (hQp _ _ _ h).elim) ⟨Or.inl ⟨by rfl, ?_⟩, fun _ => rfl⟩ ?_
        rotate_left
        · intro w
          go_simp
          try with_reducible rfl
        refine wpAnyIn_ready (rs := [0]) (by kernel_rfl) (by simp) ?_
        refine AllReadyIn.cons rfl (fun K hK => ?_) ?_
        · go_simp
          refine hK _ _ ?_
          clear hK K
          refine wpAnyIn_take (i := 2) (v := ?_) rfl rfl (by kernel_rfl) (by kernel_rfl) (by kernel_rfl) (fun _ _ _ h => (hQp _ _ _ h).elim) ⟨Or.inl ⟨by rfl, ?_⟩, fun _ => rfl⟩ ?_
          rotate_left
          · intro w
            go_simp
            try with_reducible rfl
          refine wpAnyIn_ready (rs := [12]) (by kernel_rfl) (by simp) ?_
          refine AllReadyIn.cons rfl (fun K hK => ?_) ?_
          · go_simp
            refine ⟨trivial, (callsIn_wide.2 hcall).mono ?_⟩
            rintro e w1 ⟨rfl, hR⟩
            go_simp
            refine hK _ _ ?_
            clear hK K
            refine wpAnyIn_take (i := 13) (v := ?_) rfl rfl (by kernel_rfl) (by kernel_rfl) (by kernel_rfl) (fun _ _ _ h => (hQp _ _ _ h).elim) ⟨Or.inl ⟨by rfl, ?_⟩, fun _ => rfl⟩ ?_
            rotate_left
            · intro w
              go_simp
              try with_reducible rfl
            refine wpAnyIn_take (i := 14) (v := ?_) rfl rfl (by kernel_rfl) (by kernel_rfl) (by kernel_rfl) (fun _ _ _ h => (hQp _ _ _ h).elim) ⟨Or.inl ⟨by rfl, ?_⟩, fun _ => rfl⟩ ?_
            rotate_left
            · intro w
              go_simp
              try with_reducible rfl
            refine wpAnyIn_take (i := 15) (v := ?_) rfl rfl (by kernel_rfl) (by kernel_rfl) (by kernel_rfl) (fun _ _ _ h => (hQp _ _ _ h).elim) ⟨Or.inl ⟨by rfl, ?_⟩, fun _ => rfl⟩ ?_
            rotate_left
            · intro w
              go_simp
              try with_reducible rfl
            refine wpAnyIn_take (i := 16) (v := ?_) rfl rfl (by kernel_rfl) (by kernel_rfl) (by kernel_rfl) (fun _ _ _ h => (hQp _ _ _ h).elim) ⟨Or.inl ⟨by rfl, ?_⟩, fun _ => rfl⟩ ?_
            rotate_left
            · intro w
              go_simp
              try with_reducible rfl
            refine wpAnyIn_take (i := 17) (v := ?_) rfl rfl (by kernel_rfl) (by kernel_rfl) (by kernel_rfl) (fun _ _ _ h => (hQp _ _ _ h).elim) ⟨Or.inl ⟨by rfl, ?_⟩, fun _ => rfl⟩ ?_
            rotate_left
            · intro w
              go_simp
              try with_reducible rfl
            refine wpAnyIn_done (by kernel_rfl) ?_ _
            go_simp
            exact hQ _ _ _ _ _ _ _ _ _ _ _ _ _ _ _ _ _ hR
          exact AllReadyIn.nil
        exact AllReadyIn.nil
      exact AllReadyIn.nil
    exact AllReadyIn.nil
  exact AllReadyIn.nil
end Go.Proofs.Ybulkfqak
