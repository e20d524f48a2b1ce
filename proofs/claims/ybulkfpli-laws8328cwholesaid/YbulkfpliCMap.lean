import Derived.Test.YbulkfpliCPlain
import Derived.Deep.DeepCutAuto
import Derived.Deep.CutBlock
import Derived.Deep.RegionWith
namespace Go.Proofs.Ybulkfpli
open Go.RowKit Go.WideMaps Go.Maps

set_option maxRecDepth 100000 in
set_option maxHeartbeats 4000000 in
theorem main_map (head log slug part rev v : ByteArray) (u uv : Value) (ks vs : List ByteArray) (sel : Int) (w : World) (hn : ks.length ≤ 4096)
    (hu : StrSl w u ks) (hv : StrSl w uv vs) (hl : vs.length < 9000000000000) (hks : ∀ i, (valAt ks i).size ≤ maxLen) (hvv : ∀ i, (valAt vs i).size ≤ maxLen)
    (hs0 : 0 ≤ sel) (hs1 : sel ≤ 255) (hrev : rev.size ≤ maxLen) (hvs : v.size ≤ maxLen) :
    Calls Yba.prog 3 #[.string head, .string log, .bool false, u, uv, .string slug, .int .u8 sel, .string part, .string rev, .string v] w
      fun e w' => e = .returned (.bool true) ∧ Below w.heap.size w w' := by
  have hu0 := hu
  obtain ⟨a, cap, rfl, hu⟩ := hu
  go_enter Yba.func3, Yba.ntmps3
  go_upto_block 0 with fail
  go_cut [21] (fun s wx => (∃ p : ByteArray, s = .string p) ∧ wx = w)
  case first =>
    go_wp2
    all_goals (go_meet; case rel => exact ⟨⟨_, rfl⟩, rfl⟩)
  case rest =>
    obtain ⟨⟨p, rfl⟩, rfl⟩ := hcut
    have hme : ∀ (w : World) (r : Option Nat), (binOp .eql 24 (.map r) (.map none)).run Yba.prog w = .ok (.bool r.isNone) w := fun w r => run_eql_map_nil w _ _ _ r Yba.underlying24
    have hmm := @run_makeMap Yba.prog
    go_wp2
    go_loopw [72] (fun i wr => ∃ k : Nat, k ≤ ks.length ∧ i = .int .i64 k ∧ Blk wr wc.heap.size #[.string head, .string log, .map (some (wc.heap.size + 1))] 26
        ∧ wr.ownsMap Yba.prog 9 (plainElem Yba.prog 9) (wc.heap.size + 1) k (dTo ks vs k) ∧ Below wc.heap.size wc wr) (fun i _ => ks.length - (intOf i).toNat)
    case atStart =>
      refine ⟨0, Nat.zero_le _, rfl, (Blk.new _ _ _).alloc _, ?_, ((Below.refl _ _).alloc (Nat.le_refl _) _).alloc (by simp) _⟩
      have := World.ownsMap_made (wc.alloc (.cells #[.string head, .string log, .map (some (wc.heap.size + 1))] 26)) Yba.prog 9 (plainElem (H := Unit) Yba.prog 9)
      simpa [dTo] using this
    case round =>
      obtain ⟨k, hk, rfl, hB, hown, hbl⟩ := hrel
      have HB : Hid _ := hB
      have HO : Hid (wr.ownsMap Yba.prog 9 (plainElem Yba.prog 9) (wc.heap.size + 1) k (dTo ks vs k)) := hown
      have HL : Hid _ := hbl
      have c2 := hB.cell 2
      simp at c2
      by_cases hlt : k < ks.length
      · obtain ⟨bk, off, rfl, hbk, hck⟩ := hu (by omega)
        have hc1 := (hbl.cell (p := ⟨bk, off + k, none⟩) hbk).trans (hck k hlt)
        have hvr : StrSl wr.drew uv vs := hv.below hbl.drew
        obtain ⟨w2, hrun, hown2, hturn⟩ := (hown.drew).store law Yba.underlying24 (by unfold maxLen; omega) (keyOf_string_mk Yba.underlying9 (hks k)) (plainElem_string Yba.underlying9 (hvv k))
        have hgr := grown_drew hturn.grown
        have HB2 : Hid (Blk w2 wc.heap.size #[.string head, .string log, .map (some (wc.heap.size + 1))] 26) := hB.grown hgr (by simp)
        have HL2 : Hid (Below wc.heap.size wc w2) := hbl.grown hgr (by have := hbl.size; omega) (by intro j e; cases e; omega)
        have HO2 : Hid (w2.ownsMap Yba.prog 9 (plainElem Yba.prog 9) (wc.heap.size + 1) (k + 1) (dTo ks vs (k + 1))) := hown2
        have hcv := cval_any uv vs k wr.drew (by omega) hvr hl
        clear hB hown hbl hck hown2 hturn hgr
        generalize valAt ks k = s at *
        generalize valAt vs k = t at *
        go_wp2_with fail
        go_region_with (go_at_call 4; refine hcv.mono ?_; rintro e w' ⟨rfl, rfl⟩)
        all_goals
          go_wp2
          go_roundw
          case rel => exact ⟨k + 1, by omega, by go_num, HB2, HO2, HL2⟩
          case measure => simp [intOf]; omega
      · have : k = ks.length := by omega
        subst this
        clear hB hown hbl hmm
        by_cases hp1 : p = ⟨#[104, 101, 97, 100]⟩
        · subst hp1
          go_wp2_with fail
          refine (set_head_b _ _ _ _ _ _ _ _ HB).mono ?_
          rintro e w' ⟨rfl, hb', hg'⟩
          have HF : Below wc.heap.size wc w' := Below.grown HL hg' (Below.size HL) (by intro k e; cases e; exact Nat.le_refl _)
          have hown' : w'.ownsMap Yba.prog 9 (plainElem Yba.prog 9) (wc.heap.size + 1) ks.length (dFin false ks vs ks.length rev v) := World.ownsMap.kept HO hg' (by simp)
          have c0 := hb'.cell 0
          have c1 := hb'.cell 1
          have c2' := hb'.cell 2
          simp at c0 c1 c2'
          have hlen := fun ty => hown'.len Yba.underlying24 ty
          rw [size_dFin] at hlen
          have hdl := distTo_le ks ks.length
          have hub := hu0.below HF
          have hvb := hv.below HF
          have hkl : Hid (∀ s, Calls Yba.prog 6 #[.slice a ks.length cap, uv, .string s] w' fun e w'' => e = .returned (.string (lastTo ks vs s ks.length)) ∧ w'' = w') := fun s => clast_any _ uv ks vs s w' hn hub hvb hl
          have hlk : Hid (∀ i, i < ks.length → (Instr.lookup 24 (.map (some (wc.heap.size + 1))) (.string (valAt ks i)) true).run Yba.prog w' = .ok (.tuple #[.string (if false = true ∧ valAt ks i = rev then v else lastTo ks vs (valAt ks i) ks.length), .bool true]) w') :=
            fun i hi => look w' _ _ _ _ _ hown' (hks i) (has_dFin false ks vs _ i rev v hi) (fun z => at_dFin false ks vs _ i rev v z hi)
          have HLEN : Hid _ := hlen
          clear hb' hg' hown' hub hvb hlen
          go_wp2_with fail
          go_loop [31, 32, 140] (fun d r i => ∃ k : Nat, k ≤ ks.length ∧ i = .int .i64 k ∧ d = .int .i64 (distTo ks k : Nat) ∧ r = .bool (seenTo ks rev k)) (fun _ _ i => ks.length - (intOf i).toNat)
          case atStart => exact ⟨0, Nat.zero_le _, rfl, rfl, rfl⟩
          case round =>
            obtain ⟨k, hk, rfl, rfl, rfl⟩ := hrel
            by_cases hlt : k < ks.length
            · obtain ⟨bk, off, rfl, hbk, hck⟩ := hu (by omega)
              have HCK : Hid (∀ j, j < ks.length → w'.cell? ⟨bk, off + j, none⟩ = some (.string (valAt ks j))) := fun j hj => (Below.cell HF (p := ⟨bk, off + j, none⟩) hbk).trans (hck j hj)
              have hc1 := HCK.out k hlt
              have hdk := distTo_le ks k
              have hd1 : Hid (distTo ks (k + 1) = distTo ks k + if seenTo ks (valAt ks k) k then 0 else 1) := (rfl : _ = _)
              have hse : Hid (seenTo ks rev (k + 1) = (seenTo ks rev k || decide (valAt ks k = rev))) := (rfl : _ = _)
              clear hck
              generalize valAt ks k = s at *
              by_cases hsr : s = rev
              · have hsr' := hsr.symm
                subst hsr'
                go_wp2_with fail
                go_loop [35, 36] (fun f j => ∃ q : Nat, q ≤ k ∧ j = .int .i64 q ∧ f = .bool true ∧ Hid (seenTo ks rev q = false)) (fun _ j => k - (intOf j).toNat)
                case atStart => exact ⟨0, Nat.zero_le _, rfl, rfl, (rfl : _ = _)⟩
                case round =>
                  obtain ⟨q, hq, rfl, rfl, hsq⟩ := hrel
                  by_cases hqk : q < k
                  · have hc2 := HCK.out q (by omega)
                    have hss : Hid (seenTo ks rev (q + 1) = (seenTo ks rev q || decide (valAt ks q = rev))) := (rfl : _ = _)
                    generalize valAt ks q = t at *
                    by_cases hts : t = rev
                    · have hsk : Hid (seenTo ks rev k = true) := by
                        have := seenTo_mono ks rev (q + 1) (k - (q + 1)) (by rw [hss.out, hts]; simp)
                        rwa [show q + 1 + (k - (q + 1)) = k by omega] at this
                      have hts' := hts.symm
                      subst hts'
                      go_wp2_with fail
                      go_round
                      case rel => exact ⟨k + 1, by omega, by go_num, by rw [hd1.out, if_pos hsk.out, Nat.add_zero], by rw [hse.out]; simp⟩
                      case measure => simp [intOf]; omega
                    · have hne := str_ne hts
                      go_wp2_with fail
                      go_round
                      case rel => exact ⟨q + 1, by omega, by go_num, rfl, (by rw [hss.out, hsq.out]; simp [hts] : seenTo ks rev (q + 1) = false)⟩
                      case measure => simp [intOf]; omega
                  · have : q = k := by omega
                    subst this
                    go_wp2_with fail
                    go_round
                    case rel => exact ⟨q + 1, by omega, by go_num, by rw [hd1.out, hsq.out]; go_num, by rw [hse.out]; simp⟩
                    case measure => simp [intOf]; omega
              · have hnr := str_ne hsr
                go_wp2_with fail
                go_loop [35, 36] (fun f j => ∃ q : Nat, q ≤ k ∧ j = .int .i64 q ∧ f = .bool true ∧ Hid (seenTo ks s q = false)) (fun _ j => k - (intOf j).toNat)
                case atStart => exact ⟨0, Nat.zero_le _, rfl, rfl, (rfl : _ = _)⟩
                case round =>
                  obtain ⟨q, hq, rfl, rfl, hsq⟩ := hrel
                  by_cases hqk : q < k
                  · have hc2 := HCK.out q (by omega)
                    have hss : Hid (seenTo ks s (q + 1) = (seenTo ks s q || decide (valAt ks q = s))) := (rfl : _ = _)
                    generalize valAt ks q = t at *
                    by_cases hts : t = s
                    · have hsk : Hid (seenTo ks s k = true) := by
                        have := seenTo_mono ks s (q + 1) (k - (q + 1)) (by rw [hss.out, hts]; simp)
                        rwa [show q + 1 + (k - (q + 1)) = k by omega] at this
                      have hts' := hts.symm
                      subst hts'
                      go_wp2_with fail
                      go_round
                      case rel => exact ⟨k + 1, by omega, by go_num, by rw [hd1.out, if_pos hsk.out, Nat.add_zero], by rw [hse.out]; simp [hsr]⟩
                      case measure => simp [intOf]; omega
                    · have hne := str_ne hts
                      go_wp2_with fail
                      go_round
                      case rel => exact ⟨q + 1, by omega, by go_num, rfl, (by rw [hss.out, hsq.out]; simp [hts] : seenTo ks s (q + 1) = false)⟩
                      case measure => simp [intOf]; omega
                  · have : q = k := by omega
                    subst this
                    go_wp2_with fail
                    go_round
                    case rel => exact ⟨q + 1, by omega, by go_num, by rw [hd1.out, hsq.out]; go_num, by rw [hse.out]; simp [hsr]⟩
                    case measure => simp [intOf]; omega
            · have : k = ks.length := by omega
              subst this
              have hlen1 := HLEN.out
              simp only [Bool.false_and, Bool.false_eq_true, if_false, Nat.add_zero] at hlen1
              generalize distTo ks ks.length = d at *
              go_wp2_with fail
              go_loop [180] (fun i => ∃ k : Nat, k ≤ ks.length ∧ i = .int .i64 k) (fun i => ks.length - (intOf i).toNat)
              case atStart => exact ⟨0, Nat.zero_le _, rfl⟩
              case round =>
                obtain ⟨k, hk, rfl⟩ := hrel
                by_cases hlt : k < ks.length
                · obtain ⟨bk, off, rfl, hbk, hck⟩ := hu (by omega)
                  have hc1 := (Below.cell HF (p := ⟨bk, off + k, none⟩) hbk).trans (hck k hlt)
                  have hlk1 := hlk.out k hlt
                  clear hck
                  generalize valAt ks k = s at *
                  simp at hlk1
                  go_wp2_with (go_at_call 6; refine (hkl.out _).mono ?_; rintro e w1 ⟨rfl, rfl⟩)
                  go_round
                  case rel => exact ⟨k + 1, by omega, by go_num⟩
                  case measure => simp [intOf]; omega
                · have : k = ks.length := by omega
                  subst this
                  go_wp2_with fail
                  go_ret
                  exact ⟨rfl, HF⟩
        · by_cases hp2 : p = ⟨#[108, 111, 103]⟩
          · subst hp2
            go_wp2_with fail
            refine (set_log_b _ _ _ _ _ _ _ _ HB).mono ?_
            rintro e w' ⟨rfl, hb', hg'⟩
            have HF : Below wc.heap.size wc w' := Below.grown HL hg' (Below.size HL) (by intro k e; cases e; exact Nat.le_refl _)
            have hown' : w'.ownsMap Yba.prog 9 (plainElem Yba.prog 9) (wc.heap.size + 1) ks.length (dFin false ks vs ks.length rev v) := World.ownsMap.kept HO hg' (by simp)
            have c0 := hb'.cell 0
            have c1 := hb'.cell 1
            have c2' := hb'.cell 2
            simp at c0 c1 c2'
            have hlen := fun ty => hown'.len Yba.underlying24 ty
            rw [size_dFin] at hlen
            have hdl := distTo_le ks ks.length
            have hub := hu0.below HF
            have hvb := hv.below HF
            have hkl : Hid (∀ s, Calls Yba.prog 6 #[.slice a ks.length cap, uv, .string s] w' fun e w'' => e = .returned (.string (lastTo ks vs s ks.length)) ∧ w'' = w') := fun s => clast_any _ uv ks vs s w' hn hub hvb hl
            have hlk : Hid (∀ i, i < ks.length → (Instr.lookup 24 (.map (some (wc.heap.size + 1))) (.string (valAt ks i)) true).run Yba.prog w' = .ok (.tuple #[.string (if false = true ∧ valAt ks i = rev then v else lastTo ks vs (valAt ks i) ks.length), .bool true]) w') :=
              fun i hi => look w' _ _ _ _ _ hown' (hks i) (has_dFin false ks vs _ i rev v hi) (fun z => at_dFin false ks vs _ i rev v z hi)
            have HLEN : Hid _ := hlen
            clear hb' hg' hown' hub hvb hlen
            go_wp2_with fail
            go_loop [31, 32, 140] (fun d r i => ∃ k : Nat, k ≤ ks.length ∧ i = .int .i64 k ∧ d = .int .i64 (distTo ks k : Nat) ∧ r = .bool (seenTo ks rev k)) (fun _ _ i => ks.length - (intOf i).toNat)
            case atStart => exact ⟨0, Nat.zero_le _, rfl, rfl, rfl⟩
            case round =>
              obtain ⟨k, hk, rfl, rfl, rfl⟩ := hrel
              by_cases hlt : k < ks.length
              · obtain ⟨bk, off, rfl, hbk, hck⟩ := hu (by omega)
                have HCK : Hid (∀ j, j < ks.length → w'.cell? ⟨bk, off + j, none⟩ = some (.string (valAt ks j))) := fun j hj => (Below.cell HF (p := ⟨bk, off + j, none⟩) hbk).trans (hck j hj)
                have hc1 := HCK.out k hlt
                have hdk := distTo_le ks k
                have hd1 : Hid (distTo ks (k + 1) = distTo ks k + if seenTo ks (valAt ks k) k then 0 else 1) := (rfl : _ = _)
                have hse : Hid (seenTo ks rev (k + 1) = (seenTo ks rev k || decide (valAt ks k = rev))) := (rfl : _ = _)
                clear hck
                generalize valAt ks k = s at *
                by_cases hsr : s = rev
                · have hsr' := hsr.symm
                  subst hsr'
                  go_wp2_with fail
                  go_loop [35, 36] (fun f j => ∃ q : Nat, q ≤ k ∧ j = .int .i64 q ∧ f = .bool true ∧ Hid (seenTo ks rev q = false)) (fun _ j => k - (intOf j).toNat)
                  case atStart => exact ⟨0, Nat.zero_le _, rfl, rfl, (rfl : _ = _)⟩
                  case round =>
                    obtain ⟨q, hq, rfl, rfl, hsq⟩ := hrel
                    by_cases hqk : q < k
                    · have hc2 := HCK.out q (by omega)
                      have hss : Hid (seenTo ks rev (q + 1) = (seenTo ks rev q || decide (valAt ks q = rev))) := (rfl : _ = _)
                      generalize valAt ks q = t at *
                      by_cases hts : t = rev
                      · have hsk : Hid (seenTo ks rev k = true) := by
                          have := seenTo_mono ks rev (q + 1) (k - (q + 1)) (by rw [hss.out, hts]; simp)
                          rwa [show q + 1 + (k - (q + 1)) = k by omega] at this
                        have hts' := hts.symm
                        subst hts'
                        go_wp2_with fail
                        go_round
                        case rel => exact ⟨k + 1, by omega, by go_num, by rw [hd1.out, if_pos hsk.out, Nat.add_zero], by rw [hse.out]; simp⟩
                        case measure => simp [intOf]; omega
                      · have hne := str_ne hts
                        go_wp2_with fail
                        go_round
                        case rel => exact ⟨q + 1, by omega, by go_num, rfl, (by rw [hss.out, hsq.out]; simp [hts] : seenTo ks rev (q + 1) = false)⟩
                        case measure => simp [intOf]; omega
                    · have : q = k := by omega
                      subst this
                      go_wp2_with fail
                      go_round
                      case rel => exact ⟨q + 1, by omega, by go_num, by rw [hd1.out, hsq.out]; go_num, by rw [hse.out]; simp⟩
                      case measure => simp [intOf]; omega
                · have hnr := str_ne hsr
                  go_wp2_with fail
                  go_loop [35, 36] (fun f j => ∃ q : Nat, q ≤ k ∧ j = .int .i64 q ∧ f = .bool true ∧ Hid (seenTo ks s q = false)) (fun _ j => k - (intOf j).toNat)
                  case atStart => exact ⟨0, Nat.zero_le _, rfl, rfl, (rfl : _ = _)⟩
                  case round =>
                    obtain ⟨q, hq, rfl, rfl, hsq⟩ := hrel
                    by_cases hqk : q < k
                    · have hc2 := HCK.out q (by omega)
                      have hss : Hid (seenTo ks s (q + 1) = (seenTo ks s q || decide (valAt ks q = s))) := (rfl : _ = _)
                      generalize valAt ks q = t at *
                      by_cases hts : t = s
                      · have hsk : Hid (seenTo ks s k = true) := by
                          have := seenTo_mono ks s (q + 1) (k - (q + 1)) (by rw [hss.out, hts]; simp)
                          rwa [show q + 1 + (k - (q + 1)) = k by omega] at this
                        have hts' := hts.symm
                        subst hts'
                        go_wp2_with fail
                        go_round
                        case rel => exact ⟨k + 1, by omega, by go_num, by rw [hd1.out, if_pos hsk.out, Nat.add_zero], by rw [hse.out]; simp [hsr]⟩
                        case measure => simp [intOf]; omega
                      · have hne := str_ne hts
                        go_wp2_with fail
                        go_round
                        case rel => exact ⟨q + 1, by omega, by go_num, rfl, (by rw [hss.out, hsq.out]; simp [hts] : seenTo ks s (q + 1) = false)⟩
                        case measure => simp [intOf]; omega
                    · have : q = k := by omega
                      subst this
                      go_wp2_with fail
                      go_round
                      case rel => exact ⟨q + 1, by omega, by go_num, by rw [hd1.out, hsq.out]; go_num, by rw [hse.out]; simp [hsr]⟩
                      case measure => simp [intOf]; omega
              · have : k = ks.length := by omega
                subst this
                have hlen1 := HLEN.out
                simp only [Bool.false_and, Bool.false_eq_true, if_false, Nat.add_zero] at hlen1
                generalize distTo ks ks.length = d at *
                go_wp2_with fail
                go_loop [180] (fun i => ∃ k : Nat, k ≤ ks.length ∧ i = .int .i64 k) (fun i => ks.length - (intOf i).toNat)
                case atStart => exact ⟨0, Nat.zero_le _, rfl⟩
                case round =>
                  obtain ⟨k, hk, rfl⟩ := hrel
                  by_cases hlt : k < ks.length
                  · obtain ⟨bk, off, rfl, hbk, hck⟩ := hu (by omega)
                    have hc1 := (Below.cell HF (p := ⟨bk, off + k, none⟩) hbk).trans (hck k hlt)
                    have hlk1 := hlk.out k hlt
                    clear hck
                    generalize valAt ks k = s at *
                    simp at hlk1
                    go_wp2_with (go_at_call 6; refine (hkl.out _).mono ?_; rintro e w1 ⟨rfl, rfl⟩)
                    go_round
                    case rel => exact ⟨k + 1, by omega, by go_num⟩
                    case measure => simp [intOf]; omega
                  · have : k = ks.length := by omega
                    subst this
                    go_wp2_with fail
                    go_ret
                    exact ⟨rfl, HF⟩
          · go_wp2_with fail
            refine (set_map _ _ _ _ _ _ _ _ _ _ _ HB (by omega) HO (by unfold maxLen; omega) hrev hvs hp1 hp2).mono ?_
            rintro e w' ⟨rfl, hb', hown0, hg'⟩
            have HF : Below wc.heap.size wc w' := Below.grown HL hg' (Below.size HL) (by intro k e; cases e; omega)
            have hown' : w'.ownsMap Yba.prog 9 (plainElem Yba.prog 9) (wc.heap.size + 1) (ks.length + 1) (dFin true ks vs ks.length rev v) := hown0
            clear hown0
            have c0 := hb'.cell 0
            have c1 := hb'.cell 1
            have c2' := hb'.cell 2
            simp at c0 c1 c2'
            have hlen := fun ty => hown'.len Yba.underlying24 ty
            rw [size_dFin] at hlen
            have hdl := distTo_le ks ks.length
            have hub := hu0.below HF
            have hvb := hv.below HF
            have hkl : Hid (∀ s, Calls Yba.prog 6 #[.slice a ks.length cap, uv, .string s] w' fun e w'' => e = .returned (.string (lastTo ks vs s ks.length)) ∧ w'' = w') := fun s => clast_any _ uv ks vs s w' hn hub hvb hl
            have hlk : Hid (∀ i, i < ks.length → (Instr.lookup 24 (.map (some (wc.heap.size + 1))) (.string (valAt ks i)) true).run Yba.prog w' = .ok (.tuple #[.string (if true = true ∧ valAt ks i = rev then v else lastTo ks vs (valAt ks i) ks.length), .bool true]) w') :=
              fun i hi => look w' _ _ _ _ _ hown' (hks i) (has_dFin true ks vs _ i rev v hi) (fun z => at_dFin true ks vs _ i rev v z hi)
            have hlr : Hid ((Instr.lookup 24 (.map (some (wc.heap.size + 1))) (.string rev) true).run Yba.prog w' = .ok (.tuple #[.string v, .bool true]) w') :=
              look w' _ _ _ rev v hown' hrev (has_put_same (dTo_tidy ks vs _).isMap (kOf_key rev) _) (fun z => atKey_put_same (dTo_tidy ks vs _).isMap (kOf_key rev) (dOf v) z)
            have hn1 : (p.toList == [104, 101, 97, 100]) = false := str_ne_lit _ hp1
            have hn2 : (p.toList == [108, 111, 103]) = false := str_ne_lit _ hp2
            have HLEN : Hid _ := hlen
            clear hb' hg' hown' hub hvb hlen
            go_wp2_with fail
            go_loop [31, 32, 140] (fun d r i => ∃ k : Nat, k ≤ ks.length ∧ i = .int .i64 k ∧ d = .int .i64 (distTo ks k : Nat) ∧ r = .bool (seenTo ks rev k)) (fun _ _ i => ks.length - (intOf i).toNat)
            case atStart => exact ⟨0, Nat.zero_le _, rfl, rfl, rfl⟩
            case round =>
              obtain ⟨k, hk, rfl, rfl, rfl⟩ := hrel
              by_cases hlt : k < ks.length
              · obtain ⟨bk, off, rfl, hbk, hck⟩ := hu (by omega)
                have HCK : Hid (∀ j, j < ks.length → w'.cell? ⟨bk, off + j, none⟩ = some (.string (valAt ks j))) := fun j hj => (Below.cell HF (p := ⟨bk, off + j, none⟩) hbk).trans (hck j hj)
                have hc1 := HCK.out k hlt
                have hdk := distTo_le ks k
                have hd1 : Hid (distTo ks (k + 1) = distTo ks k + if seenTo ks (valAt ks k) k then 0 else 1) := (rfl : _ = _)
                have hse : Hid (seenTo ks rev (k + 1) = (seenTo ks rev k || decide (valAt ks k = rev))) := (rfl : _ = _)
                clear hck
                generalize valAt ks k = s at *
                by_cases hsr : s = rev
                · have hsr' := hsr.symm
                  subst hsr'
                  go_wp2_with fail
                  go_loop [35, 36] (fun f j => ∃ q : Nat, q ≤ k ∧ j = .int .i64 q ∧ f = .bool true ∧ Hid (seenTo ks rev q = false)) (fun _ j => k - (intOf j).toNat)
                  case atStart => exact ⟨0, Nat.zero_le _, rfl, rfl, (rfl : _ = _)⟩
                  case round =>
                    obtain ⟨q, hq, rfl, rfl, hsq⟩ := hrel
                    by_cases hqk : q < k
                    · have hc2 := HCK.out q (by omega)
                      have hss : Hid (seenTo ks rev (q + 1) = (seenTo ks rev q || decide (valAt ks q = rev))) := (rfl : _ = _)
                      generalize valAt ks q = t at *
                      by_cases hts : t = rev
                      · have hsk : Hid (seenTo ks rev k = true) := by
                          have := seenTo_mono ks rev (q + 1) (k - (q + 1)) (by rw [hss.out, hts]; simp)
                          rwa [show q + 1 + (k - (q + 1)) = k by omega] at this
                        have hts' := hts.symm
                        subst hts'
                        go_wp2_with fail
                        go_round
                        case rel => exact ⟨k + 1, by omega, by go_num, by rw [hd1.out, if_pos hsk.out, Nat.add_zero], by rw [hse.out]; simp⟩
                        case measure => simp [intOf]; omega
                      · have hne := str_ne hts
                        go_wp2_with fail
                        go_round
                        case rel => exact ⟨q + 1, by omega, by go_num, rfl, (by rw [hss.out, hsq.out]; simp [hts] : seenTo ks rev (q + 1) = false)⟩
                        case measure => simp [intOf]; omega
                    · have : q = k := by omega
                      subst this
                      go_wp2_with fail
                      go_round
                      case rel => exact ⟨q + 1, by omega, by go_num, by rw [hd1.out, hsq.out]; go_num, by rw [hse.out]; simp⟩
                      case measure => simp [intOf]; omega
                · have hnr := str_ne hsr
                  go_wp2_with fail
                  go_loop [35, 36] (fun f j => ∃ q : Nat, q ≤ k ∧ j = .int .i64 q ∧ f = .bool true ∧ Hid (seenTo ks s q = false)) (fun _ j => k - (intOf j).toNat)
                  case atStart => exact ⟨0, Nat.zero_le _, rfl, rfl, (rfl : _ = _)⟩
                  case round =>
                    obtain ⟨q, hq, rfl, rfl, hsq⟩ := hrel
                    by_cases hqk : q < k
                    · have hc2 := HCK.out q (by omega)
                      have hss : Hid (seenTo ks s (q + 1) = (seenTo ks s q || decide (valAt ks q = s))) := (rfl : _ = _)
                      generalize valAt ks q = t at *
                      by_cases hts : t = s
                      · have hsk : Hid (seenTo ks s k = true) := by
                          have := seenTo_mono ks s (q + 1) (k - (q + 1)) (by rw [hss.out, hts]; simp)
                          rwa [show q + 1 + (k - (q + 1)) = k by omega] at this
                        have hts' := hts.symm
                        subst hts'
                        go_wp2_with fail
                        go_round
                        case rel => exact ⟨k + 1, by omega, by go_num, by rw [hd1.out, if_pos hsk.out, Nat.add_zero], by rw [hse.out]; simp [hsr]⟩
                        case measure => simp [intOf]; omega
                      · have hne := str_ne hts
                        go_wp2_with fail
                        go_round
                        case rel => exact ⟨q + 1, by omega, by go_num, rfl, (by rw [hss.out, hsq.out]; simp [hts] : seenTo ks s (q + 1) = false)⟩
                        case measure => simp [intOf]; omega
                    · have : q = k := by omega
                      subst this
                      go_wp2_with fail
                      go_round
                      case rel => exact ⟨q + 1, by omega, by go_num, by rw [hd1.out, hsq.out]; go_num, by rw [hse.out]; simp [hsr]⟩
                      case measure => simp [intOf]; omega
              · have : k = ks.length := by omega
                subst this
                have hlen1 := HLEN.out
                cases hsn : seenTo ks rev ks.length
                · simp only [hsn, Bool.true_and, Bool.not_false, if_true, Int.natCast_add, Int.natCast_one] at hlen1
                  generalize distTo ks ks.length = d at *
                  go_wp2_with fail
                  go_loop [180] (fun i => ∃ k : Nat, k ≤ ks.length ∧ i = .int .i64 k) (fun i => ks.length - (intOf i).toNat)
                  case atStart => exact ⟨0, Nat.zero_le _, rfl⟩
                  case round =>
                    obtain ⟨k, hk, rfl⟩ := hrel
                    by_cases hlt : k < ks.length
                    · obtain ⟨bk, off, rfl, hbk, hck⟩ := hu (by omega)
                      have hc1 := (Below.cell HF (p := ⟨bk, off + k, none⟩) hbk).trans (hck k hlt)
                      have hlk1 := hlk.out k hlt
                      clear hck
                      generalize valAt ks k = s at *
                      by_cases hsr : s = rev
                      · have hsr' := hsr.symm
                        subst hsr'
                        simp at hlk1
                        go_wp2_with (go_at_call 6; refine (hkl.out _).mono ?_; rintro e w1 ⟨rfl, rfl⟩)
                        go_round
                        case rel => exact ⟨k + 1, by omega, by go_num⟩
                        case measure => simp [intOf]; omega
                      · have hnr := str_ne hsr
                        simp [hsr] at hlk1
                        go_wp2_with (go_at_call 6; refine (hkl.out _).mono ?_; rintro e w1 ⟨rfl, rfl⟩)
                        go_round
                        case rel => exact ⟨k + 1, by omega, by go_num⟩
                        case measure => simp [intOf]; omega
                    · have : k = ks.length := by omega
                      subst this
                      have hlr1 := hlr.out
                      go_wp2_with fail
                      go_ret
                      exact ⟨rfl, HF⟩
                · simp only [hsn, Bool.true_and, Bool.not_true, Bool.false_eq_true, if_false, Nat.add_zero] at hlen1
                  generalize distTo ks ks.length = d at *
                  go_wp2_with fail
                  go_loop [180] (fun i => ∃ k : Nat, k ≤ ks.length ∧ i = .int .i64 k) (fun i => ks.length - (intOf i).toNat)
                  case atStart => exact ⟨0, Nat.zero_le _, rfl⟩
                  case round =>
                    obtain ⟨k, hk, rfl⟩ := hrel
                    by_cases hlt : k < ks.length
                    · obtain ⟨bk, off, rfl, hbk, hck⟩ := hu (by omega)
                      have hc1 := (Below.cell HF (p := ⟨bk, off + k, none⟩) hbk).trans (hck k hlt)
                      have hlk1 := hlk.out k hlt
                      clear hck
                      generalize valAt ks k = s at *
                      by_cases hsr : s = rev
                      · have hsr' := hsr.symm
                        subst hsr'
                        simp at hlk1
                        go_wp2_with (go_at_call 6; refine (hkl.out _).mono ?_; rintro e w1 ⟨rfl, rfl⟩)
                        go_round
                        case rel => exact ⟨k + 1, by omega, by go_num⟩
                        case measure => simp [intOf]; omega
                      · have hnr := str_ne hsr
                        simp [hsr] at hlk1
                        go_wp2_with (go_at_call 6; refine (hkl.out _).mono ?_; rintro e w1 ⟨rfl, rfl⟩)
                        go_round
                        case rel => exact ⟨k + 1, by omega, by go_num⟩
                        case measure => simp [intOf]; omega
                    · have : k = ks.length := by omega
                      subst this
                      have hlr1 := hlr.out
                      go_wp2_with fail
                      go_ret
                      exact ⟨rfl, HF⟩
end Go.Proofs.Ybulkfpli
