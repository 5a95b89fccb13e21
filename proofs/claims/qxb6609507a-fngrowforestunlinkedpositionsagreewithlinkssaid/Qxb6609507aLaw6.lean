import Derived.Test.Qxb6609507aLaw6C
import Derived.Test.Qxb6609507aBuild3
namespace Go.Proofs.Qxb6609507a
set_option linter.unusedVariables false
set_option linter.unusedSimpArgs false
open Go.ChangeShapes Go.WideShapes Go.ChangeAt Go.RowKit
set_option maxRecDepth 100000 in
set_option maxHeartbeats 4000000 in
theorem law6 (a0 a1 a2 a3 : Int) (a : Option Addr) (ts : List Int) (cap : Nat) (w : World) (hin : TopsIn w a ts) (hlen : ts.length ≤ 9223372036854775807) :
    Calls Try.prog 6 #[.int .i64 a0, .int .i64 a1, .int .i64 a2, .int .i64 a3, .slice a ts.length cap] w fun e w' => e = .returned (.bool true) ∧ Below w.heap.size w w' := by
  have hby := hide (bytes24 a0 a1 a2 a3 a ts.length cap hlen w)
  by_cases h1 : ts.length ≤ 65536
  · have h2 : decide (ts.length ≤ 1048576) = true := by simp; omega
    rw [h2] at hby
    have htopo := hide (topo8 a0 a1 a2 a3 a ts cap w hin h1)
    replace hin := hide hin
    go_enter Try.func6, Try.ntmps6
    go_wp2_with (first
      | (go_at_call 24
         refine hby.out.mono ?_
         rintro e w1 ⟨rfl, hw⟩
         obtain rfl := hw.symm)
      | (go_at_call 8
         refine htopo.out.mono ?_
         rintro e w1 ⟨hbel1, ca, cb, ok, hca, hcb, hoa, hob, rfl, hok⟩
         replace hok := hide hok
         cases ok)
      | ((with_reducible refine gd_store 24 (.tmp 11) (.tmp 46) ?_)
         refine wpl_store rfl ca rfl size24 hca _ ((blk_new' w1 _ _ _ rfl).al _) (by simp) hoa ?_
         intro w2 hb2 hg2
         have hb2' : Blk w2 (w1.heap.size + 1) [.int .i64 0, .int .i64 0, .int .i64 0, .int .i64 0, .int .i64 0, .int .i64 0] 25 := (blk_new' _ _ _ _ (by simp)).upd (Upd.ofGrown (bs := [w1.heap.size]) hg2 (by intro b e; cases e; simp)) (by simp))
      | ((with_reducible refine gd_store 25 (.tmp 12) (.tmp 47) ?_)
         refine wpl_store rfl cb rfl size25 hcb _ hb2' (by simp) hob ?_
         intro w3 hb3 hg3))
    · have hbel3 : Below w.heap.size w w3 := ((((hbel1.alloc hbel1.size _).alloc (by have := hbel1.size; simp; omega) _).grown hg2 (by have := hbel1.size; simp; omega) (by intro k e; cases e; exact hbel1.size)).grown hg3 (by have := hbel1.size; have := hg2.size; simp at *; omega) (by intro k e; cases e; have := hbel1.size; omega))
      go_ret
      exact ⟨rfl, hbel3⟩
    · have hbel3 : Below w.heap.size w w3 := ((((hbel1.alloc hbel1.size _).alloc (by have := hbel1.size; simp; omega) _).grown hg2 (by have := hbel1.size; simp; omega) (by intro k e; cases e; exact hbel1.size)).grown hg3 (by have := hbel1.size; have := hg2.size; simp at *; omega) (by intro k e; cases e; have := hbel1.size; omega))
      have hB24 : Blk w3 w1.heap.size ca 24 := by
        have h := hb2.upd (Upd.ofGrown (bs := [w1.heap.size + 1]) hg3 (by intro b e; cases e; simp)) (by simp)
        rw [List.take_zero, List.nil_append, List.drop_eq_nil_of_le (by simp), List.append_nil] at h; exact h
      have hB25 : Blk w3 (w1.heap.size + 1) cb 25 := by
        rw [List.take_zero, List.nil_append, List.drop_eq_nil_of_le (by simp), List.append_nil] at hb3; exact hb3
      obtain ⟨T, tl, hT, rfl, rfl, rfl, rfl, rfl, hTl, rfl, rfl⟩ := hok.out trivial
      clear hok hb2 hb3 hb2' hg2 hg3 hoa hob hca hcb hby htopo h2
      simp only [List.length_map] at h1 hlen ⊢
      obtain ⟨tB, htB⟩ : ∃ tB, tB = w1.heap.size := ⟨_, rfl⟩
      rw [← htB] at hB24 hB25
      rw [← htB]
      clear htB hbel1
      replace hbel3 := hide hbel3; replace hB24 := hide hB24; replace hB25 := hide hB25
      go_loopw [14] (fun iv wi => ∃ k : Nat, iv = .int .i64 ((k : Int) + 1) ∧ (k + 1 ≤ tl.length ∨ (k = 0 ∧ tl.length = 0)) ∧ Hid (∀ m (h : m + 1 < tl.length), m < k → tl[m + 1] ≤ tl[m]) ∧ Hid (Upd [] w3 wi)) (fun iv _ => tl.length - (intOf iv).toNat)
      case atStart => exact ⟨0, rfl, by omega, fun m h hm => by omega, Upd.refl _ _⟩
      case round =>
        obtain ⟨k, rfl, hk, hso, hU⟩ := hrel
        by_cases hkt : k + 1 < tl.length
        · obtain ⟨b, o, rfl, hc1, hbl, _, _⟩ := hin.out (k + 1) (by simpa using hkt)
          obtain ⟨b', o', hbo, hc0, hbl', _, _⟩ := hin.out k (by simp; omega)
          simp only [Option.some.injEq, Addr.mk.injEq, and_true] at hbo
          obtain ⟨rfl, rfl⟩ := hbo
          have hbw : Below w.heap.size w wr := hbel3.out.trans (hU.out.below _ (by simp) hbel3.out.size)
          have hx1 : wr.cell? ⟨b, o + (k + 1), none⟩ = some (.int .i8 (tl[k + 1] : Nat)) := by rw [hbw.cell (p := ⟨b, o + (k + 1), none⟩) hbl, hc1]; simp
          have hx0 : wr.cell? ⟨b, o + k, none⟩ = some (.int .i8 (tl[k] : Nat)) := by rw [hbw.cell (p := ⟨b, o + k, none⟩) hbl', hc0]; simp
          replace hbw := hide hbw
          clear hc1 hc0
          by_cases hgt : tl[k] < tl[k + 1]
          · have hg' : decide ((tl[k] : Int) < (tl[k + 1] : Int)) = true := by simp; omega
            replace hgt := hide hgt
            go_wp2_with (fail)
            go_big_quiet (fail)
            go_wp2_with (fail)
            go_ret
            exact ⟨rfl, hbw.out.trans ((Upd.drewN [] wr nq).below _ (by simp) hbw.out.size)⟩
          · have hg' : decide ((tl[k] : Int) < (tl[k + 1] : Int)) = false := by simp; omega
            replace hgt := hide hgt
            go_wp2_with (fail)
            go_big_quiet (fail)
            go_wp2_with (fail)
            go_roundw
            case rel =>
              refine ⟨k + 1, by simp, by omega, fun m h hm => ?_, hU.out.trans (Upd.drewN _ _ _)⟩
              by_cases hmk : m = k
              · subst hmk; have := hgt.out; omega
              · exact hso.out m h (by omega)
            case measure => simp [intOf]; omega
        · have hd : Desc tl := fun i h => hso.out i h (by omega)
          have hbw : Below w.heap.size w wr := hbel3.out.trans (hU.out.below _ (by simp) hbel3.out.size)
          have hinr := hide (hin.out.below hbw)
          have hlm : (tl.map (fun t : Nat => (t : Int))).length = tl.length := by simp
          have hcall9 := hide (build_any T hT tl hTl h1 a cap wr hinr.out)
          replace hB24 := hide (hB24.out.upd hU.out (by simp))
          replace hB25 := hide (hB25.out.upd hU.out (by simp))
          clear hso hU hbel3
          replace hbw := hide hbw; replace hd := hide hd; replace hT := hide hT; replace hTl := hide hTl; replace hlm := hide hlm
          go_wp2_with (first
            | ((with_reducible refine gd_load 24 (.tmp 11) ?_)
               refine wpl_load rfl agg24 size24 T.szV rfl (blkCells hB24.out) ?_)
            | ((with_reducible refine gd_load 25 (.tmp 12) ?_)
               refine wpl_load rfl agg25 size25 T.fanV rfl (blkCells hB25.out) ?_)
            | (go_at_call 9
               refine hcall9.out.mono ?_
               rintro e w4 ⟨V, rfl, hV, hbel4⟩)
            | ((with_reducible refine gd_store 33 (.tmp 15) (.tmp 70) ?_)
               refine wpl_store rfl (T.szV ++ T.fanV ++ (List.range 25).map V) rfl size33 (len36 T V) _ (blk_new' w4 _ _ _ rfl) (by simp) (vals_one T V hV) ?_
               intro w5 hb5 hg5)
            | (go_at_call 11
               first
                 | (refine (topo_any T w5).mono ?_
                    rintro e w6 ⟨rfl, hbel6⟩
                    have hin6 : TopsIn w6 a (tl.map (fun t : Nat => (t : Int))) := hin.out.below (down6 hbw.out hbel4 hg5 hbel6)
                    have hcall12 := levels_any a (tl.map (fun t : Nat => (t : Int))) cap w6 hin6 (by rw [hlm.out]; exact h1)
                    rw [hlm.out] at hcall12))
            | (go_at_call 12
               first
                 | (refine hcall12.mono ?_
                    rintro e w7 ⟨rfl, hbl7, hbel7⟩
                    have hcall10 := grow10 T hT.out tl hTl.out h1 false w6.heap.size w7 (by rw [List.map_map] at hbl7; exact hbl7)))
            | (go_at_call 10
               first
                 | (refine hcall10.mono ?_
                    rintro e w8 ⟨rfl, hG8, hbel8⟩)))
          have hdn6 : Below w.heap.size w w6 := down6 hbw.out hbel4 hg5 hbel6
          have hdn8 : Below w.heap.size w w8 := hdn6.trans3 hbel7 hbel8 hdn6.size
          refine (topo_any T w8).mono ?_
          rintro e w9 ⟨rfl, hbel9⟩
          have hin9 : TopsIn w9 a (tl.map (fun t : Nat => (t : Int))) := hin.out.below (hdn8.trans (hbel9.mono hdn8.size))
          have hcall12' := levels_any a (tl.map (fun t : Nat => (t : Int))) cap w9 hin9 (by rw [hlm.out]; exact h1)
          rw [hlm.out] at hcall12'
          clear hcall12 hcall10
          go_wp2_with (first
            | (go_at_call 12
               refine hcall12'.mono ?_
               rintro e w10 ⟨rfl, hbl10, hbel10⟩
               have hcall10' := grow10 T hT.out tl hTl.out h1 true w9.heap.size w10 (by rw [List.map_map] at hbl10; exact hbl10))
            | (go_at_call 10
               refine hcall10'.mono ?_
               rintro e w11 ⟨rfl, hG11, hbel11⟩
               obtain ⟨lvL, lkL, hRL⟩ := hG11.rd hTl.out.le hd.out
               have hlnk := hRL.lnk)
            | (go_at_call 25
               refine (links_any (w10.heap.size + 3) w11 _ hlnk).mono ?_
               rintro e w12 ⟨rfl, hw⟩
               obtain rfl := hw.symm))
          have hU611 : Upd [] w8 w11 := (Upd.ofBelow hbel9).trans ((Upd.ofBelow hbel10).trans (Upd.ofBelow hbel11))
          have hU511 : Upd [] w5 w11 := (Upd.ofBelow hbel6).trans ((Upd.ofBelow hbel7).trans ((Upd.ofBelow hbel8).trans hU611))
          have hdn11 : Below w.heap.size w w11 := hdn8.trans (hU611.below _ (by simp) hdn8.size)
          obtain ⟨lvU, lkU, hRU8⟩ := hG8.rd hTl.out.le hd.out
          have hRU := hide (hRU8.upd hU611)
          have hMb : Blk w11 w4.heap.size (T.szV ++ T.fanV ++ (List.range 25).map V) 33 := by
            rw [List.take_zero, List.nil_append, List.drop_eq_nil_of_le (by simp), List.append_nil] at hb5
            exact hb5.upd hU511 (by simp)
          have hV11 : ∀ i, i < 25 → w11.ownsRow wr.heap.size (rowT i) 1 (V i) (XS (stJ T tl tl.length) (roJ T tl tl.length) (runsJ T tl tl.length) i).length (XS (stJ T tl tl.length) (roJ T tl tl.length) (runsJ T tl tl.length) i) := by
            intro i hi
            have h5 := ownsRow_upd (ownsRow_upd (hV i hi) (Upd.alloc [] w4 _) (fun g _ => by simp)) (Upd.ofGrown (bs := [w4.heap.size]) hg5 (by intro b e; cases e; simp)) (fun g hg => by
              have := (own_ge (hV i hi) g hg).2
              simp; omega)
            exact ownsRow_upd h5 hU511 (fun g _ => by simp)
          obtain ⟨adF, adP, cpF, cpP, hMr⟩ := mr_of hTl.out.le hd.out hMb hV11
          replace hMr := hide hMr; replace hRL := hide hRL; replace hdn11 := hide hdn11
          obtain ⟨mB, hmB⟩ : ∃ mB, mB = w4.heap.size := ⟨_, rfl⟩
          obtain ⟨fU, hfU⟩ : ∃ fU, fU = w7.heap.size + 3 := ⟨_, rfl⟩
          obtain ⟨fL, hfL⟩ : ∃ fL, fL = w10.heap.size + 3 := ⟨_, rfl⟩
          obtain ⟨kL, hkL⟩ : ∃ kL, kL = w10.heap.size + 5 := ⟨_, rfl⟩
          obtain ⟨kU, hkU⟩ : ∃ kU, kU = w7.heap.size + 5 := ⟨_, rfl⟩
          rw [show w10.heap.size + 1 + 2 = fL by omega, show w10.heap.size + 1 + 4 = kL by omega] at hRL
          rw [show w7.heap.size + 1 + 2 = fU by omega, show w7.heap.size + 1 + 4 = kU by omega] at hRU
          rw [← hmB] at hMr
          simp only [← hmB, ← hfU, ← hfL]
          clear hmB hfU hfL hkL hkU hV11 hMb hRU8 hU611 hU511 hdn6 hdn8 hG8 hG11 hb5 hg5 hV hbel4 hbel6 hbel7 hbel8 hbel9 hbel10 hbel11 hbl7 hbl10 hin6 hin9 hinr hcall9 hcall12' hcall10' hB24 hB25 hlnk
          go_loopw [18] (fun lv wi => ∃ l : Nat, l ≤ 5 ∧ lv = .int .i64 l ∧ Hid (Upd [] w11 wi)) (fun lv _ => 5 - (intOf lv).toNat)
          case atStart => exact ⟨0, by omega, rfl, Upd.refl _ _⟩
          case round =>
            obtain ⟨l, hl, rfl, hU⟩ := hrel
            by_cases hl5 : l < 5
            · have hM := hMr.out.upd hU.out
              have hA := hRU.out.upd hU.out
              have hB := hRL.out.upd hU.out
              have hf0 := hM.f l hl5
              have hinb : Nof T tl (l + 1) * T.fan (l + 1) ≤ 65536 := Nat.le_trans (inner_le T tl l) (Nof_le hTl.out l)
              have hfnb : T.fan l ≤ 65536 := hT.out.fan_le l
              have hNb : Nof T tl l ≤ 65536 := Nof_le hTl.out l
              replace hM := hide hM; replace hA := hide hA; replace hB := hide hB
              go_wp2_with (first
                | (go_at_call 26
                   first
                     | (with_reducible refine (levelLen_any fU l wr _ _ _ hl5 (hA.out.levels l hl5)).mono ?_
                        rintro e w12 ⟨rfl, hw⟩
                        obtain rfl := hw.symm)
                     | (with_reducible refine (levelLen_any fL l wr _ _ _ hl5 (hB.out.levels l hl5)).mono ?_
                        rintro e w12 ⟨rfl, hw⟩
                        obtain rfl := hw.symm))
                | (go_at_call 27
                   refine (linkLen_any fL l wr kL _ _ _ hl5 hB.out.lnk (hB.out.lks rfl l hl5)).mono ?_
                   rintro e w12 ⟨rfl, hw⟩
                   obtain rfl := hw.symm)
                | (go_at_call 28
                   refine (inner_any fU l wr _ hl5 (hA.out.inner l hl5)).mono ?_
                   rintro e w12 ⟨rfl, hw⟩
                   obtain rfl := hw.symm)
                | (go_at_call 29
                   refine (fanout_any fU l wr _ (by omega) (hA.out.fan l (by omega))).mono ?_
                   rintro e w12 ⟨rfl, hw⟩
                   obtain rfl := hw.symm))
              clear hf0 hM hA hB
              go_loopw [22] (fun iv wi => ∃ i : Nat, i ≤ Nof T tl l ∧ iv = .int .i64 i ∧ Hid (Upd [] w11 wi)) (fun iv _ => Nof T tl l - (intOf iv).toNat)
              case atStart => exact ⟨0, by omega, rfl, hU⟩
              case round =>
                clear hU
                obtain ⟨i, hi, rfl, hU⟩ := hrel
                by_cases hil : i < Nof T tl l
                · obtain ⟨gF, hgF, hfcH⟩ := hMr.out.fc l hl5 i hil
                  obtain ⟨gP, hgP, hpcH⟩ := hMr.out.pc l hl5 i hil
                  have hf0H := hMr.out.f l hl5
                  have hp0H := hMr.out.p l hl5
                  rw [hgF] at hf0H
                  rw [hgP] at hp0H
                  rw [Int.natCast_mul] at hfcH
                  have hib : i < 65536 := by omega
                  clear hgF hgP
                  replace hf0H := hide hf0H; replace hp0H := hide hp0H; replace hfcH := hide hfcH
                  by_cases hin' : i < Nof T tl (l + 1) * T.fan (l + 1)
                  · have hl4 : l < 4 := by
                      rcases Nat.lt_or_ge l 4 with h | h
                      · exact h
                      · obtain rfl : l = 4 := by omega
                        rw [Nof_five hTl.out.le, Nat.zero_mul] at hin'; omega
                    have hpl := parent_lt hin'
                    rw [show (linkD T (Nof T tl) l i).parent = ((i / T.fan (l + 1) : Nat) : Int) from if_pos hin'] at hpcH
                    obtain ⟨q, hq⟩ : ∃ q, q = i / T.fan (l + 1) := ⟨_, rfl⟩
                    rw [← hq] at hpcH
                    have hql : q < Nof T tl (l + 1) := by rw [hq]; exact hpl.2
                    have hqb : q < 65536 := Nat.lt_of_lt_of_le hql (Nof_le hTl.out _)
                    have hdi : decide ((i : Int) < (Nof T tl (l + 1) : Int) * (T.fan (l + 1) : Int)) = true := by rw [← Int.natCast_mul]; exact decide_eq_true (by omega)
                    have hqn : ((q : Int) == -1) = false := by rw [beq_eq_false_iff_ne]; omega
                    have hqm : ((q : Int) != -1) = true := by rw [bne_iff_ne]; omega
                    replace hpcH := hide hpcH; replace hq := hide hq; replace hql := hide hql; replace hin' := hide hin'
                    clear hpl
                    by_cases hl0 : l = 0
                    · as_aux_lemma =>
                        have hb0 : ((l : Int) == 0) = true := by rw [beq_iff_eq]; omega
                        have hchi : Hid ((linkD T (Nof T tl) l i).child = -1) := if_pos hl0
                        replace hl0 := hide hl0
                        have hA0 : Hid (Rd T tl false fU kU lvU lkU wr) := hRU.out.upd hU.out
                        have hB0 : Hid (Rd T tl true fL kL lvL lkL wr) := hRL.out.upd hU.out
                        have hAn : Hid (∀ n, Rd T tl false fU kU lvU lkU (wr.drewN n)) := fun n => hRU.out.upd (hU.out.trans (Upd.drewN _ _ n))
                        have hf0 := cell_upd hf0H.out hU.out (by simp)
                        have hp0 := cell_upd hp0H.out hU.out (by simp)
                        have hfc0 := cell_upd hfcH.out hU.out (by simp)
                        have hpc0 := cell_upd hpcH.out hU.out (by simp)
                        go_wp2_with (go_at_call 30; first
                          | (with_reducible refine (cellAt_any fU l wr _ _ _ i hl5 (hA0.out.levels l hl5) hil).mono ?_
                             rintro e w12 ⟨rfl, hw⟩
                             obtain rfl := hw.symm)
                          | (with_reducible refine (cellAt_any fL l wr _ _ _ i hl5 (hB0.out.levels l hl5) hil).mono ?_
                             rintro e w12 ⟨rfl, hw⟩
                             obtain rfl := hw.symm))
                        go_big_quiet (exact zzFirstAt (first_at hAn.out hTl.out hl5 hil _))
                        have hU1 : Hid (Upd [] w11 (wr.drewN nq)) := hU.out.trans (Upd.drewN _ _ _)
                        obtain ⟨W1, hW1⟩ : ∃ W', W' = wr.drewN nq := ⟨_, rfl⟩
                        rw [← hW1] at hU1
                        rw [← hW1]
                        clear hW1
                        clear hf0 hp0 hfc0 hpc0
                        have hf1 := cell_upd hf0H.out hU1.out (by simp)
                        have hp1 := cell_upd hp0H.out hU1.out (by simp)
                        have hfc1 := cell_upd hfcH.out hU1.out (by simp)
                        have hpc1 := cell_upd hpcH.out hU1.out (by simp)
                        have hAn1 : Hid (∀ n, Rd T tl false fU kU lvU lkU (W1.drewN n)) := fun n => hRU.out.upd (hU1.out.trans (Upd.drewN _ _ n))
                        have hBn1 : Hid (∀ n, Rd T tl true fL kL lvL lkL (W1.drewN n)) := fun n => hRL.out.upd (hU1.out.trans (Upd.drewN _ _ n))
                        go_wp2_with (fail)
                        go_big_quiet (exact zzFirstAt (first_at hBn1.out hTl.out hl5 hil _))
                        have hU2 : Hid (Upd [] w11 (W1.drewN nq)) := hU1.out.trans (Upd.drewN _ _ _)
                        obtain ⟨W2, hW2⟩ : ∃ W', W' = W1.drewN nq := ⟨_, rfl⟩
                        rw [← hW2] at hU2
                        rw [← hW2]
                        clear hW2
                        clear hf1 hp1 hfc1 hpc1
                        have hf2 := cell_upd hf0H.out hU2.out (by simp)
                        have hp2 := cell_upd hp0H.out hU2.out (by simp)
                        have hfc2 := cell_upd hfcH.out hU2.out (by simp)
                        have hpc2 := cell_upd hpcH.out hU2.out (by simp)
                        have hAn2 : Hid (∀ n, Rd T tl false fU kU lvU lkU (W2.drewN n)) := fun n => hRU.out.upd (hU2.out.trans (Upd.drewN _ _ n))
                        have hBn2 : Hid (∀ n, Rd T tl true fL kL lvL lkL (W2.drewN n)) := fun n => hRL.out.upd (hU2.out.trans (Upd.drewN _ _ n))
                        have hPU : Hid (∀ n, Calls Try.prog 32 #[.pointer (some ⟨fU, 0, none⟩), .pointer (some ⟨lvU l, i * 6, none⟩)] (W2.drewN n) fun e w' => e = .returned (.int .i32 (q : Nat)) ∧ ∃ m, w' = W2.drewN m) := fun n => by rw [hq.out]; exact zzParentOrd (par_in hAn2.out hT.out hTl.out hl4 hil hin'.out n)
                        have hPL : Hid (∀ n, Calls Try.prog 32 #[.pointer (some ⟨fL, 0, none⟩), .pointer (some ⟨lvL l, i * 6, none⟩)] (W2.drewN n) fun e w' => e = .returned (.int .i32 (q : Nat)) ∧ ∃ m, w' = W2.drewN m) := fun n => by rw [hq.out]; exact zzParentOrd (par_in hBn2.out hT.out hTl.out hl4 hil hin'.out n)
                        go_wp2_with (fail)
                        go_big_quiet (first | (with_reducible exact hPU.out _) | (with_reducible exact hPL.out _))
                        have hU3 : Hid (Upd [] w11 (W2.drewN nq)) := hU2.out.trans (Upd.drewN _ _ _)
                        obtain ⟨W3, hW3⟩ : ∃ W', W' = W2.drewN nq := ⟨_, rfl⟩
                        rw [← hW3] at hU3
                        rw [← hW3]
                        clear hW3
                        clear hf2 hp2 hfc2 hpc2
                        have hf3 := cell_upd hf0H.out hU3.out (by simp)
                        have hp3 := cell_upd hp0H.out hU3.out (by simp)
                        have hfc3 := cell_upd hfcH.out hU3.out (by simp)
                        have hpc3 := cell_upd hpcH.out hU3.out (by simp)
                        have hAn3 : Hid (∀ n, Rd T tl false fU kU lvU lkU (W3.drewN n)) := fun n => hRU.out.upd (hU3.out.trans (Upd.drewN _ _ n))
                        have hBn3 : Hid (∀ n, Rd T tl true fL kL lvL lkL (W3.drewN n)) := fun n => hRL.out.upd (hU3.out.trans (Upd.drewN _ _ n))
                        have hQ : Hid (Calls Try.prog 33 #[.pointer (some ⟨fU, 0, none⟩), .pointer (some ⟨lvU l, i * 6, none⟩)] W3 fun e w' => e = .returned (.pointer (some ⟨lvU (l + 1), q * 6, none⟩)) ∧ ∃ m, w' = W3.drewN m) := by
                          rw [hq.out]; exact zzParent (parent_ptr hAn3.out hT.out hTl.out hl4 hil hin'.out)
                        have hneq : ∀ W : World, (binOp .neq 62 (.pointer (some ⟨lvU (l + 1), q * 6, none⟩)) (.pointer (some ⟨lvU (l + 1), q * 6, none⟩))).run Try.prog W = .ok (.bool false) W := fun W => run_neq_ptr _ W
                        go_wp2_with (first
                          | (go_at_call 33
                             refine hQ.out.mono ?_
                             rintro e W4 ⟨rfl, m4, hW4⟩
                             have hU4 : Hid (Upd [] w11 W4) := (by rw [hW4]; exact hU3.out.trans (Upd.drewN _ _ _))
                             clear hW4
                             have hf4 := cell_upd hf0H.out hU4.out (by simp)
                             have hp4 := cell_upd hp0H.out hU4.out (by simp)
                             have hfc4 := cell_upd hfcH.out hU4.out (by simp)
                             have hpc4 := cell_upd hpcH.out hU4.out (by simp)
                             have hB4 : Hid (Rd T tl true fL kL lvL lkL W4) := hRL.out.upd hU4.out
                             have h45 := cellAt_any fU (l + 1) W4 _ _ _ q (by omega) ((hRU.out.upd hU4.out).levels (l + 1) (by omega)) hql.out
                             rw [show ((l + 1 : Nat) : Int) = (l : Int) + 1 from rfl] at h45
                             have h47 := link_at hB4.out hl5 hil
                             rw [hchi.out] at h47)
                          | (go_at_call 30
                             refine h45.mono ?_
                             rintro e w12 ⟨rfl, hw⟩
                             obtain rfl := hw.symm)
                          | (go_at_call 34
                             refine h47.mono ?_
                             rintro e W5 ⟨rfl, m5, hW5⟩
                             have hU5 : Hid (Upd [] w11 W5) := (by rw [hW5]; exact hU4.out.trans (Upd.drewN _ _ _))
                             clear hW5))
                        go_roundw
                        case rel => exact ⟨i + 1, by omega, by simp, hU5.out⟩
                        case measure => simp [intOf]; omega
                    · as_aux_lemma =>
                        have hb0 : ((l : Int) == 0) = false := by rw [beq_eq_false_iff_ne]; omega
                        have hchi : Hid ((linkD T (Nof T tl) l i).child = (i : Int) * (T.fan l : Int)) := (if_neg hl0).trans (Int.natCast_mul _ _)
                        have hmn : i * T.fan l ≤ 65536 := by
                          have h1 := inner_le T tl (l - 1)
                          rw [show l - 1 + 1 = l by omega] at h1
                          exact Nat.le_trans (Nat.le_trans (Nat.mul_le_mul_right _ (Nat.le_of_lt hil)) h1) (Nof_le hTl.out _)
                        have hmb : (i : Int) * (T.fan l : Int) ≤ 65536 := by rw [← Int.natCast_mul]; omega
                        have hm0 : 0 ≤ (i : Int) * (T.fan l : Int) := by rw [← Int.natCast_mul]; omega
                        clear hmn
                        replace hl0 := hide hl0
                        have hA0 : Hid (Rd T tl false fU kU lvU lkU wr) := hRU.out.upd hU.out
                        have hB0 : Hid (Rd T tl true fL kL lvL lkL wr) := hRL.out.upd hU.out
                        have hAn : Hid (∀ n, Rd T tl false fU kU lvU lkU (wr.drewN n)) := fun n => hRU.out.upd (hU.out.trans (Upd.drewN _ _ n))
                        have hf0 := cell_upd hf0H.out hU.out (by simp)
                        have hp0 := cell_upd hp0H.out hU.out (by simp)
                        have hfc0 := cell_upd hfcH.out hU.out (by simp)
                        have hpc0 := cell_upd hpcH.out hU.out (by simp)
                        go_wp2_with (go_at_call 30; first
                          | (with_reducible refine (cellAt_any fU l wr _ _ _ i hl5 (hA0.out.levels l hl5) hil).mono ?_
                             rintro e w12 ⟨rfl, hw⟩
                             obtain rfl := hw.symm)
                          | (with_reducible refine (cellAt_any fL l wr _ _ _ i hl5 (hB0.out.levels l hl5) hil).mono ?_
                             rintro e w12 ⟨rfl, hw⟩
                             obtain rfl := hw.symm))
                        go_big_quiet (exact zzFirstAt (first_at hAn.out hTl.out hl5 hil _))
                        have hU1 : Hid (Upd [] w11 (wr.drewN nq)) := hU.out.trans (Upd.drewN _ _ _)
                        obtain ⟨W1, hW1⟩ : ∃ W', W' = wr.drewN nq := ⟨_, rfl⟩
                        rw [← hW1] at hU1
                        rw [← hW1]
                        clear hW1
                        clear hf0 hp0 hfc0 hpc0
                        have hf1 := cell_upd hf0H.out hU1.out (by simp)
                        have hp1 := cell_upd hp0H.out hU1.out (by simp)
                        have hfc1 := cell_upd hfcH.out hU1.out (by simp)
                        have hpc1 := cell_upd hpcH.out hU1.out (by simp)
                        have hAn1 : Hid (∀ n, Rd T tl false fU kU lvU lkU (W1.drewN n)) := fun n => hRU.out.upd (hU1.out.trans (Upd.drewN _ _ n))
                        have hBn1 : Hid (∀ n, Rd T tl true fL kL lvL lkL (W1.drewN n)) := fun n => hRL.out.upd (hU1.out.trans (Upd.drewN _ _ n))
                        go_wp2_with (fail)
                        go_big_quiet (exact zzFirstAt (first_at hBn1.out hTl.out hl5 hil _))
                        have hU2 : Hid (Upd [] w11 (W1.drewN nq)) := hU1.out.trans (Upd.drewN _ _ _)
                        obtain ⟨W2, hW2⟩ : ∃ W', W' = W1.drewN nq := ⟨_, rfl⟩
                        rw [← hW2] at hU2
                        rw [← hW2]
                        clear hW2
                        clear hf1 hp1 hfc1 hpc1
                        have hf2 := cell_upd hf0H.out hU2.out (by simp)
                        have hp2 := cell_upd hp0H.out hU2.out (by simp)
                        have hfc2 := cell_upd hfcH.out hU2.out (by simp)
                        have hpc2 := cell_upd hpcH.out hU2.out (by simp)
                        have hAn2 : Hid (∀ n, Rd T tl false fU kU lvU lkU (W2.drewN n)) := fun n => hRU.out.upd (hU2.out.trans (Upd.drewN _ _ n))
                        have hBn2 : Hid (∀ n, Rd T tl true fL kL lvL lkL (W2.drewN n)) := fun n => hRL.out.upd (hU2.out.trans (Upd.drewN _ _ n))
                        have hPU : Hid (∀ n, Calls Try.prog 32 #[.pointer (some ⟨fU, 0, none⟩), .pointer (some ⟨lvU l, i * 6, none⟩)] (W2.drewN n) fun e w' => e = .returned (.int .i32 (q : Nat)) ∧ ∃ m, w' = W2.drewN m) := fun n => by rw [hq.out]; exact zzParentOrd (par_in hAn2.out hT.out hTl.out hl4 hil hin'.out n)
                        have hPL : Hid (∀ n, Calls Try.prog 32 #[.pointer (some ⟨fL, 0, none⟩), .pointer (some ⟨lvL l, i * 6, none⟩)] (W2.drewN n) fun e w' => e = .returned (.int .i32 (q : Nat)) ∧ ∃ m, w' = W2.drewN m) := fun n => by rw [hq.out]; exact zzParentOrd (par_in hBn2.out hT.out hTl.out hl4 hil hin'.out n)
                        go_wp2_with (fail)
                        go_big_quiet (first | (with_reducible exact hPU.out _) | (with_reducible exact hPL.out _))
                        have hU3 : Hid (Upd [] w11 (W2.drewN nq)) := hU2.out.trans (Upd.drewN _ _ _)
                        obtain ⟨W3, hW3⟩ : ∃ W', W' = W2.drewN nq := ⟨_, rfl⟩
                        rw [← hW3] at hU3
                        rw [← hW3]
                        clear hW3
                        clear hf2 hp2 hfc2 hpc2
                        have hf3 := cell_upd hf0H.out hU3.out (by simp)
                        have hp3 := cell_upd hp0H.out hU3.out (by simp)
                        have hfc3 := cell_upd hfcH.out hU3.out (by simp)
                        have hpc3 := cell_upd hpcH.out hU3.out (by simp)
                        have hAn3 : Hid (∀ n, Rd T tl false fU kU lvU lkU (W3.drewN n)) := fun n => hRU.out.upd (hU3.out.trans (Upd.drewN _ _ n))
                        have hBn3 : Hid (∀ n, Rd T tl true fL kL lvL lkL (W3.drewN n)) := fun n => hRL.out.upd (hU3.out.trans (Upd.drewN _ _ n))
                        have hQ : Hid (Calls Try.prog 33 #[.pointer (some ⟨fU, 0, none⟩), .pointer (some ⟨lvU l, i * 6, none⟩)] W3 fun e w' => e = .returned (.pointer (some ⟨lvU (l + 1), q * 6, none⟩)) ∧ ∃ m, w' = W3.drewN m) := by
                          rw [hq.out]; exact zzParent (parent_ptr hAn3.out hT.out hTl.out hl4 hil hin'.out)
                        have hneq : ∀ W : World, (binOp .neq 62 (.pointer (some ⟨lvU (l + 1), q * 6, none⟩)) (.pointer (some ⟨lvU (l + 1), q * 6, none⟩))).run Try.prog W = .ok (.bool false) W := fun W => run_neq_ptr _ W
                        go_wp2_with (first
                          | (go_at_call 33
                             refine hQ.out.mono ?_
                             rintro e W4 ⟨rfl, m4, hW4⟩
                             have hU4 : Hid (Upd [] w11 W4) := (by rw [hW4]; exact hU3.out.trans (Upd.drewN _ _ _))
                             clear hW4
                             have hf4 := cell_upd hf0H.out hU4.out (by simp)
                             have hp4 := cell_upd hp0H.out hU4.out (by simp)
                             have hfc4 := cell_upd hfcH.out hU4.out (by simp)
                             have hpc4 := cell_upd hpcH.out hU4.out (by simp)
                             have hB4 : Hid (Rd T tl true fL kL lvL lkL W4) := hRL.out.upd hU4.out
                             have h45 := cellAt_any fU (l + 1) W4 _ _ _ q (by omega) ((hRU.out.upd hU4.out).levels (l + 1) (by omega)) hql.out
                             rw [show ((l + 1 : Nat) : Int) = (l : Int) + 1 from rfl] at h45
                             have h47 := link_at hB4.out hl5 hil
                             rw [hchi.out] at h47)
                          | (go_at_call 30
                             refine h45.mono ?_
                             rintro e w12 ⟨rfl, hw⟩
                             obtain rfl := hw.symm)
                          | (go_at_call 34
                             refine h47.mono ?_
                             rintro e W5 ⟨rfl, m5, hW5⟩
                             have hU5 : Hid (Upd [] w11 W5) := (by rw [hW5]; exact hU4.out.trans (Upd.drewN _ _ _))
                             clear hW5))
                        go_roundw
                        case rel => exact ⟨i + 1, by omega, by simp, hU5.out⟩
                        case measure => simp [intOf]; omega
                  · rw [show (linkD T (Nof T tl) l i).parent = -1 from if_neg hin'] at hpcH
                    have hdi : decide ((i : Int) < (Nof T tl (l + 1) : Int) * (T.fan (l + 1) : Int)) = false := by rw [← Int.natCast_mul]; exact decide_eq_false (by omega)
                    replace hpcH := hide hpcH; replace hin' := hide hin'
                    by_cases hl0 : l = 0
                    · as_aux_lemma =>
                        have hb0 : ((l : Int) == 0) = true := by rw [beq_iff_eq]; omega
                        have hchi : Hid ((linkD T (Nof T tl) l i).child = -1) := if_pos hl0
                        replace hl0 := hide hl0
                        have hA0 : Hid (Rd T tl false fU kU lvU lkU wr) := hRU.out.upd hU.out
                        have hB0 : Hid (Rd T tl true fL kL lvL lkL wr) := hRL.out.upd hU.out
                        have hAn : Hid (∀ n, Rd T tl false fU kU lvU lkU (wr.drewN n)) := fun n => hRU.out.upd (hU.out.trans (Upd.drewN _ _ n))
                        have hf0 := cell_upd hf0H.out hU.out (by simp)
                        have hp0 := cell_upd hp0H.out hU.out (by simp)
                        have hfc0 := cell_upd hfcH.out hU.out (by simp)
                        have hpc0 := cell_upd hpcH.out hU.out (by simp)
                        go_wp2_with (go_at_call 30; first
                          | (with_reducible refine (cellAt_any fU l wr _ _ _ i hl5 (hA0.out.levels l hl5) hil).mono ?_
                             rintro e w12 ⟨rfl, hw⟩
                             obtain rfl := hw.symm)
                          | (with_reducible refine (cellAt_any fL l wr _ _ _ i hl5 (hB0.out.levels l hl5) hil).mono ?_
                             rintro e w12 ⟨rfl, hw⟩
                             obtain rfl := hw.symm))
                        go_big_quiet (exact zzFirstAt (first_at hAn.out hTl.out hl5 hil _))
                        have hU1 : Hid (Upd [] w11 (wr.drewN nq)) := hU.out.trans (Upd.drewN _ _ _)
                        obtain ⟨W1, hW1⟩ : ∃ W', W' = wr.drewN nq := ⟨_, rfl⟩
                        rw [← hW1] at hU1
                        rw [← hW1]
                        clear hW1
                        clear hf0 hp0 hfc0 hpc0
                        have hf1 := cell_upd hf0H.out hU1.out (by simp)
                        have hp1 := cell_upd hp0H.out hU1.out (by simp)
                        have hfc1 := cell_upd hfcH.out hU1.out (by simp)
                        have hpc1 := cell_upd hpcH.out hU1.out (by simp)
                        have hAn1 : Hid (∀ n, Rd T tl false fU kU lvU lkU (W1.drewN n)) := fun n => hRU.out.upd (hU1.out.trans (Upd.drewN _ _ n))
                        have hBn1 : Hid (∀ n, Rd T tl true fL kL lvL lkL (W1.drewN n)) := fun n => hRL.out.upd (hU1.out.trans (Upd.drewN _ _ n))
                        go_wp2_with (fail)
                        go_big_quiet (exact zzFirstAt (first_at hBn1.out hTl.out hl5 hil _))
                        have hU2 : Hid (Upd [] w11 (W1.drewN nq)) := hU1.out.trans (Upd.drewN _ _ _)
                        obtain ⟨W2, hW2⟩ : ∃ W', W' = W1.drewN nq := ⟨_, rfl⟩
                        rw [← hW2] at hU2
                        rw [← hW2]
                        clear hW2
                        clear hf1 hp1 hfc1 hpc1
                        have hf2 := cell_upd hf0H.out hU2.out (by simp)
                        have hp2 := cell_upd hp0H.out hU2.out (by simp)
                        have hfc2 := cell_upd hfcH.out hU2.out (by simp)
                        have hpc2 := cell_upd hpcH.out hU2.out (by simp)
                        have hAn2 : Hid (∀ n, Rd T tl false fU kU lvU lkU (W2.drewN n)) := fun n => hRU.out.upd (hU2.out.trans (Upd.drewN _ _ n))
                        have hBn2 : Hid (∀ n, Rd T tl true fL kL lvL lkL (W2.drewN n)) := fun n => hRL.out.upd (hU2.out.trans (Upd.drewN _ _ n))
                        have hPU : Hid (∀ n, Calls Try.prog 32 #[.pointer (some ⟨fU, 0, none⟩), .pointer (some ⟨lvU l, i * 6, none⟩)] (W2.drewN n) fun e w' => e = .returned (.int .i32 (-1)) ∧ ∃ m, w' = W2.drewN m) := fun n => zzParentOrd (par_top hAn2.out hl5 hil hin'.out n)
                        have hPL : Hid (∀ n, Calls Try.prog 32 #[.pointer (some ⟨fL, 0, none⟩), .pointer (some ⟨lvL l, i * 6, none⟩)] (W2.drewN n) fun e w' => e = .returned (.int .i32 (-1)) ∧ ∃ m, w' = W2.drewN m) := fun n => zzParentOrd (par_top hBn2.out hl5 hil hin'.out n)
                        go_wp2_with (fail)
                        go_big_quiet (first | (with_reducible exact hPU.out _) | (with_reducible exact hPL.out _))
                        have hU3 : Hid (Upd [] w11 (W2.drewN nq)) := hU2.out.trans (Upd.drewN _ _ _)
                        obtain ⟨W3, hW3⟩ : ∃ W', W' = W2.drewN nq := ⟨_, rfl⟩
                        rw [← hW3] at hU3
                        rw [← hW3]
                        clear hW3
                        clear hf2 hp2 hfc2 hpc2
                        have hf3 := cell_upd hf0H.out hU3.out (by simp)
                        have hp3 := cell_upd hp0H.out hU3.out (by simp)
                        have hfc3 := cell_upd hfcH.out hU3.out (by simp)
                        have hpc3 := cell_upd hpcH.out hU3.out (by simp)
                        have hAn3 : Hid (∀ n, Rd T tl false fU kU lvU lkU (W3.drewN n)) := fun n => hRU.out.upd (hU3.out.trans (Upd.drewN _ _ n))
                        have hBn3 : Hid (∀ n, Rd T tl true fL kL lvL lkL (W3.drewN n)) := fun n => hRL.out.upd (hU3.out.trans (Upd.drewN _ _ n))
                        have hQ : Hid (Calls Try.prog 33 #[.pointer (some ⟨fU, 0, none⟩), .pointer (some ⟨lvU l, i * 6, none⟩)] W3 fun e w' => e = .returned (.pointer none) ∧ ∃ m, w' = W3.drewN m) := zzParent (parent_nil hAn3.out hl5 hil hin'.out)
                        go_wp2_with (first
                          | (go_at_call 33
                             refine hQ.out.mono ?_
                             rintro e W4 ⟨rfl, m4, hW4⟩
                             have hU4 : Hid (Upd [] w11 W4) := (by rw [hW4]; exact hU3.out.trans (Upd.drewN _ _ _))
                             clear hW4
                             have hf4 := cell_upd hf0H.out hU4.out (by simp)
                             have hp4 := cell_upd hp0H.out hU4.out (by simp)
                             have hfc4 := cell_upd hfcH.out hU4.out (by simp)
                             have hpc4 := cell_upd hpcH.out hU4.out (by simp)
                             have hB4 : Hid (Rd T tl true fL kL lvL lkL W4) := hRL.out.upd hU4.out
                             have h47 := link_at hB4.out hl5 hil
                             rw [hchi.out] at h47)
                          | (go_at_call 34
                             refine h47.mono ?_
                             rintro e W5 ⟨rfl, m5, hW5⟩
                             have hU5 : Hid (Upd [] w11 W5) := (by rw [hW5]; exact hU4.out.trans (Upd.drewN _ _ _))
                             clear hW5))
                        go_roundw
                        case rel => exact ⟨i + 1, by omega, by simp, hU5.out⟩
                        case measure => simp [intOf]; omega
                    · as_aux_lemma =>
                        have hb0 : ((l : Int) == 0) = false := by rw [beq_eq_false_iff_ne]; omega
                        have hchi : Hid ((linkD T (Nof T tl) l i).child = (i : Int) * (T.fan l : Int)) := (if_neg hl0).trans (Int.natCast_mul _ _)
                        have hmn : i * T.fan l ≤ 65536 := by
                          have h1 := inner_le T tl (l - 1)
                          rw [show l - 1 + 1 = l by omega] at h1
                          exact Nat.le_trans (Nat.le_trans (Nat.mul_le_mul_right _ (Nat.le_of_lt hil)) h1) (Nof_le hTl.out _)
                        have hmb : (i : Int) * (T.fan l : Int) ≤ 65536 := by rw [← Int.natCast_mul]; omega
                        have hm0 : 0 ≤ (i : Int) * (T.fan l : Int) := by rw [← Int.natCast_mul]; omega
                        clear hmn
                        replace hl0 := hide hl0
                        have hA0 : Hid (Rd T tl false fU kU lvU lkU wr) := hRU.out.upd hU.out
                        have hB0 : Hid (Rd T tl true fL kL lvL lkL wr) := hRL.out.upd hU.out
                        have hAn : Hid (∀ n, Rd T tl false fU kU lvU lkU (wr.drewN n)) := fun n => hRU.out.upd (hU.out.trans (Upd.drewN _ _ n))
                        have hf0 := cell_upd hf0H.out hU.out (by simp)
                        have hp0 := cell_upd hp0H.out hU.out (by simp)
                        have hfc0 := cell_upd hfcH.out hU.out (by simp)
                        have hpc0 := cell_upd hpcH.out hU.out (by simp)
                        go_wp2_with (go_at_call 30; first
                          | (with_reducible refine (cellAt_any fU l wr _ _ _ i hl5 (hA0.out.levels l hl5) hil).mono ?_
                             rintro e w12 ⟨rfl, hw⟩
                             obtain rfl := hw.symm)
                          | (with_reducible refine (cellAt_any fL l wr _ _ _ i hl5 (hB0.out.levels l hl5) hil).mono ?_
                             rintro e w12 ⟨rfl, hw⟩
                             obtain rfl := hw.symm))
                        go_big_quiet (exact zzFirstAt (first_at hAn.out hTl.out hl5 hil _))
                        have hU1 : Hid (Upd [] w11 (wr.drewN nq)) := hU.out.trans (Upd.drewN _ _ _)
                        obtain ⟨W1, hW1⟩ : ∃ W', W' = wr.drewN nq := ⟨_, rfl⟩
                        rw [← hW1] at hU1
                        rw [← hW1]
                        clear hW1
                        clear hf0 hp0 hfc0 hpc0
                        have hf1 := cell_upd hf0H.out hU1.out (by simp)
                        have hp1 := cell_upd hp0H.out hU1.out (by simp)
                        have hfc1 := cell_upd hfcH.out hU1.out (by simp)
                        have hpc1 := cell_upd hpcH.out hU1.out (by simp)
                        have hAn1 : Hid (∀ n, Rd T tl false fU kU lvU lkU (W1.drewN n)) := fun n => hRU.out.upd (hU1.out.trans (Upd.drewN _ _ n))
                        have hBn1 : Hid (∀ n, Rd T tl true fL kL lvL lkL (W1.drewN n)) := fun n => hRL.out.upd (hU1.out.trans (Upd.drewN _ _ n))
                        go_wp2_with (fail)
                        go_big_quiet (exact zzFirstAt (first_at hBn1.out hTl.out hl5 hil _))
                        have hU2 : Hid (Upd [] w11 (W1.drewN nq)) := hU1.out.trans (Upd.drewN _ _ _)
                        obtain ⟨W2, hW2⟩ : ∃ W', W' = W1.drewN nq := ⟨_, rfl⟩
                        rw [← hW2] at hU2
                        rw [← hW2]
                        clear hW2
                        clear hf1 hp1 hfc1 hpc1
                        have hf2 := cell_upd hf0H.out hU2.out (by simp)
                        have hp2 := cell_upd hp0H.out hU2.out (by simp)
                        have hfc2 := cell_upd hfcH.out hU2.out (by simp)
                        have hpc2 := cell_upd hpcH.out hU2.out (by simp)
                        have hAn2 : Hid (∀ n, Rd T tl false fU kU lvU lkU (W2.drewN n)) := fun n => hRU.out.upd (hU2.out.trans (Upd.drewN _ _ n))
                        have hBn2 : Hid (∀ n, Rd T tl true fL kL lvL lkL (W2.drewN n)) := fun n => hRL.out.upd (hU2.out.trans (Upd.drewN _ _ n))
                        have hPU : Hid (∀ n, Calls Try.prog 32 #[.pointer (some ⟨fU, 0, none⟩), .pointer (some ⟨lvU l, i * 6, none⟩)] (W2.drewN n) fun e w' => e = .returned (.int .i32 (-1)) ∧ ∃ m, w' = W2.drewN m) := fun n => zzParentOrd (par_top hAn2.out hl5 hil hin'.out n)
                        have hPL : Hid (∀ n, Calls Try.prog 32 #[.pointer (some ⟨fL, 0, none⟩), .pointer (some ⟨lvL l, i * 6, none⟩)] (W2.drewN n) fun e w' => e = .returned (.int .i32 (-1)) ∧ ∃ m, w' = W2.drewN m) := fun n => zzParentOrd (par_top hBn2.out hl5 hil hin'.out n)
                        go_wp2_with (fail)
                        go_big_quiet (first | (with_reducible exact hPU.out _) | (with_reducible exact hPL.out _))
                        have hU3 : Hid (Upd [] w11 (W2.drewN nq)) := hU2.out.trans (Upd.drewN _ _ _)
                        obtain ⟨W3, hW3⟩ : ∃ W', W' = W2.drewN nq := ⟨_, rfl⟩
                        rw [← hW3] at hU3
                        rw [← hW3]
                        clear hW3
                        clear hf2 hp2 hfc2 hpc2
                        have hf3 := cell_upd hf0H.out hU3.out (by simp)
                        have hp3 := cell_upd hp0H.out hU3.out (by simp)
                        have hfc3 := cell_upd hfcH.out hU3.out (by simp)
                        have hpc3 := cell_upd hpcH.out hU3.out (by simp)
                        have hAn3 : Hid (∀ n, Rd T tl false fU kU lvU lkU (W3.drewN n)) := fun n => hRU.out.upd (hU3.out.trans (Upd.drewN _ _ n))
                        have hBn3 : Hid (∀ n, Rd T tl true fL kL lvL lkL (W3.drewN n)) := fun n => hRL.out.upd (hU3.out.trans (Upd.drewN _ _ n))
                        have hQ : Hid (Calls Try.prog 33 #[.pointer (some ⟨fU, 0, none⟩), .pointer (some ⟨lvU l, i * 6, none⟩)] W3 fun e w' => e = .returned (.pointer none) ∧ ∃ m, w' = W3.drewN m) := zzParent (parent_nil hAn3.out hl5 hil hin'.out)
                        go_wp2_with (first
                          | (go_at_call 33
                             refine hQ.out.mono ?_
                             rintro e W4 ⟨rfl, m4, hW4⟩
                             have hU4 : Hid (Upd [] w11 W4) := (by rw [hW4]; exact hU3.out.trans (Upd.drewN _ _ _))
                             clear hW4
                             have hf4 := cell_upd hf0H.out hU4.out (by simp)
                             have hp4 := cell_upd hp0H.out hU4.out (by simp)
                             have hfc4 := cell_upd hfcH.out hU4.out (by simp)
                             have hpc4 := cell_upd hpcH.out hU4.out (by simp)
                             have hB4 : Hid (Rd T tl true fL kL lvL lkL W4) := hRL.out.upd hU4.out
                             have h47 := link_at hB4.out hl5 hil
                             rw [hchi.out] at h47)
                          | (go_at_call 34
                             refine h47.mono ?_
                             rintro e W5 ⟨rfl, m5, hW5⟩
                             have hU5 : Hid (Upd [] w11 W5) := (by rw [hW5]; exact hU4.out.trans (Upd.drewN _ _ _))
                             clear hW5))
                        go_roundw
                        case rel => exact ⟨i + 1, by omega, by simp, hU5.out⟩
                        case measure => simp [intOf]; omega
                · obtain rfl : i = Nof T tl l := by omega
                  go_wp2_with (fail)
                  go_roundw
                  case rel => exact ⟨l + 1, by omega, by simp, hU.out⟩
                  case measure => simp [intOf]; omega
            · obtain rfl : l = 5 := by omega
              go_wp2_with (fail)
              go_ret
              exact ⟨rfl, hdn11.out.trans (hU.out.below _ (by simp) hdn11.out.size)⟩
  · by_cases h2 : ts.length ≤ 1048576
    · rw [decide_eq_true h2] at hby
      go_enter Try.func6, Try.ntmps6
      go_wp2_with (go_at_call 24; refine hby.out.mono ?_; rintro e w1 ⟨rfl, hw⟩; obtain rfl := hw.symm)
      go_ret
      exact ⟨rfl, Below.refl _ _⟩
    · rw [decide_eq_false h2] at hby
      go_enter Try.func6, Try.ntmps6
      go_wp2_with (go_at_call 24; refine hby.out.mono ?_; rintro e w1 ⟨rfl, hw⟩; obtain rfl := hw.symm)
      go_ret
      exact ⟨rfl, Below.refl _ _⟩
end Go.Proofs.Qxb6609507a
