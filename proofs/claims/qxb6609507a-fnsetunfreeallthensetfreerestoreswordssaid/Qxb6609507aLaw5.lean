import Derived.Test.Qxb6609507aLaw5B
import Derived.Test.Qxb6609507aBuild3
namespace Go.Proofs.Qxb6609507a
set_option linter.unusedVariables false
set_option linter.unusedSimpArgs false
open Go.ChangeShapes Go.WideShapes Go.ChangeAt Go.RowKit
set_option maxRecDepth 100000 in
set_option maxHeartbeats 4000000 in
theorem law5 (a0 a1 a2 a3 : Int) (a : Option Addr) (ts : List Int) (cap : Nat) (linked : Bool) (w : World) (hin : TopsIn w a ts) (hlen : ts.length ≤ 9223372036854775807) :
    Calls Try.prog 5 #[.int .i64 a0, .int .i64 a1, .int .i64 a2, .int .i64 a3, .slice a ts.length cap, .bool linked] w fun e w' => e = .returned (.bool true) ∧ Below w.heap.size w w' := by
  have hby := hide (bytes17 a0 a1 a2 a3 a ts.length cap linked hlen w)
  by_cases h1 : ts.length ≤ 65536
  · have h2 : decide (ts.length ≤ 1048576) = true := by simp; omega
    rw [h2] at hby
    have htopo := hide (topo8 a0 a1 a2 a3 a ts cap w hin h1)
    replace hin := hide hin
    go_enter Try.func5, Try.ntmps5
    go_wp2_with (first
      | (go_at_call 17
         refine hby.out.mono ?_
         rintro e w1 ⟨rfl, hw⟩
         obtain rfl := hw.symm)
      | (go_at_call 8
         refine htopo.out.mono ?_
         rintro e w1 ⟨hbel1, ca, cb, ok, hca, hcb, hoa, hob, rfl, hok⟩
         replace hok := hide hok
         cases ok)
      | ((with_reducible refine gd_store 24 (.tmp 13) (.tmp 50) ?_)
         refine wpl_store rfl ca rfl size24 hca _ ((blk_new' w1 _ _ _ rfl).al _) (by simp) hoa ?_
         intro w2 hb2 hg2
         have hb2' : Blk w2 (w1.heap.size + 1) [.int .i64 0, .int .i64 0, .int .i64 0, .int .i64 0, .int .i64 0, .int .i64 0] 25 := (blk_new' _ _ _ _ (by simp)).upd (Upd.ofGrown (bs := [w1.heap.size]) hg2 (by intro b e; cases e; simp)) (by simp))
      | ((with_reducible refine gd_store 25 (.tmp 14) (.tmp 51) ?_)
         refine wpl_store rfl cb rfl size25 hcb _ hb2' (by simp) hob ?_
         intro w3 hb3 hg3
         have hbel3 : Below w.heap.size w w3 := ((((hbel1.alloc hbel1.size _).alloc (by have := hbel1.size; simp; omega) _).grown hg2 (by have := hbel1.size; simp; omega) (by intro k e; cases e; exact hbel1.size)).grown hg3 (by have := hbel1.size; have := hg2.size; simp at *; omega) (by intro k e; cases e; have := hbel1.size; omega))
         have hB24 : Blk w3 w1.heap.size ca 24 := by
           have h := hb2.upd (Upd.ofGrown (bs := [w1.heap.size + 1]) hg3 (by intro b e; cases e; simp)) (by simp)
           rw [List.take_zero, List.nil_append, List.drop_eq_nil_of_le (by simp), List.append_nil] at h; exact h
         have hB25 : Blk w3 (w1.heap.size + 1) cb 25 := by
           rw [List.take_zero, List.nil_append, List.drop_eq_nil_of_le (by simp), List.append_nil] at hb3; exact hb3)
      | ((with_reducible refine gd_load 24 (.tmp 13) ?_)
         obtain ⟨T, tl, hT, rfl, rfl, rfl, rfl, rfl, hTl, rfl, rfl⟩ := hok.out trivial
         clear hok hb2 hb3 hb2' hg2 hg3 hoa hob hca hcb hby htopo h2
         simp only [List.length_map] at h1 hlen ⊢
         have hinr := hide (hin.out.below hbel3)
         have hlm : (tl.map (fun t : Nat => (t : Int))).length = tl.length := by simp
         have hcall9 := hide (build_any T hT tl hTl h1 a cap w3 hinr.out)
         replace hbw := hide hbel3; replace hT := hide hT; replace hTl := hide hTl; replace hlm := hide hlm
         clear hbel3 hbel1
         replace hB24 := hide hB24; replace hB25 := hide hB25
         refine wpl_load rfl agg24 size24 T.szV rfl (blkCells hB24.out) ?_)
      | ((with_reducible refine gd_load 25 (.tmp 14) ?_)
         refine wpl_load rfl agg25 size25 T.fanV rfl (blkCells hB25.out) ?_)
      | (go_at_call 9
         refine hcall9.out.mono ?_
         rintro e w4 ⟨V, rfl, hV, hbel4⟩)
      | ((with_reducible refine gd_store 33 (.tmp 16) (.tmp 58) ?_)
         refine wpl_store rfl (T.szV ++ T.fanV ++ (List.range 25).map V) rfl size33 (len36 T V) _ (blk_new' w4 _ _ _ rfl) (by simp) (vals_one T V hV) ?_
         intro w5 hb5 hg5)
      | (go_at_call 11
         refine (topo_any T w5).mono ?_
         rintro e w6 ⟨rfl, hbel6⟩
         have hin6 : TopsIn w6 a (tl.map (fun t : Nat => (t : Int))) := hin.out.below (down6 hbw.out hbel4 hg5 hbel6)
         have hcall12 := levels_any a (tl.map (fun t : Nat => (t : Int))) cap w6 hin6 (by rw [hlm.out]; exact h1)
         rw [hlm.out] at hcall12)
      | (go_at_call 12
         refine hcall12.mono ?_
         rintro e w7 ⟨rfl, hbl7, hbel7⟩
         have hcall10 := grow10 T hT.out tl hTl.out h1 linked w6.heap.size w7 (by rw [List.map_map] at hbl7; exact hbl7))
      | (go_at_call 10
         refine hcall10.mono ?_
         rintro e w8 ⟨rfl, hG8, hbel8⟩))
    · go_ret
      exact ⟨rfl, hbel3⟩
    · have hdn6 : Below w.heap.size w w6 := down6 hbw.out hbel4 hg5 hbel6
      have hdn8 : Below w.heap.size w w8 := hdn6.trans3 hbel7 hbel8 hdn6.size
      have hU58 : Upd [] w5 w8 := (Upd.ofBelow hbel6).trans ((Upd.ofBelow hbel7).trans (Upd.ofBelow hbel8))
      have hMb : Blk w5 w4.heap.size (T.szV ++ T.fanV ++ (List.range 25).map V) 33 := by
        rw [List.take_zero, List.nil_append, List.drop_eq_nil_of_le (by simp), List.append_nil] at hb5
        exact hb5
      have hV5 : ∀ i, i < 25 → w5.ownsRow w3.heap.size (rowT i) 1 (V i) (XS (stJ T tl tl.length) (roJ T tl tl.length) (runsJ T tl tl.length) i).length (XS (stJ T tl tl.length) (roJ T tl tl.length) (runsJ T tl tl.length) i) := by
        intro i hi
        exact ownsRow_upd (ownsRow_upd (hV i hi) (Upd.alloc [] w4 _) (fun g _ => by simp)) (Upd.ofGrown (bs := [w4.heap.size]) hg5 (by intro b e; cases e; simp)) (fun g hg => by
          have := (own_ge (hV i hi) g hg).2
          simp; omega)
      obtain ⟨adT, cpT, adO, cpO, hTop, hRoot⟩ := lay5 hTl.out.le hMb hV5
      obtain ⟨F, ob, fcap, b0, bs, hF, hlo⟩ := hG8.fset hTl.out
      have hdn5 : Below w.heap.size w w5 := by
        have a1 := hbw.out.size; have a2 := hbel4.size
        exact ((hbw.out.trans (hbel4.mono a1)).alloc (by omega) _).grown hg5 (by simp; omega) (by intro k e; cases e; omega)
      have hus : ∀ l, l < 5 → ∀ u ∈ (w7.heap.size + 1 + 2) :: bs l, w5.heap.size ≤ u ∧ u < w8.heap.size := by
        intro l hl u hu
        refine ⟨?_, hF.us_lt hl u hu⟩
        have a1 := hbel6.size; have a2 := hbel7.size
        rcases List.mem_cons.1 hu with rfl | hu
        · omega
        · have := hlo l hl u hu; omega
      have hlow8 : Below w5.heap.size w5 w8 := hU58.below _ (by simp) (Nat.le_refl _)
      obtain ⟨mB, hmB⟩ : ∃ mB, mB = w4.heap.size := ⟨_, rfl⟩
      obtain ⟨fb, hfb⟩ : ∃ fb, fb = w7.heap.size + 3 := ⟨_, rfl⟩
      rw [show w7.heap.size + 1 + 2 = fb by omega] at hF hus
      rw [← hmB] at hTop hRoot
      obtain ⟨wA, hwA⟩ : ∃ wA, wA = (w8.alloc (.cells #[.slice none 0 0, .slice none 0 0, .slice none 0 0, .slice none 0 0, .slice none 0 0] 50)).alloc (.cells #[.int .i64 0, .int .i64 0, .int .i64 0, .int .i64 0, .int .i64 0] 51) := ⟨_, rfl⟩
      have hA50 : Blk wA w8.heap.size [.slice none 0 0, .slice none 0 0, .slice none 0 0, .slice none 0 0, .slice none 0 0] 50 := by rw [hwA]; exact (Blk.alloc _ _).al _
      have hA51 : Blk wA (w8.heap.size + 1) [.int .i64 0, .int .i64 0, .int .i64 0, .int .i64 0, .int .i64 0] 51 := by rw [hwA]; exact blk_new' _ _ _ _ (by simp)
      have hAU : Upd [] w8 wA := by rw [hwA]; exact (Upd.alloc _ _ _).trans (Upd.alloc _ _ _)
      have hAs : wA.heap.size = w8.heap.size + 2 := by rw [hwA]; simp
      have hsn0 : Snaps (w8.heap.size + 2) w8.heap.size (w8.heap.size + 1) (Nof T tl) (sJ T tl 0) 0 wA := ⟨_, _, hA50, hA51, rfl, rfl, fun m hm => by omega⟩
      simp only [← hmB, ← hfb, ← hwA]
      clear hmB hfb hwA hA50 hA51 hV5 hMb hb5 hg5 hV hbel4 hbel6 hbel7 hbel8 hbl7 hin6 hinr hcall9 hcall12 hcall10 hB24 hB25 hG8 hlo hdn6 hdn8 hU58 hbw hw
      obtain ⟨sB, hsB⟩ : ∃ sB, sB = w8.heap.size := ⟨_, rfl⟩
      simp only [← hsB] at hsn0 hus hAs ⊢
      obtain ⟨N, hN⟩ : ∃ N, N = Nof T tl := ⟨_, rfl⟩
      obtain ⟨S0, hS0⟩ : ∃ S0, S0 = sJ T tl 0 := ⟨_, rfl⟩
      rw [← hN, ← hS0] at hF hsn0
      replace hN := hide hN; replace hS0 := hide hS0; replace hsB := hide hsB; replace hlow8 := hide hlow8
      replace hF := hide hF; replace hsn0 := hide hsn0; replace hTop := hide hTop; replace hRoot := hide hRoot; replace hdn5 := hide hdn5; replace hus := hide hus; replace hAU := hide hAU; replace hAs := hide hAs
      obtain ⟨i54, hi54, hi54z, hi54s, hi54b⟩ := info_parts info54
      obtain ⟨i4, hi4, hi4z, hi4s, hi4b⟩ := info_parts info4
      obtain ⟨i55, hi55, hi55z, hi55s, hi55b⟩ := info_parts info55
      go_loopw [20] (fun lv wi => ∃ l : Nat, l ≤ 5 ∧ lv = .int .i64 l ∧ Hid (Snaps (sB + 2) sB (sB + 1) N S0 l wi) ∧ Hid (Upd [] w8 wi) ∧ Hid (sB + 2 ≤ wi.heap.size)) (fun lv _ => 5 - (intOf lv).toNat)
      case atStart => exact ⟨0, by omega, rfl, hsn0, hAU, by unfold Hid; rw [hAs.out]; exact Nat.le_refl _⟩
      case round =>
        clear hsn0 hAU hAs
        obtain ⟨l, hl, rfl, hsn, hU, hsz⟩ := hrel
        obtain ⟨wo, hwo⟩ : ∃ x : World, x = wr := ⟨_, rfl⟩
        subst hwo
        by_cases hl5 : l < 5
        · have hR := (hF.out.upd hU.out).setR l hl5
          have hNl := hF.out.small l
          obtain ⟨d, hd⟩ : ∃ d, d = (setRows (N l) (S0 l)).length := ⟨_, rfl⟩
          have hd1 : 1 ≤ d := by rw [hd]; exact setRows_pos _ _
          have hd8 : d ≤ 8 := by rw [hd, setRows_len]; have := emptyRows_len (N l) (by omega); omega
          have hwd := hR.wd
          rw [← hd] at hwd
          obtain ⟨cs, ns, hcs, hns, hcl, hnl, hall⟩ := hsn.out
          obtain ⟨v0, hv0⟩ : ∃ v, ns[l]? = some v := ⟨_, List.getElem?_eq_getElem (by omega)⟩
          obtain ⟨v1, hv1⟩ : ∃ v, cs[l]? = some v := ⟨_, List.getElem?_eq_getElem (by omega)⟩
          have hcn : wo.cell? ⟨sB + 1, l, none⟩ = some v0 := by rw [hns.cell]; exact hv0
          have hzn := hns.frozen l
          replace hwd := hide hwd; replace hd := hide hd; replace hR := hide hR; replace hcs := hide hcs; replace hns := hide hns; replace hall := hide hall; replace hv0 := hide hv0; replace hv1 := hide hv1
          go_wp2_with (first
            | (go_at_call 18
               refine (freeDepth_any fb l wo _ _ _ hl5 hwd.out).mono ?_
               rintro e w1 ⟨rfl, hw⟩
               obtain rfl := hw.symm)
            | (go_at_call 19
               refine (freeN_any fb l wo _ hl5 hR.out.n).mono ?_
               rintro e w1 ⟨rfl, hw⟩
               obtain rfl := hw.symm)
            | (at_make
               obtain ⟨wX, hwX⟩ : ∃ x, x = wo.setCell ⟨sB + 1, l, none⟩ (.int .i64 (cntB (S0 l) (N l) : Nat)) := ⟨_, rfl⟩
               rw [← hwX]
               have hUx : Upd [sB + 1] wo wX := by rw [hwX]; exact Upd.setCell _ _ _ _ (by simp)
               have hnsX : Blk wX (sB + 1) (ns.set l (.int .i64 (cntB (S0 l) (N l) : Nat))) 51 := by rw [hwX]; exact hns.out.setCell _ _
               have hcsX : Blk wX sB cs 50 := hcs.out.upd hUx (by simp)
               clear hwX
               refine wpList_make_full _ rfl _ _ 49 rfl wX.heap.size 54 i54 _ 1 Try.underlying49 hi54 hi54z hi54s _ _ _ _ d rfl rfl rfl rfl (by rw [hi54b]; omega) (by unfold maxLen; omega) (Nat.le_refl _) ?_
               intro w2' hown hgrow
               have hU2 : Upd [] wX w2' := Upd.ofGrown hgrow (by intro b e; cases e)
               have hcs2 := hcsX.upd hU2 (by simp)
               have hc2 : w2'.cell? ⟨sB, l, none⟩ = some v1 := by rw [hcs2.cell]; exact hv1.out
               have hz2 := hcs2.frozen l
               have hns2 := hnsX.upd hU2 (by simp)
               have hb2 : Blk w2' wX.heap.size (List.replicate d (.slice none 0 0)) 54 := by
                 have := ownsRow_blk hown
                 rw [show (Value.slice none 0 0).cells = #[Value.slice none 0 0] from rfl, Nat.mul_one, toList_madeCells_one] at this
                 exact this
               clear hown hgrow hcsX hnsX))
          obtain ⟨s2, hs2⟩ : ∃ s2, s2 = wX.heap.size := ⟨_, rfl⟩
          simp only [← hs2] at hb2 ⊢
          obtain ⟨w3', hw3'⟩ : ∃ x, x = w2'.setCell ⟨sB, l, none⟩ (.slice (some ⟨s2, 0, none⟩) d d) := ⟨_, rfl⟩
          rw [← hw3']
          have hs2B : sB + 2 ≤ s2 := by have := hUx.size; have := hsz.out; omega
          have hs2o : wo.heap.size ≤ s2 := by have := hUx.size; omega
          have hU3 : Upd [sB] w2' w3' := by rw [hw3']; exact Upd.setCell _ _ _ _ (by simp)
          have hb3 : Blk w3' s2 (List.replicate d (.slice none 0 0)) 54 := hb2.upd hU3 (by simp; omega)
          have hcs3 : Blk w3' sB (cs.set l (.slice (some ⟨s2, 0, none⟩) d d)) 50 := by rw [hw3']; exact hcs2.setCell _ _
          have hns3 := hns2.upd hU3 (by simp)
          have hUo3 : Upd [sB, sB + 1] wo w3' := (hUx.mono (by simp)).trans ((hU2.mono (by simp)).trans (hU3.mono (by simp)))
          have hU83 : Upd [] w8 w3' := ((hU.out.mono (by simp)).trans hUo3).fresh (by have := hsB.out; simp; omega)
          have hs3 : sB + 2 ≤ w3'.heap.size := by have := hUo3.size; have := hsz.out; omega
          clear hw3' hUx hU2 hU3 hcs2 hns2 hb2 hc2 hz2 hcn hzn hs2
          replace hb3 := hide hb3; replace hcs3 := hide hcs3; replace hns3 := hide hns3; replace hUo3 := hide hUo3; replace hU83 := hide hU83; replace hs3 := hide hs3
          go_loopw [22] (fun kv wi => ∃ k : Nat, k ≤ d ∧ kv = .int .i64 k ∧ Hid (∃ os : List Value, os.length = d ∧ Blk wi s2 os 54 ∧ ∀ k', k' < k → ∀ r, (setRows (N l) (S0 l))[k']? = some r → ∃ b, s2 < b ∧ os[k']? = some (.slice (some ⟨b, 0, none⟩) r.length r.length) ∧ ∀ j x, r[j]? = some x → wi.cell? ⟨b, j, none⟩ = some (.int .u64 (x : Nat))) ∧ Hid (Upd [s2] w3' wi)) (fun kv _ => d - (intOf kv).toNat)
          case atStart => exact ⟨0, by omega, rfl, ⟨_, by simp, hb3.out, fun k' hk' => by omega⟩, Upd.refl _ _⟩
          case round =>
            clear hb3
            obtain ⟨k, hk, rfl, hos, hUk⟩ := hrel
            obtain ⟨wk, hwk⟩ : ∃ x : World, x = wr := ⟨_, rfl⟩
            subst hwk
            by_cases hkd : k < d
            · obtain ⟨r, hr⟩ : ∃ r, (setRows (N l) (S0 l))[k]? = some r := ⟨_, List.getElem?_eq_getElem (by rw [← hd.out]; exact hkd)⟩
              obtain ⟨hr1, hr2⟩ := setRows_rowlen (N l) hNl (S0 l) r (List.mem_of_getElem? hr)
              have hU8k : Upd [] w8 wk := ((hU83.out.mono (by simp)).trans hUk.out).fresh (by have := hsB.out; simp; omega)
              have hRk := (hF.out.upd hU8k).setR l hl5
              have hwdk := hRk.wd
              rw [← hd.out] at hwdk
              obtain ⟨bk, hbk⟩ := hRk.rowAt hr
              replace hwdk := hide hwdk; replace hbk := hide hbk; replace hRk := hide hRk; replace hU8k := hide hU8k; replace hr := hide hr
              go_wp2_with (first
                | (go_at_call 20
                   refine (wordsLen_any fb l wk (ob l) d (fcap l) k _ _ _ hl5 hwdk.out hkd hbk.out.1).mono ?_
                   rintro e w1 ⟨rfl, hw⟩
                   obtain rfl := hw.symm)
                | (at_make
                   refine wpList_make_full _ rfl _ _ 54 rfl wk.heap.size 55 i55 _ 1 Try.underlying54 hi55 hi55z hi55s _ _ _ _ r.length rfl rfl rfl rfl (by rw [hi55b]; omega) (by unfold maxLen; omega) (Nat.le_refl _) ?_
                   intro w4' hown hgrow))
              have hb4 : Blk w4' wk.heap.size (fillV (r.map u64v) (.int .u64 0) 0) 55 := by
                have := ownsRow_blk hown
                rw [show (Value.int .u64 0).cells = #[Value.int .u64 0] from rfl, Nat.mul_one, toList_madeCells_one] at this
                rw [fillV_zero, List.length_map]; exact this
              have hbel4 : Below wk.heap.size wk w4' := (Below.refl _ _).grown hgrow (Nat.le_refl _) (fun k hk => by cases hk)
              clear hown hgrow
              replace hb4 := hide hb4; replace hbel4 := hide hbel4
              go_loopw [25] (fun jv wi => ∃ j : Nat, j ≤ r.length ∧ jv = .int .i64 j ∧ Hid (Blk wi wk.heap.size (fillV (r.map u64v) (.int .u64 0) j) 55) ∧ Hid (Below wk.heap.size wk wi)) (fun jv _ => r.length - (intOf jv).toNat)
              case atStart => exact ⟨0, by omega, rfl, hb4, hbel4⟩
              case round =>
                clear hb4 hbel4
                obtain ⟨j, hj, rfl, hb, hbel⟩ := hrel
                have hub := Upd.ofBelow hbel.out
                by_cases hjr : j < r.length
                · have hra := hbk.out.upd hub (by simp) (by simp)
                  have hwdj := cell_upd hwdk.out hub (by simp)
                  have hx := hra.2 j r[j] (List.getElem?_eq_getElem hjr)
                  have hcy : wr.cell? ⟨wk.heap.size, j, none⟩ = some (.int .u64 0) := by rw [hb.out.cell]; exact fillV_get _ _ _ (by simpa using hjr)
                  have hzy := hb.out.frozen j
                  have hb' := hb.out.setCell j (.int .u64 (r[j] : Nat))
                  have hfs := fillV_set (r.map u64v) (.int .u64 0) j (by simpa using hjr)
                  rw [List.getElem_map] at hfs
                  rw [show (Value.int .u64 (r[j] : Nat)) = u64v r[j] from rfl, hfs] at hb'
                  have hbel' := hbel.out.setCell (p := ⟨wk.heap.size, j, none⟩) (Nat.le_refl _) (.int .u64 (r[j] : Nat))
                  replace hra := hide hra; replace hwdj := hide hwdj; replace hx := hide hx; replace hb' := hide hb'; replace hbel' := hide hbel'; replace hub := hide hub
                  clear hfs
                  go_wp2_with (first
                    | (go_at_call 21
                       refine (word_any fb l wr (ob l) d (fcap l) k bk _ _ j _ hl5 hwdj.out hkd hra.out.1 hjr hx.out).mono ?_
                       rintro e w1 ⟨rfl, hw⟩
                       obtain rfl := hw.symm))
                  go_roundw
                  case rel => exact ⟨j + 1, by omega, by simp, hb', hbel'⟩
                  case measure => simp [intOf]; omega
                · obtain rfl : j = r.length := by omega
                  obtain ⟨os, hol, hob, hoa⟩ := hos.out
                  have hcsj : wr.cell? ⟨sB, l, none⟩ = some (.slice (some ⟨s2, 0, none⟩) d d) := by
                    refine cell_upd (cell_upd ?_ hUk.out (by simp; omega)) hub (by simp)
                    rw [hcs3.out.cell, List.getElem?_set]; simp [hcl, hl5]
                  have hobj := hob.upd hub (by simp)
                  obtain ⟨vk, hvk⟩ : ∃ v, os[k]? = some v := ⟨_, List.getElem?_eq_getElem (by omega)⟩
                  have hcok : wr.cell? ⟨s2, k, none⟩ = some vk := by rw [hobj.cell]; exact hvk
                  have hzok := hobj.frozen k
                  have hgb : s2 < wk.heap.size := by have := hob.lt; omega
                  have hrow : ∀ j x, r[j]? = some x → wr.cell? ⟨wk.heap.size, j, none⟩ = some (.int .u64 (x : Nat)) := by
                    intro j x hx
                    have h := hb.out
                    have e := fillV_all (r.map u64v) (.int .u64 0)
                    rw [List.length_map] at e
                    rw [e] at h
                    rw [h.cell, List.getElem?_map, hx]; rfl
                  replace hob := hide hob; replace hoa := hide hoa; replace hobj := hide hobj; replace hvk := hide hvk; replace hrow := hide hrow; replace hub := hide hub
                  go_wp2_with (fail)
                  go_roundw
                  case rel =>
                    have hsc : Upd [s2] wr (wr.setCell ⟨s2, k, none⟩ (.slice (some ⟨wk.heap.size, 0, none⟩) r.length r.length)) := Upd.setCell _ _ _ _ (by simp)
                    refine ⟨k + 1, by omega, by simp, ⟨os.set k (.slice (some ⟨wk.heap.size, 0, none⟩) r.length r.length), by simp [hol], hobj.out.setCell _ _, fun k' hk' r' hr' => ?_⟩, hUk.out.trans ((hub.out.mono (by simp)).trans hsc)⟩
                    by_cases e : k' = k
                    · subst e
                      obtain rfl : r = r' := Option.some.inj (hr.out.symm.trans hr')
                      refine ⟨wk.heap.size, hgb, by rw [List.getElem?_set]; simp; omega, fun j x hx => cell_upd (hrow.out j x hx) hsc (by simp; omega)⟩
                    · obtain ⟨b, hb1, hb2, hb3⟩ := hoa.out k' (by omega) r' hr'
                      exact ⟨b, hb1, by rw [List.getElem?_set, if_neg (fun x => e x.symm)]; exact hb2, fun j x hx => cell_upd (cell_upd (hb3 j x hx) hub.out (by simp)) hsc (by simp; omega)⟩
                  case measure => simp [intOf]; omega
            · obtain rfl : k = d := by omega
              obtain ⟨os, hol, hob, hoa⟩ := hos.out
              have hsn' : Hid (Snaps (sB + 2) sB (sB + 1) N S0 (l + 1) wk) := by
                have hn1 : sB ∉ [s2] := by simp; omega
                have hn2 : sB + 1 ∉ [s2] := by simp; omega
                refine Snaps.step (so := s2) ⟨hcs3.out.upd hUk.out hn1, hns3.out.upd hUk.out hn2⟩ ⟨by simp [hcl], by simp [hnl]⟩ (fun m hm => ?_) hall.out ?_ hs2B ?_ ?_ ?_
                · rw [List.getElem?_set, List.getElem?_set, if_neg (by omega), if_neg (by omega)]; exact ⟨rfl, rfl⟩
                · intro so n rs hso hS
                  have kp : ∀ {b o v}, sB + 2 ≤ b → wo.cell? ⟨b, o, none⟩ = some v → wk.cell? ⟨b, o, none⟩ = some v := by
                    intro b o v hb hc
                    have hlt := cell_lt hc
                    exact cell_upd (cell_upd hc hUo3.out (by simp; omega)) hUk.out (by simp; omega)
                  intro k' hk' r' hr'
                  obtain ⟨b, hb, hc, hws⟩ := hS k' hk' r' hr'
                  exact ⟨b, hb, kp hso hc, fun j x hx => kp hb (hws j x hx)⟩
                · rw [List.getElem?_set, hd.out]; simp [hcl, hl5]
                · rw [List.getElem?_set]; simp [hnl, hl5]
                · intro k' hk' r' hr'
                  obtain ⟨b, hb1, hb2, hb3⟩ := hoa k' (by have := hd.out; omega) r' hr'
                  exact ⟨b, by omega, by rw [hob.cell]; exact hb2, hb3⟩
              have hU8k : Hid (Upd [] w8 wk) := ((hU83.out.mono (by simp)).trans hUk.out).fresh (by have := hsB.out; simp; omega)
              have hszk : Hid (sB + 2 ≤ wk.heap.size) := Nat.le_trans hs3.out hUk.out.size
              clear hos hoa hob
              go_wp2_with (fail)
              go_roundw
              case rel => exact ⟨l + 1, by omega, by simp, hsn', hU8k, hszk⟩
              case measure => simp [intOf]; omega
        · obtain rfl : l = 5 := by omega
          simp only [show ((5 : Nat) : Int) = 5 from rfl]
          have hPh : Hid (Ph F fb N ob fcap b0 bs S0 w5 w8 (sJ T tl 0) wo) := ⟨by rw [← hS0.out]; exact hF.out.upd hU.out, hlow8.out.trans (hU.out.below _ (by simp) hlow8.out.size), by rw [← hsB.out]; exact hsn.out⟩
          clear hsn hU hsz hl hl5
          have hus' : Hid (∀ l, l < 5 → ∀ u ∈ fb :: bs l, w5.heap.size ≤ u ∧ u < w8.heap.size) := by rw [← hsB.out]; exact hus.out
          clear hus hF hlow8
          have hTop' : Hid (TopR N (inJ T tl tl.length) mB adT cpT w5) := by rw [hN.out]; exact hTop.out
          clear hTop
          have hCl0 : Hid (∀ j (hj : j < tl.length), ∃ tb to gO, a = some ⟨tb, to, none⟩ ∧ ∀ w', Below w5.heap.size w5 w' → w'.cell? ⟨tb, to + j * 1, none⟩ = some (.int .i8 (tl[j] : Nat)) ∧ w'.cell? ⟨mB, 0 + 31, none⟩ = some (.slice (some ⟨gO, 0, none⟩) tl.length cpO) ∧ w'.cell? ⟨gO, 0 + j * 1, none⟩ = some (.int .i32 (ordJ T tl j : Nat))) := by
            intro j hj
            obtain ⟨tb, to, hta, htc, htb, _, _⟩ := hin.out j (by simpa using hj)
            obtain ⟨gO, hgO, hoc⟩ := hRoot.out.tc j hj
            refine ⟨tb, to, gO, hta, fun w' hb => ⟨?_, ?_, ?_⟩⟩
            · rw [Nat.mul_one, (hdn5.out.trans (hb.mono hdn5.out.size)).cell (p := ⟨tb, to + j, none⟩) htb, htc]; simp
            · have := (hRoot.out.upd (Upd.ofBelow hb)).t
              rw [hgO] at this; rw [Nat.zero_add]; exact this
            · rw [Nat.zero_add, Nat.mul_one]; exact cell_upd hoc (Upd.ofBelow hb) (by simp)
          go_wp2_with (fail)
          go_loopw [26] (fun jv wi => ∃ j : Nat, j ≤ tl.length ∧ jv = .int .i64 j ∧ Hid (Ph F fb N ob fcap b0 bs S0 w5 w8 (sJ T tl j) wi)) (fun jv _ => tl.length - (intOf jv).toNat)
          case atStart => exact ⟨0, by omega, rfl, hPh⟩
          case round =>
            clear hPh
            obtain ⟨j, hj, rfl, hP⟩ := hrel
            by_cases hjt : j < tl.length
            · obtain ⟨tb, to, gO, rfl, hCl⟩ := hCl0.out j hjt
              replace hCl := hide hCl
              go_wp2_with (fail)
              have hPd : Ph F fb N ob fcap b0 bs S0 w5 w8 (sJ T tl j) wr.drew := hP.out.upd (Upd.drew [] wr)
              have hlr := hide hPd.low
              have hcall := hPd.take5 hN.out hTl.out hjt hus'.out
              refine region_anyC (fun w' => w'.cell? ⟨tb, to + j * 1, none⟩ = some (.int .i8 (tl[j] : Nat)) ∧ w'.cell? ⟨mB, 0 + 31, none⟩ = some (.slice (some ⟨gO, 0, none⟩) tl.length cpO) ∧ w'.cell? ⟨gO, 0 + j * 1, none⟩ = some (.int .i32 (ordJ T tl j : Nat))) mixed ?_
              refine anyC_take 0 134 (.pointer (some ⟨fb, 0, none⟩)) rfl rfl (by kernel_rfl) (by kernel_rfl) (by kernel_rfl) (stays_ok rfl (fun _ _ => rfl)) #[true, false, false, false, false, false, false, false, false, false, false] rfl ?_
              simp only [Act.put, List.setIfInBounds_toArray, List.set_cons_succ, List.set_cons_zero]
              refine anyC_take 1 135 (.slice (some ⟨tb, to, none⟩) tl.length cap) rfl rfl (by kernel_rfl) (by kernel_rfl) (by kernel_rfl) (stays_ok rfl (fun _ _ => rfl)) #[true, true, false, false, false, false, false, false, false, false, false] rfl ?_
              simp only [Act.put, List.setIfInBounds_toArray, List.set_cons_succ, List.set_cons_zero]
              refine anyC_take 2 136 (.int .i64 j) rfl rfl (by kernel_rfl) (by kernel_rfl) (by kernel_rfl) (stays_ok rfl (fun _ _ => rfl)) #[true, true, true, false, false, false, false, false, false, false, false] rfl ?_
              simp only [Act.put, List.setIfInBounds_toArray, List.set_cons_succ, List.set_cons_zero]
              refine anyC_take 3 137 (.pointer (some ⟨tb, to + j * 1, none⟩)) rfl rfl (by kernel_rfl) (by kernel_rfl) (by kernel_rfl) (stays_ok rfl (fun w' _ => exec_index es22 rfl rfl hjt w')) #[true, true, true, true, false, false, false, false, false, false, false] rfl ?_
              simp only [Act.put, List.setIfInBounds_toArray, List.set_cons_succ, List.set_cons_zero]
              refine anyC_take 4 138 (.int .i8 (tl[j] : Nat)) rfl rfl (by kernel_rfl) (by kernel_rfl) (by kernel_rfl) (stays_ok rfl (fun w' hw' => exec_load1 one45 rfl hw'.1)) #[true, true, true, true, true, false, false, false, false, false, false] rfl ?_
              simp only [Act.put, List.setIfInBounds_toArray, List.set_cons_succ, List.set_cons_zero]
              refine anyC_take 5 139 (.pointer (some ⟨mB, 0 + 31, none⟩)) rfl rfl (by kernel_rfl) (by kernel_rfl) (by kernel_rfl) (stays_ok rfl (fun w' _ => exec_field fo33_6 rfl w')) #[true, true, true, true, true, true, false, false, false, false, false] rfl ?_
              simp only [Act.put, List.setIfInBounds_toArray, List.set_cons_succ, List.set_cons_zero]
              refine anyC_take 6 140 (.slice (some ⟨gO, 0, none⟩) tl.length cpO) rfl rfl (by kernel_rfl) (by kernel_rfl) (by kernel_rfl) (stays_ok rfl (fun w' hw' => exec_load1 one28 rfl hw'.2.1)) #[true, true, true, true, true, true, true, false, false, false, false] rfl ?_
              simp only [Act.put, List.setIfInBounds_toArray, List.set_cons_succ, List.set_cons_zero]
              refine anyC_take 7 141 (.int .i64 j) rfl rfl (by kernel_rfl) (by kernel_rfl) (by kernel_rfl) (stays_ok rfl (fun _ _ => rfl)) #[true, true, true, true, true, true, true, true, false, false, false] rfl ?_
              simp only [Act.put, List.setIfInBounds_toArray, List.set_cons_succ, List.set_cons_zero]
              refine anyC_take 8 142 (.pointer (some ⟨gO, 0 + j * 1, none⟩)) rfl rfl (by kernel_rfl) (by kernel_rfl) (by kernel_rfl) (stays_ok rfl (fun w' _ => exec_index es28 rfl rfl hjt w')) #[true, true, true, true, true, true, true, true, true, false, false] rfl ?_
              simp only [Act.put, List.setIfInBounds_toArray, List.set_cons_succ, List.set_cons_zero]
              refine anyC_take 9 143 (.int .i32 (ordJ T tl j : Nat)) rfl rfl (by kernel_rfl) (by kernel_rfl) (by kernel_rfl) (stays_ok rfl (fun w' hw' => exec_load1 one21 rfl hw'.2.2)) #[true, true, true, true, true, true, true, true, true, true, false] rfl ?_
              simp only [Act.put, List.setIfInBounds_toArray, List.set_cons_succ, List.set_cons_zero]
              refine anyC_only 10 rfl (by kernel_rfl) (hCl.out _ hlr.out) rfl #[true, true, true, true, true, true, true, true, true, true, true] rfl ?_
              refine wp_call 144 plain16 [.pointer (some ⟨fb, 0, none⟩), .int .i8 (tl[j] : Nat), .int .i32 (ordJ T tl j : Nat)] rfl _ hcall ?_
              rintro e w6 ⟨⟨v6, rfl⟩, hP6⟩
              refine ⟨_, rfl, ?_⟩
              simp only [Act.put, List.setIfInBounds_toArray, List.set_cons_succ, List.set_cons_zero]
              refine anyC_done (by kernel_rfl) (hCl.out _ hP6.low) ?_
              clear hcall hPd hlr
              replace hP6 := hide hP6
              go_wp2_with (fail)
              go_roundw
              case rel => exact ⟨j + 1, by omega, by simp, hP6⟩
              case measure => simp [intOf]; omega
            · obtain rfl : j = tl.length := by omega
              clear hjt hj
              go_wp2_with (fail)
              go_loopw [27] (fun lv wi => ∃ l : Nat, l ≤ 5 ∧ lv = .int .i64 l ∧ Hid (Ph F fb N ob fcap b0 bs S0 w5 w8 (sJ T tl tl.length) wi)) (fun lv _ => 5 - (intOf lv).toNat)
              case atStart => exact ⟨0, by omega, rfl, hP⟩
              case round =>
                clear hP
                obtain ⟨l, hl, rfl, hP⟩ := hrel
                by_cases hl5 : l < 5
                · have hcm := (hTop'.out.upd (Upd.ofBelow hP.out.low)).t l hl5
                  have hNl := hP.out.fs.small l
                  have hR := hide (hP.out.fs.setR l hl5)
                  go_wp2_with (first
                    | (at_make
                       refine wpList_make_full _ rfl _ _ 30 rfl wr.heap.size 4 i4 _ 1 Try.underlying30 hi4 hi4z hi4s _ _ _ _ (N l) rfl rfl rfl rfl (by rw [hi4b]; omega) (by unfold maxLen; omega) (Nat.le_refl _) ?_
                       intro w1' hown hgrow
                       have hU1 : Upd [] wr w1' := Upd.ofGrown hgrow (by intro b e; cases e)
                       have hW1 : Wants w1' (some ⟨wr.heap.size, 0, none⟩) (N l) (sJ T tl tl.length l) := by
                         have hb := ownsRow_blk hown
                         rw [show (Value.bool false).cells = #[Value.bool false] from rfl, Nat.mul_one, toList_madeCells_one] at hb
                         intro i hi
                         refine ⟨wr.heap.size, 0, rfl, ?_⟩
                         rw [hb.cell, List.getElem?_replicate, if_pos (by omega), sJ_all]
                       clear hown hgrow)
                    | (go_at_call 22
                       refine (setMatches_any fb l (N l) (sJ T tl tl.length l) _ _ _ _ _ _ _ hl5 hNl (hR.out.upd hU1) hW1).mono ?_
                       rintro e w2' ⟨rfl, hw⟩
                       obtain rfl := hw.symm))
                  go_roundw
                  case rel => exact ⟨l + 1, by omega, by simp, hP.out.upd hU1⟩
                  case measure => simp [intOf]; omega
                · obtain rfl : l = 5 := by omega
                  simp only [show ((5 : Nat) : Int) = 5 from rfl]
                  clear hl hl5
                  go_wp2_with (fail)
                  go_loopw [28] (fun jv wi => ∃ j : Nat, j ≤ tl.length ∧ jv = .int .i64 ((j : Int) - 1) ∧ Hid (Ph F fb N ob fcap b0 bs S0 w5 w8 (sJ T tl j) wi)) (fun jv _ => (intOf jv + 1).toNat)
                  case atStart => exact ⟨tl.length, by omega, rfl, hP⟩
                  case round =>
                    clear hP
                    obtain ⟨j1, hj1, rfl, hP⟩ := hrel
                    rcases j1 with _ | j
                    · rw [show (((0 : Nat) : Int) - 1) = -1 from rfl]
                      go_wp2_with (fail)
                      have hS0f := hS0.out
                      rw [hS0f] at hP
                      have hS0g := hide hS0f
                      clear hS0f
                      have hsB' := hide hsB.out
                      clear hj1
                      go_loopw [29] (fun lv wi => ∃ l : Nat, l ≤ 5 ∧ lv = .int .i64 l ∧ Hid (Ph F fb N ob fcap b0 bs (sJ T tl 0) w5 w8 (sJ T tl 0) wi)) (fun lv _ => 5 - (intOf lv).toNat)
                      case atStart => exact ⟨0, by omega, rfl, hP⟩
                      case round =>
                        clear hP
                        obtain ⟨l, hl, rfl, hP⟩ := hrel
                        by_cases hl5 : l < 5
                        · have hNl := hP.out.fs.small l
                          obtain ⟨R, hRR⟩ : ∃ R, R = setRows (N l) (sJ T tl 0 l) := ⟨_, rfl⟩
                          obtain ⟨so, hc0, hn0, -⟩ := hP.out.snap hl5
                          have hR := hP.out.fs.setR l hl5
                          have hwd := hR.wd
                          rw [← hRR] at hwd hc0
                          rw [← hsB'.out] at hc0 hn0
                          have h19 := hide (freeN_d hl5 hR.n)
                          have h18 := hide (freeDepth_d hl5 hwd)
                          have hRl : R.length ≤ 8 := by rw [hRR, setRows_len]; have := emptyRows_len (N l) (by omega); omega
                          have hcb := cntB_le (sJ T tl 0 l) (N l)
                          replace hRR := hide hRR; replace hwd := hide hwd; replace hR := hide hR
                          go_wp2_with (fail)
                          go_big_quiet (first | (with_reducible exact h19.out _) | (with_reducible exact h18.out _))
                          have hP1 : Hid (Ph F fb N ob fcap b0 bs (sJ T tl 0) w5 w8 (sJ T tl 0) (wr.drewN nq)) := hP.out.upd (Upd.drewN _ _ _)
                          obtain ⟨W1, hW1⟩ : ∃ x, x = wr.drewN nq := ⟨_, rfl⟩
                          rw [← hW1] at hP1
                          rw [← hW1]
                          clear hW1 hc0 hn0 hwd h19 h18 hR hP
                          go_wp2_with (fail)
                          go_loopw [30] (fun kv wi => ∃ k : Nat, k ≤ R.length ∧ kv = .int .i64 k ∧ Hid (Ph F fb N ob fcap b0 bs (sJ T tl 0) w5 w8 (sJ T tl 0) wi)) (fun kv _ => R.length - (intOf kv).toNat)
                          case atStart => exact ⟨0, by omega, rfl, hP1⟩
                          case round =>
                            clear hP1
                            obtain ⟨k, hk, rfl, hP⟩ := hrel
                            obtain ⟨so, hc0, -, hrows⟩ := hP.out.snap hl5
                            rw [← hRR.out] at hc0 hrows
                            rw [← hsB'.out] at hc0
                            by_cases hkd : k < R.length
                            · have hr : R[k]? = some R[k] := List.getElem?_eq_getElem hkd
                              obtain ⟨r, hrr⟩ : ∃ r, r = R[k] := ⟨_, rfl⟩
                              rw [← hrr] at hr
                              clear hrr
                              have hrl := setRows_rowlen (N l) hNl (sJ T tl 0 l) r (by rw [← hRR.out]; exact List.mem_of_getElem? hr)
                              obtain ⟨b2, hb2⟩ := hrows k r hr
                              have hc1 := hb2.1
                              have hR := hP.out.fs.setR l hl5
                              have hwd := hR.wd
                              rw [← hRR.out] at hwd
                              obtain ⟨b1, hb1⟩ := hR.rowAt (by rw [← hRR.out]; exact hr)
                              have h20 := hide (wordsLen_d hl5 hwd hkd hb1.1)
                              replace hwd := hide hwd; replace hR := hide hR; replace hb1 := hide hb1; replace hb2 := hide hb2; replace hr := hide hr; replace hrows := hide hrows
                              go_wp2_with (fail)
                              go_big_quiet (with_reducible exact h20.out _)
                              have hP1 : Hid (Ph F fb N ob fcap b0 bs (sJ T tl 0) w5 w8 (sJ T tl 0) (wr.drewN nq)) := hP.out.upd (Upd.drewN _ _ _)
                              obtain ⟨W1, hW1⟩ : ∃ x, x = wr.drewN nq := ⟨_, rfl⟩
                              rw [← hW1] at hP1
                              rw [← hW1]
                              clear hW1 hc0 hc1 hwd h20 hR hP hb1 hb2 hrows
                              go_wp2_with (fail)
                              go_loopw [31] (fun jv wi => ∃ j : Nat, j ≤ r.length ∧ jv = .int .i64 j ∧ Hid (Ph F fb N ob fcap b0 bs (sJ T tl 0) w5 w8 (sJ T tl 0) wi)) (fun jv _ => r.length - (intOf jv).toNat)
                              case atStart => exact ⟨0, by omega, rfl, hP1⟩
                              case round =>
                                clear hP1
                                obtain ⟨j, hj, rfl, hP⟩ := hrel
                                obtain ⟨so, hc0, -, hrows⟩ := hP.out.snap hl5
                                rw [← hRR.out] at hc0 hrows
                                rw [← hsB'.out] at hc0
                                obtain ⟨b2, hb2⟩ := hrows k r hr.out
                                have hc1 := hb2.1
                                by_cases hjr : j < r.length
                                · have hx : r[j]? = some r[j] := List.getElem?_eq_getElem hjr
                                  have hc2 := hb2.2 j r[j] hx
                                  have hR := hP.out.fs.setR l hl5
                                  have hwd := hR.wd
                                  rw [← hRR.out] at hwd
                                  obtain ⟨b1, hb1⟩ := hR.rowAt (by rw [← hRR.out]; exact hr.out)
                                  have h21 := hide (word_d hl5 hwd hkd hb1.1 hjr (hb1.2 j r[j] hx))
                                  replace hwd := hide hwd; replace hR := hide hR; replace hb1 := hide hb1; replace hb2 := hide hb2; replace hrows := hide hrows; replace hx := hide hx
                                  go_wp2_with (fail)
                                  go_big_quiet (with_reducible exact h21.out _)
                                  go_wp2_with (fail)
                                  go_roundw
                                  case rel => exact ⟨j + 1, by omega, by simp, hP.out.upd (Upd.drewN _ _ _)⟩
                                  case measure => simp [intOf]; omega
                                · obtain rfl : j = r.length := by omega
                                  replace hb2 := hide hb2; replace hrows := hide hrows
                                  go_wp2_with (fail)
                                  go_roundw
                                  case rel => exact ⟨k + 1, by omega, by simp, hP⟩
                                  case measure => simp [intOf]; omega
                            · obtain rfl : k = R.length := by omega
                              replace hrows := hide hrows
                              go_wp2_with (fail)
                              go_roundw
                              case rel => exact ⟨l + 1, by omega, by simp, hP⟩
                              case measure => simp [intOf]; omega
                        · obtain rfl : l = 5 := by omega
                          simp only [show ((5 : Nat) : Int) = 5 from rfl]
                          have hFI : FSet F fb N ob fcap b0 bs (inJ T tl tl.length) wr := hP.out.fs.ext fun l _ i _ => sJ_zero T tl l i
                          have h14 := hide (freeMatches_any fb mB N (inJ T tl tl.length) ob fcap b0 bs adT cpT wr hFI.small (fun l hl => hFI.setR l hl) (hTop'.out.upd (Upd.ofBelow hP.out.low)))
                          clear hFI
                          go_wp2_with (first
                            | (go_at_call 14
                               refine h14.out.mono ?_
                               rintro e w9 ⟨rfl, hU9⟩))
                          go_ret
                          have hz := hdn5.out.trans (hP.out.low.mono hdn5.out.size)
                          exact ⟨rfl, hz.trans (hU9.below _ (by simp) hz.size)⟩
                    · have hjt : j < tl.length := by omega
                      rw [show (((j + 1 : Nat) : Int) - 1) = (j : Int) by omega]
                      obtain ⟨tb, to, gO, rfl, hCl⟩ := hCl0.out j hjt
                      replace hCl := hide hCl
                      go_wp2_with (fail)
                      have hPd : Ph F fb N ob fcap b0 bs S0 w5 w8 (sJ T tl (j + 1)) wr.drew := hP.out.upd (Upd.drew [] wr)
                      have hlr := hide hPd.low
                      have hcall := hPd.put5 hN.out hTl.out hjt hus'.out
                      refine region_anyC (fun w' => w'.cell? ⟨tb, to + j * 1, none⟩ = some (.int .i8 (tl[j] : Nat)) ∧ w'.cell? ⟨mB, 0 + 31, none⟩ = some (.slice (some ⟨gO, 0, none⟩) tl.length cpO) ∧ w'.cell? ⟨gO, 0 + j * 1, none⟩ = some (.int .i32 (ordJ T tl j : Nat))) mixed ?_
                      refine anyC_take 0 166 (.pointer (some ⟨fb, 0, none⟩)) rfl rfl (by kernel_rfl) (by kernel_rfl) (by kernel_rfl) (stays_ok rfl (fun _ _ => rfl)) #[true, false, false, false, false, false, false, false, false, false, false] rfl ?_
                      simp only [Act.put, List.setIfInBounds_toArray, List.set_cons_succ, List.set_cons_zero]
                      refine anyC_take 1 167 (.slice (some ⟨tb, to, none⟩) tl.length cap) rfl rfl (by kernel_rfl) (by kernel_rfl) (by kernel_rfl) (stays_ok rfl (fun _ _ => rfl)) #[true, true, false, false, false, false, false, false, false, false, false] rfl ?_
                      simp only [Act.put, List.setIfInBounds_toArray, List.set_cons_succ, List.set_cons_zero]
                      refine anyC_take 2 168 (.int .i64 j) rfl rfl (by kernel_rfl) (by kernel_rfl) (by kernel_rfl) (stays_ok rfl (fun _ _ => rfl)) #[true, true, true, false, false, false, false, false, false, false, false] rfl ?_
                      simp only [Act.put, List.setIfInBounds_toArray, List.set_cons_succ, List.set_cons_zero]
                      refine anyC_take 3 169 (.pointer (some ⟨tb, to + j * 1, none⟩)) rfl rfl (by kernel_rfl) (by kernel_rfl) (by kernel_rfl) (stays_ok rfl (fun w' _ => exec_index es22 rfl rfl hjt w')) #[true, true, true, true, false, false, false, false, false, false, false] rfl ?_
                      simp only [Act.put, List.setIfInBounds_toArray, List.set_cons_succ, List.set_cons_zero]
                      refine anyC_take 4 170 (.int .i8 (tl[j] : Nat)) rfl rfl (by kernel_rfl) (by kernel_rfl) (by kernel_rfl) (stays_ok rfl (fun w' hw' => exec_load1 one45 rfl hw'.1)) #[true, true, true, true, true, false, false, false, false, false, false] rfl ?_
                      simp only [Act.put, List.setIfInBounds_toArray, List.set_cons_succ, List.set_cons_zero]
                      refine anyC_take 5 171 (.pointer (some ⟨mB, 0 + 31, none⟩)) rfl rfl (by kernel_rfl) (by kernel_rfl) (by kernel_rfl) (stays_ok rfl (fun w' _ => exec_field fo33_6 rfl w')) #[true, true, true, true, true, true, false, false, false, false, false] rfl ?_
                      simp only [Act.put, List.setIfInBounds_toArray, List.set_cons_succ, List.set_cons_zero]
                      refine anyC_take 6 172 (.slice (some ⟨gO, 0, none⟩) tl.length cpO) rfl rfl (by kernel_rfl) (by kernel_rfl) (by kernel_rfl) (stays_ok rfl (fun w' hw' => exec_load1 one28 rfl hw'.2.1)) #[true, true, true, true, true, true, true, false, false, false, false] rfl ?_
                      simp only [Act.put, List.setIfInBounds_toArray, List.set_cons_succ, List.set_cons_zero]
                      refine anyC_take 7 173 (.int .i64 j) rfl rfl (by kernel_rfl) (by kernel_rfl) (by kernel_rfl) (stays_ok rfl (fun _ _ => rfl)) #[true, true, true, true, true, true, true, true, false, false, false] rfl ?_
                      simp only [Act.put, List.setIfInBounds_toArray, List.set_cons_succ, List.set_cons_zero]
                      refine anyC_take 8 174 (.pointer (some ⟨gO, 0 + j * 1, none⟩)) rfl rfl (by kernel_rfl) (by kernel_rfl) (by kernel_rfl) (stays_ok rfl (fun w' _ => exec_index es28 rfl rfl hjt w')) #[true, true, true, true, true, true, true, true, true, false, false] rfl ?_
                      simp only [Act.put, List.setIfInBounds_toArray, List.set_cons_succ, List.set_cons_zero]
                      refine anyC_take 9 175 (.int .i32 (ordJ T tl j : Nat)) rfl rfl (by kernel_rfl) (by kernel_rfl) (by kernel_rfl) (stays_ok rfl (fun w' hw' => exec_load1 one21 rfl hw'.2.2)) #[true, true, true, true, true, true, true, true, true, true, false] rfl ?_
                      simp only [Act.put, List.setIfInBounds_toArray, List.set_cons_succ, List.set_cons_zero]
                      refine anyC_only 10 rfl (by kernel_rfl) (hCl.out _ hlr.out) rfl #[true, true, true, true, true, true, true, true, true, true, true] rfl ?_
                      refine wp_call 176 plain23 [.pointer (some ⟨fb, 0, none⟩), .int .i8 (tl[j] : Nat), .int .i32 (ordJ T tl j : Nat)] rfl _ hcall ?_
                      rintro e w6 ⟨⟨v6, rfl⟩, hP6⟩
                      refine ⟨_, rfl, ?_⟩
                      simp only [Act.put, List.setIfInBounds_toArray, List.set_cons_succ, List.set_cons_zero]
                      refine anyC_done (by kernel_rfl) (hCl.out _ hP6.low) ?_
                      clear hcall hPd hlr
                      replace hP6 := hide hP6
                      go_wp2_with (fail)
                      go_roundw
                      case rel => exact ⟨j, by omega, by simp, hP6⟩
                      case measure => simp [intOf]
  · have h2 : decide (65536 < ts.length) = true := by simp; omega
    by_cases h3 : ts.length ≤ 1048576
    · rw [decide_eq_true h3] at hby
      go_enter Try.func5, Try.ntmps5
      go_wp2_with (first
        | (go_at_call 17
           refine hby.out.mono ?_
           rintro e w1 ⟨rfl, hw⟩
           obtain rfl := hw.symm))
      go_ret
      exact ⟨rfl, Below.refl _ _⟩
    · rw [decide_eq_false h3] at hby
      go_enter Try.func5, Try.ntmps5
      go_wp2_with (first
        | (go_at_call 17
           refine hby.out.mono ?_
           rintro e w1 ⟨rfl, hw⟩
           obtain rfl := hw.symm))
      go_ret
      exact ⟨rfl, Below.refl _ _⟩
end Go.Proofs.Qxb6609507a
