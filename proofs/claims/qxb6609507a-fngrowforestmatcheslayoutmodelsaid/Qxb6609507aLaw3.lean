import Derived.Test.Qxb6609507aChk
import Derived.Test.Qxb6609507aBuild3
namespace Go.Proofs.Qxb6609507a
set_option linter.unusedVariables false
set_option linter.unusedSimpArgs false
open Go.ChangeShapes Go.WideShapes Go.ChangeAt Go.RowKit
set_option maxRecDepth 100000 in
set_option maxHeartbeats 4000000 in
theorem law3 (a0 a1 a2 a3 : Int) (a : Option Addr) (ts : List Int) (cap : Nat) (linked : Bool) (w : World) (hin : TopsIn w a ts) (hlen : ts.length ≤ 9223372036854775807) :
    Calls Try.prog 3 #[.int .i64 a0, .int .i64 a1, .int .i64 a2, .int .i64 a3, .slice a ts.length cap, .bool linked] w fun e w' => e = .returned (.bool true) ∧ Below w.heap.size w w' := by
  have hby := hide (bytes7 a0 a1 a2 a3 a ts.length cap linked hlen w)
  by_cases h1 : ts.length ≤ 65536
  · have h2 : decide (ts.length ≤ 1048576) = true := by simp; omega
    rw [h2] at hby
    have htopo := hide (topo8 a0 a1 a2 a3 a ts cap w hin h1)
    replace hin := hide hin
    go_enter Try.func3, Try.ntmps3
    go_wp2_with (first
      | (go_at_call 7
         refine hby.out.mono ?_
         rintro e w1 ⟨rfl, hw⟩
         obtain rfl := hw.symm)
      | (go_at_call 8
         refine htopo.out.mono ?_
         rintro e w1 ⟨hbel1, ca, cb, ok, hca, hcb, hoa, hob, rfl, hok⟩
         replace hok := hide hok
         cases ok)
      | ((with_reducible refine gd_store 24 (.tmp 13) (.tmp 36) ?_)
         refine wpl_store rfl ca rfl size24 hca _ ((blk_new' w1 _ _ _ rfl).al _) (by simp) hoa ?_
         intro w2 hb2 hg2
         have hb2' : Blk w2 (w1.heap.size + 1) [.int .i64 0, .int .i64 0, .int .i64 0, .int .i64 0, .int .i64 0, .int .i64 0] 25 := (blk_new' _ _ _ _ (by simp)).upd (Upd.ofGrown (bs := [w1.heap.size]) hg2 (by intro b e; cases e; simp)) (by simp))
      | ((with_reducible refine gd_store 25 (.tmp 14) (.tmp 37) ?_)
         refine wpl_store rfl cb rfl size25 hcb _ hb2' (by simp) hob ?_
         intro w3 hb3 hg3
         have hbel3 : Below w.heap.size w w3 := ((((hbel1.alloc hbel1.size _).alloc (by have := hbel1.size; simp; omega) _).grown hg2 (by have := hbel1.size; simp; omega) (by intro k e; cases e; exact hbel1.size)).grown hg3 (by have := hbel1.size; have := hg2.size; simp at *; omega) (by intro k e; cases e; have := hbel1.size; omega))
         have hB24 : Blk w3 w1.heap.size ca 24 := by
           have h := hb2.upd (Upd.ofGrown (bs := [w1.heap.size + 1]) hg3 (by intro b e; cases e; simp)) (by simp)
           rw [List.take_zero, List.nil_append, List.drop_eq_nil_of_le (by simp), List.append_nil] at h; exact h
         have hB25 : Blk w3 (w1.heap.size + 1) cb 25 := by
           rw [List.take_zero, List.nil_append, List.drop_eq_nil_of_le (by simp), List.append_nil] at hb3; exact hb3)
      | ((with_reducible refine gd_load 24 (.tmp 13) ?_)
         obtain ⟨T, tl, hT, rfl, rfl, rfl, rfl, rfl, hTl, rfl, rfl⟩ := hok.out trivial
         clear hok hb2 hb3 hb2' hg2 hg3 hoa hob hca hcb hby htopo h2
         simp only [List.length_map] at h1 hlen ⊢
         have hinr := hide (hin.out.below hbel3)
         have hlm : (tl.map (fun t : Nat => (t : Int))).length = tl.length := by simp
         have hcall9 := hide (build_any T hT tl hTl h1 a cap w3 hinr.out)
         replace hbw := hide hbel3; replace hT := hide hT; replace hTl := hide hTl; replace hlm := hide hlm
         clear hbel3 hbel1
         replace hB24 := hide hB24; replace hB25 := hide hB25
         refine wpl_load rfl agg24 size24 T.szV rfl (blkCells hB24.out) ?_)
      | ((with_reducible refine gd_load 25 (.tmp 14) ?_)
         refine wpl_load rfl agg25 size25 T.fanV rfl (blkCells hB25.out) ?_)
      | (go_at_call 9
         refine hcall9.out.mono ?_
         rintro e w4 ⟨V, rfl, hV, hbel4⟩)
      | ((with_reducible refine gd_store 33 (.tmp 16) (.tmp 44) ?_)
         refine wpl_store rfl (T.szV ++ T.fanV ++ (List.range 25).map V) rfl size33 (len36 T V) _ (blk_new' w4 _ _ _ rfl) (by simp) (vals_one T V hV) ?_
         intro w5 hb5 hg5)
      | (go_at_call 11
         refine (topo_any T w5).mono ?_
         rintro e w6 ⟨rfl, hbel6⟩
         have hin6 : TopsIn w6 a (tl.map (fun t : Nat => (t : Int))) := hin.out.below (down6 hbw.out hbel4 hg5 hbel6)
         have hcall12 := levels_any a (tl.map (fun t : Nat => (t : Int))) cap w6 hin6 (by rw [hlm.out]; exact h1)
         rw [hlm.out] at hcall12)
      | (go_at_call 12
         refine hcall12.mono ?_
         rintro e w7 ⟨rfl, hbl7, hbel7⟩
         have hcall10 := grow10 T hT.out tl hTl.out h1 linked w6.heap.size w7 (by rw [List.map_map] at hbl7; exact hbl7))
      | (go_at_call 10
         refine hcall10.mono ?_
         rintro e w8 ⟨rfl, hG8, hbel8⟩
         have hU58 : Upd [] w5 w8 := (Upd.ofBelow hbel6).trans ((Upd.ofBelow hbel7).trans (Upd.ofBelow hbel8))
         have hMb : Blk w5 w4.heap.size (T.szV ++ T.fanV ++ (List.range 25).map V) 33 := by
           rw [List.take_zero, List.nil_append, List.drop_eq_nil_of_le (by simp), List.append_nil] at hb5
           exact hb5
         have hV5 : ∀ i, i < 25 → w5.ownsRow w3.heap.size (rowT i) 1 (V i) (XS (stJ T tl tl.length) (roJ T tl tl.length) (runsJ T tl tl.length) i).length (XS (stJ T tl tl.length) (roJ T tl tl.length) (runsJ T tl tl.length) i) := by
           intro i hi
           exact ownsRow_upd (ownsRow_upd (hV i hi) (Upd.alloc [] w4 _) (fun g _ => by simp)) (Upd.ofGrown (bs := [w4.heap.size]) hg5 (by intro b e; cases e; simp)) (fun g hg => by
             have := (own_ge (hV i hi) g hg).2
             simp; omega)
         obtain ⟨ad, cp, hL5⟩ := layR_of hMb hV5
         obtain ⟨lv, lk, ra, ua, rc, uc, hFR⟩ := hG8.fr hTl.out.le
         obtain ⟨F, ob, fcap, b0, bs, hFS, -⟩ := hG8.fset hTl.out
         have hL8 := (lay3_of hTl.out.le hL5).upd hU58
         have hdn6 : Below w.heap.size w w6 := down6 hbw.out hbel4 hg5 hbel6
         have hdn8 : Below w.heap.size w w8 := hdn6.trans3 hbel7 hbel8 hdn6.size
         have hin8 : TopsIn w8 a (tl.map (fun t : Nat => (t : Int))) := hin.out.below hdn8
         rw [show w7.heap.size + 1 + 2 = w7.heap.size + 3 by omega] at hFR hFS
         have h13 := hide (check_any T tl hT.out hTl.out h1 linked (w7.heap.size + 3) (w7.heap.size + 1 + 4) lv lk ra ua rc uc w4.heap.size ad cp a cap w8 hin8 hFR hL8)
         have hFI : FSet F (w7.heap.size + 3) (Nof T tl) ob fcap b0 bs (inJ T tl tl.length) w8 := hFS.ext fun l _ i _ => sJ_zero T tl l i
         replace hFI := hide hFI; replace hL8 := hide hL8; replace hdn8 := hide hdn8
         clear hMb hV5 hL5 hFR hFS hG8 hdn6 hin8)
      | (go_at_call 13
         refine h13.out.mono ?_
         rintro e w9 ⟨rfl, hU9⟩
         have h14 := hide (freeMatches_any (w7.heap.size + 3) w4.heap.size (Nof T tl) (inJ T tl tl.length) ob fcap b0 bs _ _ w9 (fun l => Nof_le hTl.out l) (fun l hl => (hFI.out.upd hU9).setR l hl) (hL8.out.upd hU9).topR))
      | (go_at_call 14
         refine h14.out.mono ?_
         rintro e w10 ⟨rfl, hU10⟩))
    · go_ret
      exact ⟨rfl, hbel3⟩
    · go_ret
      exact ⟨rfl, hdn8.out.trans ((hU9.trans hU10).below _ (by simp) hdn8.out.size)⟩
  · have h2 : decide (65536 < ts.length) = true := by simp; omega
    by_cases h3 : ts.length ≤ 1048576
    · rw [decide_eq_true h3] at hby
      go_enter Try.func3, Try.ntmps3
      go_wp2_with (first
        | (go_at_call 7
           refine hby.out.mono ?_
           rintro e w1 ⟨rfl, hw⟩
           obtain rfl := hw.symm))
      go_ret
      exact ⟨rfl, Below.refl _ _⟩
    · rw [decide_eq_false h3] at hby
      go_enter Try.func3, Try.ntmps3
      go_wp2_with (first
        | (go_at_call 7
           refine hby.out.mono ?_
           rintro e w1 ⟨rfl, hw⟩
           obtain rfl := hw.symm))
      go_ret
      exact ⟨rfl, Below.refl _ _⟩
end Go.Proofs.Qxb6609507a
