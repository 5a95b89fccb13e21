import Derived.Test.Qxb6609507aForest6
namespace Go.Proofs.Qxb6609507a
set_option linter.unusedVariables false
set_option linter.unusedSimpArgs false
open Go.ChangeShapes Go.WideShapes Go.ChangeAt Go.RowKit
set_option maxRecDepth 100000 in
set_option maxHeartbeats 4000000 in
theorem forestL (T : Topo) (hT : T.Ok) (tl : List Nat) (ht : Tops T tl) (htl : tl.length ≤ 65536) (linked : Bool) (hk : linked = true) (lb : Nat) (w : World) (hb : Blk w lb (tl.map fun t : Nat => lvV t) 48) :
    Calls Try.prog 35 #[T.val, .slice (some ⟨lb, 0, none⟩) tl.length tl.length, .bool true] w fun e w' => e = .returned (.pointer (some ⟨w.heap.size + 2, 0, none⟩)) ∧ Grown T tl linked w.heap.size w' ∧ Below w.heap.size w w' := by
  obtain ⟨N, hN⟩ : ∃ N, N = Nof T tl := ⟨_, rfl⟩
  have hNle : Hid (∀ l, N l ≤ 65536) := by intro l; rw [hN]; exact Nof_le ht l
  replace hN := hide hN
  replace hk := hide hk
  replace hb := hide hb
  obtain ⟨i93, hi93, hi93z, hi93s, hi93b⟩ := info_parts info93
  obtain ⟨i98, hi98, hi98z, hi98s, hi98b⟩ := info_parts info98
  obtain ⟨i62, hi62, hi62z, hi62s, hi62b⟩ := info_parts info62
  obtain ⟨i104, hi104, hi104z, hi104s, hi104b⟩ := info_parts info104
  unfold Topo.val
  go_enter Try.func35, Try.ntmps35
  go_wp2_with (fail)
  go_loopw [8] (fun lv wr => ∃ (l : Nat) (Y : Lay), l ≤ 5 ∧ lv = .int .i8 l ∧ Hid (L1 T N linked w.heap.size w l Y wr)) (fun lv _ => 5 - (intOf lv).toNat)
  case atStart =>
    refine ⟨0, Y0 (loOf w.heap.size linked), by omega, rfl, ?_⟩
    have hk' := hk.out
    subst hk'
    refine start_gen ?_ ?_ ?_ ?_ ?_ ?_ ?_
    · exact ((((blk_new' w _ _ _ rfl).al _).al _).al _).al _
    · exact (((blk_new' _ _ _ _ (by simp)).al _).al _).al _
    · exact ((blk_new' _ _ _ _ (by simp)).al _).al _
    · exact (blk_new' _ _ _ _ (by simp)).al _
    · exact fun _ => blk_new' _ _ _ _ (by simp)
    · simp [loOf]
    · exact (((((Below.refl _ _).alloc (by simp) _).alloc (by simp) _).alloc (by simp; omega) _).alloc (by simp; omega) _).alloc (by simp; omega) _
  case round =>
    obtain ⟨l, Y, hl, rfl, L0⟩ := hrel
    by_cases hlt : l < 5
    · skip
      go_wp2_with (fail)
      have hE0 : Env T linked w.heap.size wr.drew := L0.out.env.upd (Upd.drew _ _)
      refine region_anyC (Env T linked w.heap.size) mixed ?_
      refine anyC_take 0 31 (.pointer (some ⟨w.heap.size + 2, 0, none⟩)) rfl rfl (by kernel_rfl) (by kernel_rfl) (by kernel_rfl) (stays_ok rfl (fun w' hw' => exec_load1 one35 rfl (by rw [hw'.fbox.cell]; rfl))) #[true, false, false, false, false, false, false, false, false, false, false, false, false, false, false, false, false, false, false, false] rfl ?_
      simp only [Act.put, List.setIfInBounds_toArray, List.set_cons_succ, List.set_cons_zero]
      refine anyC_take 1 32 (.int .i8 l) rfl rfl (by kernel_rfl) (by kernel_rfl) (by kernel_rfl) (stays_ok rfl (fun _ _ => rfl)) #[true, true, false, false, false, false, false, false, false, false, false, false, false, false, false, false, false, false, false, false] rfl ?_
      simp only [Act.put, List.setIfInBounds_toArray, List.set_cons_succ, List.set_cons_zero]
      refine anyC_take 2 33 (.pointer (some ⟨w.heap.size + 2, 0, none⟩)) rfl rfl (by kernel_rfl) (by kernel_rfl) (by kernel_rfl) (stays_ok rfl (fun w' hw' => exec_load1 one35 rfl (by rw [hw'.fbox.cell]; rfl))) #[true, true, true, false, false, false, false, false, false, false, false, false, false, false, false, false, false, false, false, false] rfl ?_
      simp only [Act.put, List.setIfInBounds_toArray, List.set_cons_succ, List.set_cons_zero]
      refine anyC_take 3 34 (.int .i8 l) rfl rfl (by kernel_rfl) (by kernel_rfl) (by kernel_rfl) (stays_ok rfl (fun _ _ => rfl)) #[true, true, true, true, false, false, false, false, false, false, false, false, false, false, false, false, false, false, false, false] rfl ?_
      simp only [Act.put, List.setIfInBounds_toArray, List.set_cons_succ, List.set_cons_zero]
      refine anyC_take 4 35 (.agg [Value.int .i64 T.g, .int .i64 T.p, .int .i64 T.s, .int .i64 T.n].toArray) rfl rfl (by kernel_rfl) (by kernel_rfl) (by kernel_rfl) (stays_ok rfl (fun w' hw' => exec_loadAgg rfl agg38 size38 _ rfl (blkCells hw'.topo))) #[true, true, true, true, true, false, false, false, false, false, false, false, false, false, false, false, false, false, false, false] rfl ?_
      simp only [Act.put, List.setIfInBounds_toArray, List.set_cons_succ, List.set_cons_zero]
      refine anyC_take 5 36 (.int .i8 l) rfl rfl (by kernel_rfl) (by kernel_rfl) (by kernel_rfl) (stays_ok rfl (fun _ _ => rfl)) #[true, true, true, true, true, true, false, false, false, false, false, false, false, false, false, false, false, false, false, false] rfl ?_
      simp only [Act.put, List.setIfInBounds_toArray, List.set_cons_succ, List.set_cons_zero]
      refine anyC_take 8 39 (.agg [Value.int .i64 T.g, .int .i64 T.p, .int .i64 T.s, .int .i64 T.n].toArray) rfl rfl (by kernel_rfl) (by kernel_rfl) (by kernel_rfl) (stays_ok rfl (fun w' hw' => exec_loadAgg rfl agg38 size38 _ rfl (blkCells hw'.topo))) #[true, true, true, true, true, true, false, false, true, false, false, false, false, false, false, false, false, false, false, false] rfl ?_
      simp only [Act.put, List.setIfInBounds_toArray, List.set_cons_succ, List.set_cons_zero]
      refine anyC_take 9 40 (.int .i8 l) rfl rfl (by kernel_rfl) (by kernel_rfl) (by kernel_rfl) (stays_ok rfl (fun _ _ => rfl)) #[true, true, true, true, true, true, false, false, true, true, false, false, false, false, false, false, false, false, false, false] rfl ?_
      simp only [Act.put, List.setIfInBounds_toArray, List.set_cons_succ, List.set_cons_zero]
      refine anyC_take 12 43 (.pointer (some ⟨w.heap.size + 2, 0, none⟩)) rfl rfl (by kernel_rfl) (by kernel_rfl) (by kernel_rfl) (stays_ok rfl (fun w' _ => exec_nil rfl w')) #[true, true, true, true, true, true, false, false, true, true, false, false, true, false, false, false, false, false, false, false] rfl ?_
      simp only [Act.put, List.setIfInBounds_toArray, List.set_cons_succ, List.set_cons_zero]
      refine anyC_take 13 44 (.pointer (some ⟨w.heap.size + 2, 0 + 28, none⟩)) rfl rfl (by kernel_rfl) (by kernel_rfl) (by kernel_rfl) (stays_ok rfl (fun w' _ => exec_field fo88_6 rfl w')) #[true, true, true, true, true, true, false, false, true, true, false, false, true, true, false, false, false, false, false, false] rfl ?_
      simp only [Act.put, List.setIfInBounds_toArray, List.set_cons_succ, List.set_cons_zero]
      refine anyC_take 16 46 (.pointer (some ⟨w.heap.size + 2, 0, none⟩)) rfl rfl (by kernel_rfl) (by kernel_rfl) (by kernel_rfl) (stays_ok rfl (fun w' _ => exec_nil rfl w')) #[true, true, true, true, true, true, false, false, true, true, false, false, true, true, false, false, true, false, false, false] rfl ?_
      simp only [Act.put, List.setIfInBounds_toArray, List.set_cons_succ, List.set_cons_zero]
      refine anyC_take 17 47 (.pointer (some ⟨w.heap.size + 2, 0 + 33, none⟩)) rfl rfl (by kernel_rfl) (by kernel_rfl) (by kernel_rfl) (stays_ok rfl (fun w' _ => exec_field fo88_7 rfl w')) #[true, true, true, true, true, true, false, false, true, true, false, false, true, true, false, false, true, true, false, false] rfl ?_
      simp only [Act.put, List.setIfInBounds_toArray, List.set_cons_succ, List.set_cons_zero]
      refine anyC_only 6 rfl (by kernel_rfl) hE0 rfl #[true, true, true, true, true, true, true, false, true, true, false, false, true, true, false, false, true, true, false, false] rfl ?_
      refine wp_call 37 plain50 [.agg [Value.int .i64 T.g, .int .i64 T.p, .int .i64 T.s, .int .i64 T.n].toArray, .int .i8 l] rfl _ (size_any T hT l (by omega) _) ?_
      rintro e w1 ⟨rfl, hw1⟩
      have nw1 : Upd [] wr.drew w1 := by rw [hw1]; exact Upd.alloc _ _ _
      have hE1 := hE0.upd (nw1.mono (by simp))
      clear hw1
      refine ⟨_, rfl, ?_⟩
      simp only [Act.put, List.setIfInBounds_toArray, List.set_cons_succ, List.set_cons_zero]
      refine anyC_take 7 38 (.int .i32 (T.sz l)) rfl rfl (by kernel_rfl) (by kernel_rfl) (by kernel_rfl) (stays_ok rfl (fun w' _ => exec_conv32 rfl (hT.sz_le l) w')) #[true, true, true, true, true, true, true, true, true, true, false, false, true, true, false, false, true, true, false, false] rfl ?_
      simp only [Act.put, List.setIfInBounds_toArray, List.set_cons_succ, List.set_cons_zero]
      refine anyC_only 10 rfl (by kernel_rfl) hE1 rfl #[true, true, true, true, true, true, true, true, true, true, true, false, true, true, false, false, true, true, false, false] rfl ?_
      refine wp_call 41 plain51 [.agg [Value.int .i64 T.g, .int .i64 T.p, .int .i64 T.s, .int .i64 T.n].toArray, .int .i8 l] rfl _ (fan_any T l (by omega) _) ?_
      rintro e w2 ⟨rfl, hw2⟩
      have nw2 : Upd [] w1 w2 := by rw [hw2]; exact Upd.alloc _ _ _
      have hE2 := hE1.upd (nw2.mono (by simp))
      clear hw2
      refine ⟨_, rfl, ?_⟩
      simp only [Act.put, List.setIfInBounds_toArray, List.set_cons_succ, List.set_cons_zero]
      refine anyC_take 11 42 (.int .i32 (T.fan l)) rfl rfl (by kernel_rfl) (by kernel_rfl) (by kernel_rfl) (stays_ok rfl (fun w' _ => exec_conv32 rfl (Nat.le_trans (hT.fan_le l) (by omega)) w')) #[true, true, true, true, true, true, true, true, true, true, true, true, true, true, false, false, true, true, false, false] rfl ?_
      simp only [Act.put, List.setIfInBounds_toArray, List.set_cons_succ, List.set_cons_zero]
      refine anyC_take 14 45 (.pointer (some ⟨w.heap.size + 2, 0 + 28 + l, none⟩)) rfl rfl (by kernel_rfl) (by kernel_rfl) (by kernel_rfl) (stays_ok rfl (fun w' _ => exec_arr5 rfl rfl hlt w')) #[true, true, true, true, true, true, true, true, true, true, true, true, true, true, true, false, true, true, false, false] rfl ?_
      simp only [Act.put, List.setIfInBounds_toArray, List.set_cons_succ, List.set_cons_zero]
      have hf2 : Blk w2 (w.heap.size + 2) (Y.fc T N linked w.heap.size l).cells 88 := (L0.out.fb.upd (Upd.drew [] wr) (by simp)).upd (nw1.trans nw2) (by simp)
      refine anyC_only 15 rfl (by kernel_rfl) hE2 rfl #[true, true, true, true, true, true, true, true, true, true, true, true, true, true, true, true, true, true, false, false] rfl ?_
      refine wp_store1 (val := .int .i32 (T.sz l)) size21 rfl rfl rfl rfl hf2 (by simp [FC.len, lkRow]; omega) ?_
      intro w3 hf3 hgw3
      rw [show 0 + 28 + l = 28 + l by omega, FC.set_size _ l hlt] at hf3
      have uw3 : Upd [w.heap.size + 2] w2 w3 := Upd.ofGrown hgw3 (by intro b e; cases e; simp)
      have hE3 := hE2.upd (uw3.mono (by simp))
      clear hgw3
      simp only [Act.put, List.setIfInBounds_toArray, List.set_cons_succ, List.set_cons_zero]
      refine anyC_take 18 48 (.pointer (some ⟨w.heap.size + 2, 0 + 33 + l, none⟩)) rfl rfl (by kernel_rfl) (by kernel_rfl) (by kernel_rfl) (stays_ok rfl (fun w' _ => exec_arr1 Try.underlying86 size21 rfl rfl (show l < 6 by omega) w')) #[true, true, true, true, true, true, true, true, true, true, true, true, true, true, true, true, true, true, true, false] rfl ?_
      simp only [Act.put, List.setIfInBounds_toArray, List.set_cons_succ, List.set_cons_zero]
      refine anyC_only 19 rfl (by kernel_rfl) hE3 rfl #[true, true, true, true, true, true, true, true, true, true, true, true, true, true, true, true, true, true, true, true] rfl ?_
      refine wp_store1 (val := .int .i32 (T.fan l)) size21 rfl rfl rfl rfl hf3 (by simp [FC.len, lkRow]; omega) ?_
      intro w4 hf4 hgw4
      rw [show 0 + 33 + l = 33 + l by omega, FC.set_fan _ l (by omega)] at hf4
      have uw4 : Upd [w.heap.size + 2] w3 w4 := Upd.ofGrown hgw4 (by intro b e; cases e; simp)
      have hE4 := hE3.upd (uw4.mono (by simp))
      clear hgw4
      simp only [Act.put, List.setIfInBounds_toArray, List.set_cons_succ, List.set_cons_zero]
      refine anyC_done (by kernel_rfl) hE4 ?_
      have hNl := hNle.out l
      have hU4 : Hid (Upd [w.heap.size + 2] wr w4) := (Upd.drew [w.heap.size + 2] wr).trans (((nw1.trans nw2).mono (by simp)).trans (uw3.trans uw4))
      clear nw1 nw2 hf2 hf3 uw3 uw4 hE0 hE1 hE2 hE3
      replace hf4 := hide hf4
      replace hE4 := hide hE4
      have hB4 : Hid (Blk w4 lb (tl.map fun t : Nat => lvV t) 48) := (hb.out.below L0.out.bel hb.out.lt).upd hU4.out (by have := hb.out.lt; simp; omega)
      obtain ⟨wr0, hwr0⟩ : ∃ x, x = wr := ⟨_, rfl⟩
      rw [← hwr0] at L0 hU4
      clear hwr0
      go_wp2_with (fail)
      go_loopw [9, 51] (fun nv jv wi => ∃ j : Nat, j ≤ tl.length ∧ jv = .int .i64 j ∧ nv = .int .i64 (cntSum T tl l j : Nat) ∧ Hid (Upd [] w4 wi)) (fun nv jv _ => tl.length - (intOf jv).toNat)
      case atStart => exact ⟨0, Nat.zero_le _, rfl, by simp [cntSum], Upd.refl _ _⟩
      case round =>
        obtain ⟨j, hj, rfl, rfl, hUi⟩ := hrel
        by_cases hjt : j < tl.length
        · have htj : tl[j] ≤ 4 := ht.le _ (List.getElem_mem _)
          have hcj : wr.cell? ⟨lb, j, none⟩ = some (.int .i8 (tl[j] : Nat)) := by
            rw [(hB4.out.upd hUi.out (by simp)).cell]; simp [hjt, lvV]
          have hle := cntSum_le T tl l (j + 1)
          rw [cntSum_succ T tl l j hjt, ← hN.out] at hle
          replace hle := hide hle
          by_cases hlj : l ≤ tl[j]
          · have hpos : 1 ≤ T.sz l := sz_pos_of htj hlj (ht.pos _ (List.getElem_mem _))
            have hdv : Hid (T.sz tl[j] / T.sz l = cntT T tl[j] l) := cntT_div T _ _ htj hlj hpos
            have hsum : cntSum T tl l j + T.sz tl[j] / T.sz l ≤ 4294967296 := by rw [hdv.out]; have := hle.out; omega
            have hEi : Env T linked w.heap.size wr.drew := hE4.out.upd ((hUi.out.mono (by simp)).trans (Upd.drew _ _))
            replace hEi := hide hEi
            go_wp2_with (fail)
            replace hEi := hEi.out
            refine region_anyC (Env T linked w.heap.size) mixed ?_
            refine anyC_take 0 58 (.int .i64 (cntSum T tl l j : Nat)) rfl rfl (by kernel_rfl) (by kernel_rfl) (by kernel_rfl) (stays_ok rfl (fun _ _ => rfl)) #[true, false, false, false, false, false, false, false, false, false] rfl ?_
            simp only [Act.put, List.setIfInBounds_toArray, List.set_cons_succ, List.set_cons_zero]
            refine anyC_take 1 59 (.agg [Value.int .i64 T.g, .int .i64 T.p, .int .i64 T.s, .int .i64 T.n].toArray) rfl rfl (by kernel_rfl) (by kernel_rfl) (by kernel_rfl) (stays_ok rfl (fun w' hw' => exec_loadAgg rfl agg38 size38 _ rfl (blkCells hw'.topo))) #[true, true, false, false, false, false, false, false, false, false] rfl ?_
            simp only [Act.put, List.setIfInBounds_toArray, List.set_cons_succ, List.set_cons_zero]
            refine anyC_take 2 60 (.int .i8 (tl[j] : Nat)) rfl rfl (by kernel_rfl) (by kernel_rfl) (by kernel_rfl) (stays_ok rfl (fun _ _ => rfl)) #[true, true, true, false, false, false, false, false, false, false] rfl ?_
            simp only [Act.put, List.setIfInBounds_toArray, List.set_cons_succ, List.set_cons_zero]
            refine anyC_take 4 62 (.agg [Value.int .i64 T.g, .int .i64 T.p, .int .i64 T.s, .int .i64 T.n].toArray) rfl rfl (by kernel_rfl) (by kernel_rfl) (by kernel_rfl) (stays_ok rfl (fun w' hw' => exec_loadAgg rfl agg38 size38 _ rfl (blkCells hw'.topo))) #[true, true, true, false, true, false, false, false, false, false] rfl ?_
            simp only [Act.put, List.setIfInBounds_toArray, List.set_cons_succ, List.set_cons_zero]
            refine anyC_take 5 63 (.int .i8 l) rfl rfl (by kernel_rfl) (by kernel_rfl) (by kernel_rfl) (stays_ok rfl (fun _ _ => rfl)) #[true, true, true, false, true, true, false, false, false, false] rfl ?_
            simp only [Act.put, List.setIfInBounds_toArray, List.set_cons_succ, List.set_cons_zero]
            refine anyC_only 3 rfl (by kernel_rfl) hEi rfl #[true, true, true, true, true, true, false, false, false, false] rfl ?_
            refine wp_call 61 plain50 [.agg [Value.int .i64 T.g, .int .i64 T.p, .int .i64 T.s, .int .i64 T.n].toArray, .int .i8 (tl[j] : Nat)] rfl _ (size_any T hT tl[j] htj _) ?_
            rintro e v1 ⟨rfl, hv1⟩
            have nv1 : Upd [] wr.drew v1 := by rw [hv1]; exact Upd.alloc _ _ _
            have hEv1 := hEi.upd (nv1.mono (by simp))
            clear hv1
            refine ⟨_, rfl, ?_⟩
            simp only [Act.put, List.setIfInBounds_toArray, List.set_cons_succ, List.set_cons_zero]
            refine anyC_only 6 rfl (by kernel_rfl) hEv1 rfl #[true, true, true, true, true, true, true, false, false, false] rfl ?_
            refine wp_call 64 plain50 [.agg [Value.int .i64 T.g, .int .i64 T.p, .int .i64 T.s, .int .i64 T.n].toArray, .int .i8 l] rfl _ (size_any T hT l (by omega) _) ?_
            rintro e v2 ⟨rfl, hv2⟩
            have nv2 : Upd [] v1 v2 := by rw [hv2]; exact Upd.alloc _ _ _
            have hEv2 := hEv1.upd (nv2.mono (by simp))
            clear hv2
            refine ⟨_, rfl, ?_⟩
            simp only [Act.put, List.setIfInBounds_toArray, List.set_cons_succ, List.set_cons_zero]
            refine anyC_take 7 65 (.int .i64 ((T.sz tl[j] / T.sz l : Nat) : Int)) rfl rfl (by kernel_rfl) (by kernel_rfl) (by kernel_rfl) (stays_ok rfl (fun w' _ => exec_quo64 rfl rfl hpos (Nat.le_trans (hT.sz_le _) (by omega)) w')) #[true, true, true, true, true, true, true, true, false, false] rfl ?_
            simp only [Act.put, List.setIfInBounds_toArray, List.set_cons_succ, List.set_cons_zero]
            refine anyC_take 8 66 (.int .i64 ((cntSum T tl l j + T.sz tl[j] / T.sz l : Nat) : Int)) rfl rfl (by kernel_rfl) (by kernel_rfl) (by kernel_rfl) (stays_ok rfl (fun w' _ => exec_add64 rfl rfl hsum w')) #[true, true, true, true, true, true, true, true, true, false] rfl ?_
            simp only [Act.put, List.setIfInBounds_toArray, List.set_cons_succ, List.set_cons_zero]
            refine anyC_take 9 9 (.int .i64 ((cntSum T tl l j + T.sz tl[j] / T.sz l : Nat) : Int)) rfl rfl (by kernel_rfl) (by kernel_rfl) (by kernel_rfl) (stays_ok rfl (fun _ _ => rfl)) #[true, true, true, true, true, true, true, true, true, true] rfl ?_
            simp only [Act.put, List.setIfInBounds_toArray, List.set_cons_succ, List.set_cons_zero]
            refine anyC_done (by kernel_rfl) hEv2 ?_
            go_wp2_with (fail)
            go_roundw
            case rel => exact ⟨j + 1, by omega, by simp, by rw [cntSum_succ T tl l j hjt, hdv.out], (hUi.out.trans (Upd.drew _ _)).trans (nv1.trans nv2)⟩
            case measure => simp [intOf]; omega
          · go_wp2_with (fail)
            go_roundw
            case rel => exact ⟨j + 1, by omega, by simp, by rw [cntSum_succ T tl l j hjt, cntT_above T _ _ (by omega)]; simp, hUi.out⟩
            case measure => simp [intOf]; omega
        · obtain rfl : j = tl.length := by omega
          rw [cntSum_all T tl l, ← hN.out]
          have hE5 : Env T linked w.heap.size wr.drew := hE4.out.upd ((hUi.out.mono (by simp)).trans (Upd.drew _ _))
          have hf5 := (hf4.out.upd hUi.out (by simp)).upd (Upd.drew [] wr) (by simp)
          replace hE5 := hide hE5
          replace hf5 := hide hf5
          have hNb := hide hNl
          go_wp2_with (fail)
          replace hE5 := hE5.out
          replace hf5 := hf5.out
          refine region_anyC (Env T linked w.heap.size) mixed ?_
          refine anyC_take 0 68 (.pointer (some ⟨w.heap.size + 2, 0, none⟩)) rfl rfl (by kernel_rfl) (by kernel_rfl) (by kernel_rfl) (stays_ok rfl (fun w' hw' => exec_load1 one35 rfl (by rw [hw'.fbox.cell]; rfl))) #[true, false, false, false, false, false, false, false] rfl ?_
          simp only [Act.put, List.setIfInBounds_toArray, List.set_cons_succ, List.set_cons_zero]
          refine anyC_take 1 69 (.int .i8 l) rfl rfl (by kernel_rfl) (by kernel_rfl) (by kernel_rfl) (stays_ok rfl (fun _ _ => rfl)) #[true, true, false, false, false, false, false, false] rfl ?_
          simp only [Act.put, List.setIfInBounds_toArray, List.set_cons_succ, List.set_cons_zero]
          refine anyC_take 2 70 (.int .i64 (N l)) rfl rfl (by kernel_rfl) (by kernel_rfl) (by kernel_rfl) (stays_ok rfl (fun _ _ => rfl)) #[true, true, true, false, false, false, false, false] rfl ?_
          simp only [Act.put, List.setIfInBounds_toArray, List.set_cons_succ, List.set_cons_zero]
          refine anyC_take 4 72 (.pointer (some ⟨w.heap.size + 2, 0, none⟩)) rfl rfl (by kernel_rfl) (by kernel_rfl) (by kernel_rfl) (stays_ok rfl (fun w' _ => exec_nil rfl w')) #[true, true, true, false, true, false, false, false] rfl ?_
          simp only [Act.put, List.setIfInBounds_toArray, List.set_cons_succ, List.set_cons_zero]
          refine anyC_take 5 73 (.pointer (some ⟨w.heap.size + 2, 0 + 2, none⟩)) rfl rfl (by kernel_rfl) (by kernel_rfl) (by kernel_rfl) (stays_ok rfl (fun w' _ => exec_field fo88_2 rfl w')) #[true, true, true, false, true, true, false, false] rfl ?_
          simp only [Act.put, List.setIfInBounds_toArray, List.set_cons_succ, List.set_cons_zero]
          refine anyC_only 3 rfl (by kernel_rfl) hE5 rfl #[true, true, true, true, true, true, false, false] rfl ?_
          refine wp_makeN (zc := cell0) (by decide) Try.underlying82 hi93 hi93z rfl hi93s rfl (by rw [hi93b]; omega) (by unfold maxLen; omega) ?_
          intro w6 hc6 n6 _
          have hE6 := hE5.upd (n6.mono (by simp))
          simp only [Act.put, List.setIfInBounds_toArray, List.set_cons_succ, List.set_cons_zero]
          refine anyC_take 6 74 (.pointer (some ⟨w.heap.size + 2, 0 + 2 + l, none⟩)) rfl rfl (by kernel_rfl) (by kernel_rfl) (by kernel_rfl) (stays_ok rfl (fun w' _ => exec_arr1 Try.underlying83 size82 rfl rfl hlt w')) #[true, true, true, true, true, true, true, false] rfl ?_
          simp only [Act.put, List.setIfInBounds_toArray, List.set_cons_succ, List.set_cons_zero]
          have hf6 := hf5.upd n6 (by simp)
          refine anyC_only 7 rfl (by kernel_rfl) hE6 rfl #[true, true, true, true, true, true, true, true] rfl ?_
          refine wp_store1 (val := .slice (some ⟨wr.drew.heap.size, 0, none⟩) (N l) (N l)) size82 rfl rfl rfl rfl hf6 (by simp [FC.len, lkRow]; omega) ?_
          intro w7 hf7 hgw7
          rw [show 0 + 2 + l = 2 + l by omega, FC.set_lvl _ l hlt] at hf7
          have uw7 : Upd [w.heap.size + 2] w6 w7 := Upd.ofGrown hgw7 (by intro b e; cases e; simp)
          have hE7 := hE6.upd (uw7.mono (by simp))
          clear hgw7
          simp only [Act.put, List.setIfInBounds_toArray, List.set_cons_succ, List.set_cons_zero]
          refine anyC_done (by kernel_rfl) hE7 ?_
          replace hf7 := hide hf7
          have hE8 : Env T linked w.heap.size w7.drew := hE7.upd (Upd.drew _ _)
          replace hE8 := hide hE8
          clear hE5 hE6 hE7
          replace hc6 := hide hc6
          replace n6 := hide n6
          replace uw7 := hide uw7
          clear hf5 hf6
          go_wp2_with (fail)
          replace hE8 := hE8.out
          have hf8 := hf7.out.upd (Upd.drew [] w7) (by simp)
          refine region_anyC (Env T linked w.heap.size) mixed ?_
          refine anyC_take 0 75 (.pointer (some ⟨w.heap.size + 2, 0, none⟩)) rfl rfl (by kernel_rfl) (by kernel_rfl) (by kernel_rfl) (stays_ok rfl (fun w' hw' => exec_load1 one35 rfl (by rw [hw'.fbox.cell]; rfl))) #[true, false, false, false, false, false, false, false] rfl ?_
          simp only [Act.put, List.setIfInBounds_toArray, List.set_cons_succ, List.set_cons_zero]
          refine anyC_take 1 76 (.int .i8 l) rfl rfl (by kernel_rfl) (by kernel_rfl) (by kernel_rfl) (stays_ok rfl (fun _ _ => rfl)) #[true, true, false, false, false, false, false, false] rfl ?_
          simp only [Act.put, List.setIfInBounds_toArray, List.set_cons_succ, List.set_cons_zero]
          refine anyC_take 2 77 (.int .i64 (N l)) rfl rfl (by kernel_rfl) (by kernel_rfl) (by kernel_rfl) (stays_ok rfl (fun _ _ => rfl)) #[true, true, true, false, false, false, false, false] rfl ?_
          simp only [Act.put, List.setIfInBounds_toArray, List.set_cons_succ, List.set_cons_zero]
          refine anyC_take 4 79 (.pointer (some ⟨w.heap.size + 2, 0, none⟩)) rfl rfl (by kernel_rfl) (by kernel_rfl) (by kernel_rfl) (stays_ok rfl (fun w' _ => exec_nil rfl w')) #[true, true, true, false, true, false, false, false] rfl ?_
          simp only [Act.put, List.setIfInBounds_toArray, List.set_cons_succ, List.set_cons_zero]
          refine anyC_take 5 80 (.pointer (some ⟨w.heap.size + 2, 0 + 7, none⟩)) rfl rfl (by kernel_rfl) (by kernel_rfl) (by kernel_rfl) (stays_ok rfl (fun w' _ => exec_field fo88_3 rfl w')) #[true, true, true, false, true, true, false, false] rfl ?_
          simp only [Act.put, List.setIfInBounds_toArray, List.set_cons_succ, List.set_cons_zero]
          refine anyC_only 3 rfl (by kernel_rfl) hE8 rfl #[true, true, true, true, true, true, false, false] rfl ?_
          refine wp_call 78 plain52 [.int .i64 (N l)] rfl _ (new_any (N l) (by omega) _) ?_
          rintro e w9 ⟨ob, cap, bs, b0, l0, rfl, hrw9, hob9, hge9, hb09, hl09, hbel9⟩
          have n9 : Upd [] w7.drew w9 := Upd.ofBelow hbel9
          have hE9 := hE8.upd (n9.mono (by simp))
          refine ⟨_, rfl, ?_⟩
          simp only [Act.put, List.setIfInBounds_toArray, List.set_cons_succ, List.set_cons_zero]
          refine anyC_take 6 81 (.pointer (some ⟨w.heap.size + 2, 0 + 7 + l * 3, none⟩)) rfl rfl (by kernel_rfl) (by kernel_rfl) (by kernel_rfl) (stays_ok rfl (fun w' _ => exec_arrN Try.underlying84 size79 rfl rfl hlt w')) #[true, true, true, true, true, true, true, false] rfl ?_
          simp only [Act.put, List.setIfInBounds_toArray, List.set_cons_succ, List.set_cons_zero]
          have hf9 := hf8.upd n9 (by simp)
          refine anyC_only 7 rfl (by kernel_rfl) hE9 rfl #[true, true, true, true, true, true, true, true] rfl ?_
          refine wp_storeN rfl [.slice (some ⟨ob, 0, none⟩) (emptyRows (N l)).length cap, .slice (some ⟨b0, 0, none⟩) l0 l0, .int .i64 0] rfl size79 rfl _ hf9 (by rw [FC.len]; omega) (by simp [Value.oneCell']) ?_
          intro w10 hf10 hgw10
          rw [show 0 + 7 + l * 3 = 7 + l * 3 by omega, FC.set_free _ l hlt] at hf10
          have uw10 : Upd [w.heap.size + 2] w9 w10 := Upd.ofGrown hgw10 (by intro b e; cases e; simp)
          have hE10 := hE9.upd (uw10.mono (by simp))
          clear hgw10
          simp only [Act.put, List.setIfInBounds_toArray, List.set_cons_succ, List.set_cons_zero]
          refine anyC_done (by kernel_rfl) hE10 ?_
          have hlb10 : w10.cell? ⟨w.heap.size + 1, 0, none⟩ = some (.bool true) := by rw [hE10.lbox.cell, ← hk.out]; rfl
          replace hf10 := hide hf10
          replace hE10 := hide hE10
          replace uw10 := hide uw10
          replace n9 := hide n9
          clear hf8 hf9 hE8 hE9
          replace hrw9 := hide hrw9; replace hob9 := hide hob9; replace hge9 := hide hge9; replace hb09 := hide hb09; replace hl09 := hide hl09; clear hbel9
          have hU10 : Hid (Upd [w.heap.size + 2] wr0 w10) := hU4.out.trans ((hUi.out.mono (by simp)).trans ((Upd.drew _ _).trans ((n6.out.mono (by simp)).trans (uw7.out.trans ((Upd.drew _ _).trans ((n9.out.mono (by simp)).trans uw10.out))))))
          have hE11 : Env T linked w.heap.size w10.drew := hE10.out.upd (Upd.drew _ _)
          have hk11 : Blk w10.drew (w.heap.size + 4) (lkRow Y N l) 99 := ((L0.out.lkb hk.out).upd hU10.out (by simp)).upd (Upd.drew [] w10) (by simp)
          have hp11 : w10.drew.cell? ⟨w.heap.size + 2, 22, none⟩ = some (.pointer (some ⟨w.heap.size + 4, 0, none⟩)) := by
            have h1 := hf10.out.cell 22
            have h2 : w10.drew.cell? ⟨w.heap.size + 2, 22, none⟩ = w10.cell? ⟨w.heap.size + 2, 22, none⟩ := rfl
            rw [h2, h1]
            show some (if linked then Value.pointer (some ⟨w.heap.size + 4, 0, none⟩) else .pointer none) = _
            rw [hk.out]; rfl
          replace hE11 := hide hE11; replace hk11 := hide hk11; replace hp11 := hide hp11
          go_wp2_with (fail)
          replace hE11 := hE11.out; replace hk11 := hk11.out; replace hp11 := hp11.out
          refine region_anyC (fun w' => Env T linked w.heap.size w' ∧ w'.cell? ⟨w.heap.size + 2, 22, none⟩ = some (.pointer (some ⟨w.heap.size + 4, 0, none⟩))) mixed ?_
          refine anyC_take 0 83 (.pointer (some ⟨w.heap.size + 2, 0, none⟩)) rfl rfl (by kernel_rfl) (by kernel_rfl) (by kernel_rfl) (stays_ok rfl (fun w' hw' => exec_load1 one35 rfl (by rw [hw'.1.fbox.cell]; rfl))) #[true, false, false, false, false, false, false, false, false, false] rfl ?_
          simp only [Act.put, List.setIfInBounds_toArray, List.set_cons_succ, List.set_cons_zero]
          refine anyC_take 1 84 (.pointer (some ⟨w.heap.size + 2, 0, none⟩)) rfl rfl (by kernel_rfl) (by kernel_rfl) (by kernel_rfl) (stays_ok rfl (fun w' _ => exec_nil rfl w')) #[true, true, false, false, false, false, false, false, false, false] rfl ?_
          simp only [Act.put, List.setIfInBounds_toArray, List.set_cons_succ, List.set_cons_zero]
          refine anyC_take 2 85 (.pointer (some ⟨w.heap.size + 2, 0 + 22, none⟩)) rfl rfl (by kernel_rfl) (by kernel_rfl) (by kernel_rfl) (stays_ok rfl (fun w' _ => exec_field fo88_4 rfl w')) #[true, true, true, false, false, false, false, false, false, false] rfl ?_
          simp only [Act.put, List.setIfInBounds_toArray, List.set_cons_succ, List.set_cons_zero]
          refine anyC_take 3 86 (.pointer (some ⟨w.heap.size + 4, 0, none⟩)) rfl rfl (by kernel_rfl) (by kernel_rfl) (by kernel_rfl) (stays_ok rfl (fun w' hw' => exec_load1 one59 rfl hw'.2)) #[true, true, true, true, false, false, false, false, false, false] rfl ?_
          simp only [Act.put, List.setIfInBounds_toArray, List.set_cons_succ, List.set_cons_zero]
          refine anyC_take 4 87 (.int .i8 l) rfl rfl (by kernel_rfl) (by kernel_rfl) (by kernel_rfl) (stays_ok rfl (fun _ _ => rfl)) #[true, true, true, true, true, false, false, false, false, false] rfl ?_
          simp only [Act.put, List.setIfInBounds_toArray, List.set_cons_succ, List.set_cons_zero]
          refine anyC_take 5 88 (.int .i64 (N l)) rfl rfl (by kernel_rfl) (by kernel_rfl) (by kernel_rfl) (stays_ok rfl (fun _ _ => rfl)) #[true, true, true, true, true, true, false, false, false, false] rfl ?_
          simp only [Act.put, List.setIfInBounds_toArray, List.set_cons_succ, List.set_cons_zero]
          refine anyC_take 7 90 (.pointer (some ⟨w.heap.size + 4, 0, none⟩)) rfl rfl (by kernel_rfl) (by kernel_rfl) (by kernel_rfl) (stays_ok rfl (fun w' _ => exec_nil rfl w')) #[true, true, true, true, true, true, false, true, false, false] rfl ?_
          simp only [Act.put, List.setIfInBounds_toArray, List.set_cons_succ, List.set_cons_zero]
          refine anyC_only 6 rfl (by kernel_rfl) ⟨hE11, hp11⟩ rfl #[true, true, true, true, true, true, true, true, false, false] rfl ?_
          refine wp_makeN (zc := link0) (by decide) Try.underlying91 hi98 hi98z rfl hi98s rfl (by rw [hi98b]; omega) (by unfold maxLen; omega) ?_
          intro w12 hc12 n12 _
          have hE12 := hE11.upd (n12.mono (by simp))
          have hp12 := cell_upd hp11 n12 (by simp)
          simp only [Act.put, List.setIfInBounds_toArray, List.set_cons_succ, List.set_cons_zero]
          refine anyC_take 8 91 (.pointer (some ⟨w.heap.size + 4, 0 + l, none⟩)) rfl rfl (by kernel_rfl) (by kernel_rfl) (by kernel_rfl) (stays_ok rfl (fun w' _ => exec_arr1 Try.underlying99 size91 rfl rfl hlt w')) #[true, true, true, true, true, true, true, true, true, false] rfl ?_
          simp only [Act.put, List.setIfInBounds_toArray, List.set_cons_succ, List.set_cons_zero]
          have hk12 := hk11.upd n12 (by simp)
          refine anyC_only 9 rfl (by kernel_rfl) ⟨hE12, hp12⟩ rfl #[true, true, true, true, true, true, true, true, true, true] rfl ?_
          refine wp_store1 (val := .slice (some ⟨w10.drew.heap.size, 0, none⟩) (N l) (N l)) size91 rfl rfl rfl rfl hk12 (by simp [lkRow]; omega) ?_
          intro w13 hk13 hg13
          have u13 : Upd [w.heap.size + 4] w12 w13 := Upd.ofGrown hg13 (by intro b e; cases e; simp)
          have hE13 := hE12.upd (u13.mono (by simp))
          have hp13 := cell_upd hp12 u13 (by simp)
          clear hg13
          simp only [Act.put, List.setIfInBounds_toArray, List.set_cons_succ, List.set_cons_zero]
          refine anyC_done (by kernel_rfl) ⟨hE13, hp13⟩ ?_
          replace hk13 := hide hk13; replace hE13 := hide hE13; replace u13 := hide u13; replace hc12 := hide hc12; replace n12 := hide n12
          clear hp13 hp12 hp11 hE11 hE12 hk11 hk12
          go_wp2_with (fail)
          go_roundw
          case rel =>
            have hk' := hk.out
            subst hk'
            obtain ⟨Y', hY'⟩ := L1.nextL L0.out hlt ((hU4.out.trans (hUi.out.mono (by simp))).trans (Upd.drew _ _)) n6.out uw7.out ((Upd.drew _ _).trans n9.out) uw10.out ((Upd.drew _ _).trans n12.out) u13.out hc6.out hrw9.out hob9.out hge9.out hb09.out hl09.out hc12.out hE13.out hf10.out hk13.out
            exact ⟨l + 1, Y', by omega, by simp, hY'⟩
          case measure => simp [intOf]; omega
    · skip
      obtain rfl : l = 5 := by omega
      simp only [show ((5 : Nat) : Int) = 5 from rfl]
      obtain ⟨wr0, hwr0⟩ : ∃ x, x = wr := ⟨_, rfl⟩
      have hbel0 : w.heap.size ≤ wr.heap.size := L0.out.bel_size
      go_wp2_with (fail)
      go_loopw [12] (fun mv wi => ∃ m : Nat, m ≤ 4 ∧ mv = .int .i8 m ∧ Hid (Upd [w.heap.size + 2] wr0 wi) ∧ Hid (Blk wi (w.heap.size + 2) { Y.fc T N linked w.heap.size 5 with inner := innerV N T m }.cells 88)) (fun mv _ => 4 - (intOf mv).toNat)
      case atStart => exact ⟨0, by omega, rfl, by rw [hwr0]; exact Upd.refl _ _, L0.out.fb⟩
      case round =>
        rw [← hwr0] at L0
        clear hwr0 hbel0
        obtain ⟨m, hm, rfl, hU3, hf3⟩ := hrel
        by_cases hm4 : m < 4
        · have hNm := hNle.out (m + 1)
          have hfm := hT.fan_le (m + 1)
          have hin : N (m + 1) * T.fan (m + 1) ≤ 2147483647 := by
            have h1 := inner_le T tl m
            have h2 := hNle.out m
            rw [← hN.out] at h1; omega
          have hC0 : Hid (Env T linked w.heap.size wr.drew ∧ wr.drew.cell? ⟨w.heap.size + 2, 2 + (m + 1), none⟩ = some (.slice (some ⟨Y.lv (m + 1), 0, none⟩) (N (m + 1)) (N (m + 1))) ∧ wr.drew.cell? ⟨w.heap.size + 2, 33 + (m + 1), none⟩ = some (.int .i32 (T.fan (m + 1)))) := by
            refine ⟨L0.out.env.upd ((hU3.out.mono (by simp)).trans (Upd.drew _ _)), ?_, ?_⟩
            · show wr.cell? _ = _
              rw [hf3.out.cell, FC.get_lvl _ _ (by omega)]
              simp [Lay.fc, show m + 1 < 5 by omega]
            · show wr.cell? _ = _
              rw [hf3.out.cell, FC.get_fan _ _ (by omega)]
              simp [Lay.fc, show m + 1 < 5 by omega]
          replace hin := hide hin
          go_wp2_with (fail)
          replace hin := hin.out
          replace hC0 := hC0.out
          refine region_anyC (fun w' => Env T linked w.heap.size w' ∧ w'.cell? ⟨w.heap.size + 2, 2 + (m + 1), none⟩ = some (.slice (some ⟨Y.lv (m + 1), 0, none⟩) (N (m + 1)) (N (m + 1))) ∧ w'.cell? ⟨w.heap.size + 2, 33 + (m + 1), none⟩ = some (.int .i32 (T.fan (m + 1)))) mixed ?_
          refine anyC_take 0 97 (.pointer (some ⟨w.heap.size + 2, 0, none⟩)) rfl rfl (by kernel_rfl) (by kernel_rfl) (by kernel_rfl) (stays_ok rfl (fun w' hw' => exec_load1 one35 rfl (by rw [hw'.1.fbox.cell]; rfl))) #[true, false, false, false, false, false, false, false, false, false, false, false, false, false, false, false, false, false, false, false, false, false, false] rfl ?_
          simp only [Act.put, List.setIfInBounds_toArray, List.set_cons_succ, List.set_cons_zero]
          refine anyC_take 1 98 (.int .i8 m) rfl rfl (by kernel_rfl) (by kernel_rfl) (by kernel_rfl) (stays_ok rfl (fun _ _ => rfl)) #[true, true, false, false, false, false, false, false, false, false, false, false, false, false, false, false, false, false, false, false, false, false, false] rfl ?_
          simp only [Act.put, List.setIfInBounds_toArray, List.set_cons_succ, List.set_cons_zero]
          refine anyC_take 2 99 (.pointer (some ⟨w.heap.size + 2, 0, none⟩)) rfl rfl (by kernel_rfl) (by kernel_rfl) (by kernel_rfl) (stays_ok rfl (fun w' hw' => exec_load1 one35 rfl (by rw [hw'.1.fbox.cell]; rfl))) #[true, true, true, false, false, false, false, false, false, false, false, false, false, false, false, false, false, false, false, false, false, false, false] rfl ?_
          simp only [Act.put, List.setIfInBounds_toArray, List.set_cons_succ, List.set_cons_zero]
          refine anyC_take 3 100 (.int .i8 m) rfl rfl (by kernel_rfl) (by kernel_rfl) (by kernel_rfl) (stays_ok rfl (fun _ _ => rfl)) #[true, true, true, true, false, false, false, false, false, false, false, false, false, false, false, false, false, false, false, false, false, false, false] rfl ?_
          simp only [Act.put, List.setIfInBounds_toArray, List.set_cons_succ, List.set_cons_zero]
          refine anyC_take 4 101 (.int .i8 ((m + 1 : Nat) : Int)) rfl rfl (by kernel_rfl) (by kernel_rfl) (by kernel_rfl) (stays_ok rfl (fun w' _ => exec_add8 rfl (by omega) w')) #[true, true, true, true, true, false, false, false, false, false, false, false, false, false, false, false, false, false, false, false, false, false, false] rfl ?_
          simp only [Act.put, List.setIfInBounds_toArray, List.set_cons_succ, List.set_cons_zero]
          refine anyC_take 5 102 (.pointer (some ⟨w.heap.size + 2, 0, none⟩)) rfl rfl (by kernel_rfl) (by kernel_rfl) (by kernel_rfl) (stays_ok rfl (fun w' _ => exec_nil rfl w')) #[true, true, true, true, true, true, false, false, false, false, false, false, false, false, false, false, false, false, false, false, false, false, false] rfl ?_
          simp only [Act.put, List.setIfInBounds_toArray, List.set_cons_succ, List.set_cons_zero]
          refine anyC_take 6 103 (.pointer (some ⟨w.heap.size + 2, 0 + 2, none⟩)) rfl rfl (by kernel_rfl) (by kernel_rfl) (by kernel_rfl) (stays_ok rfl (fun w' _ => exec_field fo88_2 rfl w')) #[true, true, true, true, true, true, true, false, false, false, false, false, false, false, false, false, false, false, false, false, false, false, false] rfl ?_
          simp only [Act.put, List.setIfInBounds_toArray, List.set_cons_succ, List.set_cons_zero]
          refine anyC_take 7 104 (.pointer (some ⟨w.heap.size + 2, 0 + 2 + (m + 1), none⟩)) rfl rfl (by kernel_rfl) (by kernel_rfl) (by kernel_rfl) (stays_ok rfl (fun w' _ => exec_arr1 (l := m + 1) Try.underlying83 size82 rfl rfl (by omega) w')) #[true, true, true, true, true, true, true, true, false, false, false, false, false, false, false, false, false, false, false, false, false, false, false] rfl ?_
          simp only [Act.put, List.setIfInBounds_toArray, List.set_cons_succ, List.set_cons_zero]
          refine anyC_take 8 105 (.slice (some ⟨Y.lv (m + 1), 0, none⟩) (N (m + 1)) (N (m + 1))) rfl rfl (by kernel_rfl) (by kernel_rfl) (by kernel_rfl) (stays_ok rfl (fun w' hw' => exec_load1 one82 rfl (by rw [Nat.zero_add]; exact hw'.2.1))) #[true, true, true, true, true, true, true, true, true, false, false, false, false, false, false, false, false, false, false, false, false, false, false] rfl ?_
          simp only [Act.put, List.setIfInBounds_toArray, List.set_cons_succ, List.set_cons_zero]
          refine anyC_take 9 106 (.int .i64 (N (m + 1))) rfl rfl (by kernel_rfl) (by kernel_rfl) (by kernel_rfl) (stays_ok rfl (fun w' _ => exec_len elem82 rfl w')) #[true, true, true, true, true, true, true, true, true, true, false, false, false, false, false, false, false, false, false, false, false, false, false] rfl ?_
          simp only [Act.put, List.setIfInBounds_toArray, List.set_cons_succ, List.set_cons_zero]
          refine anyC_take 10 107 (.int .i32 (N (m + 1))) rfl rfl (by kernel_rfl) (by kernel_rfl) (by kernel_rfl) (stays_ok rfl (fun w' _ => exec_conv32 rfl (by omega) w')) #[true, true, true, true, true, true, true, true, true, true, true, false, false, false, false, false, false, false, false, false, false, false, false] rfl ?_
          simp only [Act.put, List.setIfInBounds_toArray, List.set_cons_succ, List.set_cons_zero]
          refine anyC_take 11 108 (.pointer (some ⟨w.heap.size + 2, 0, none⟩)) rfl rfl (by kernel_rfl) (by kernel_rfl) (by kernel_rfl) (stays_ok rfl (fun w' hw' => exec_load1 one35 rfl (by rw [hw'.1.fbox.cell]; rfl))) #[true, true, true, true, true, true, true, true, true, true, true, true, false, false, false, false, false, false, false, false, false, false, false] rfl ?_
          simp only [Act.put, List.setIfInBounds_toArray, List.set_cons_succ, List.set_cons_zero]
          refine anyC_take 12 109 (.int .i8 m) rfl rfl (by kernel_rfl) (by kernel_rfl) (by kernel_rfl) (stays_ok rfl (fun _ _ => rfl)) #[true, true, true, true, true, true, true, true, true, true, true, true, true, false, false, false, false, false, false, false, false, false, false] rfl ?_
          simp only [Act.put, List.setIfInBounds_toArray, List.set_cons_succ, List.set_cons_zero]
          refine anyC_take 13 110 (.int .i8 ((m + 1 : Nat) : Int)) rfl rfl (by kernel_rfl) (by kernel_rfl) (by kernel_rfl) (stays_ok rfl (fun w' _ => exec_add8 rfl (by omega) w')) #[true, true, true, true, true, true, true, true, true, true, true, true, true, true, false, false, false, false, false, false, false, false, false] rfl ?_
          simp only [Act.put, List.setIfInBounds_toArray, List.set_cons_succ, List.set_cons_zero]
          refine anyC_take 14 111 (.pointer (some ⟨w.heap.size + 2, 0, none⟩)) rfl rfl (by kernel_rfl) (by kernel_rfl) (by kernel_rfl) (stays_ok rfl (fun w' _ => exec_nil rfl w')) #[true, true, true, true, true, true, true, true, true, true, true, true, true, true, true, false, false, false, false, false, false, false, false] rfl ?_
          simp only [Act.put, List.setIfInBounds_toArray, List.set_cons_succ, List.set_cons_zero]
          refine anyC_take 15 112 (.pointer (some ⟨w.heap.size + 2, 0 + 33, none⟩)) rfl rfl (by kernel_rfl) (by kernel_rfl) (by kernel_rfl) (stays_ok rfl (fun w' _ => exec_field fo88_7 rfl w')) #[true, true, true, true, true, true, true, true, true, true, true, true, true, true, true, true, false, false, false, false, false, false, false] rfl ?_
          simp only [Act.put, List.setIfInBounds_toArray, List.set_cons_succ, List.set_cons_zero]
          refine anyC_take 16 113 (.pointer (some ⟨w.heap.size + 2, 0 + 33 + (m + 1), none⟩)) rfl rfl (by kernel_rfl) (by kernel_rfl) (by kernel_rfl) (stays_ok rfl (fun w' _ => exec_arr1 (l := m + 1) Try.underlying86 size21 rfl rfl (by omega) w')) #[true, true, true, true, true, true, true, true, true, true, true, true, true, true, true, true, true, false, false, false, false, false, false] rfl ?_
          simp only [Act.put, List.setIfInBounds_toArray, List.set_cons_succ, List.set_cons_zero]
          refine anyC_take 17 114 (.int .i32 (T.fan (m + 1))) rfl rfl (by kernel_rfl) (by kernel_rfl) (by kernel_rfl) (stays_ok rfl (fun w' hw' => exec_load1 one21 rfl (by rw [Nat.zero_add]; exact hw'.2.2))) #[true, true, true, true, true, true, true, true, true, true, true, true, true, true, true, true, true, true, false, false, false, false, false] rfl ?_
          simp only [Act.put, List.setIfInBounds_toArray, List.set_cons_succ, List.set_cons_zero]
          refine anyC_take 18 115 (.int .i32 ((N (m + 1) * T.fan (m + 1) : Nat) : Int)) rfl rfl (by kernel_rfl) (by kernel_rfl) (by kernel_rfl) (stays_ok rfl (fun w' _ => exec_mul32 rfl rfl hin w')) #[true, true, true, true, true, true, true, true, true, true, true, true, true, true, true, true, true, true, true, false, false, false, false] rfl ?_
          simp only [Act.put, List.setIfInBounds_toArray, List.set_cons_succ, List.set_cons_zero]
          refine anyC_take 19 116 (.pointer (some ⟨w.heap.size + 2, 0, none⟩)) rfl rfl (by kernel_rfl) (by kernel_rfl) (by kernel_rfl) (stays_ok rfl (fun w' _ => exec_nil rfl w')) #[true, true, true, true, true, true, true, true, true, true, true, true, true, true, true, true, true, true, true, true, false, false, false] rfl ?_
          simp only [Act.put, List.setIfInBounds_toArray, List.set_cons_succ, List.set_cons_zero]
          refine anyC_take 20 117 (.pointer (some ⟨w.heap.size + 2, 0 + 23, none⟩)) rfl rfl (by kernel_rfl) (by kernel_rfl) (by kernel_rfl) (stays_ok rfl (fun w' _ => exec_field fo88_5 rfl w')) #[true, true, true, true, true, true, true, true, true, true, true, true, true, true, true, true, true, true, true, true, true, false, false] rfl ?_
          simp only [Act.put, List.setIfInBounds_toArray, List.set_cons_succ, List.set_cons_zero]
          refine anyC_take 21 118 (.pointer (some ⟨w.heap.size + 2, 0 + 23 + m, none⟩)) rfl rfl (by kernel_rfl) (by kernel_rfl) (by kernel_rfl) (stays_ok rfl (fun w' _ => exec_arr5 rfl rfl (by omega) w')) #[true, true, true, true, true, true, true, true, true, true, true, true, true, true, true, true, true, true, true, true, true, true, false] rfl ?_
          simp only [Act.put, List.setIfInBounds_toArray, List.set_cons_succ, List.set_cons_zero]
          refine anyC_only 22 rfl (by kernel_rfl) hC0 rfl #[true, true, true, true, true, true, true, true, true, true, true, true, true, true, true, true, true, true, true, true, true, true, true] rfl ?_
          refine wp_store1 (val := .int .i32 ((N (m + 1) * T.fan (m + 1) : Nat) : Int)) size21 rfl rfl rfl rfl (hf3.out.upd (Upd.drew [] wr) (by simp)) (by rw [FC.len]; omega) ?_
          intro w4 hf4 hg3
          rw [show 0 + 23 + m = 23 + m by omega, FC.set_inner _ m (by omega)] at hf4
          simp only [innerV_succ] at hf4
          have u4 : Upd [w.heap.size + 2] wr.drew w4 := Upd.ofGrown hg3 (by intro b e; cases e; simp)
          have hC4 : Env T linked w.heap.size w4 ∧ w4.cell? ⟨w.heap.size + 2, 2 + (m + 1), none⟩ = some (.slice (some ⟨Y.lv (m + 1), 0, none⟩) (N (m + 1)) (N (m + 1))) ∧ w4.cell? ⟨w.heap.size + 2, 33 + (m + 1), none⟩ = some (.int .i32 (T.fan (m + 1))) := by
            refine ⟨hC0.1.upd (u4.mono (by simp)), ?_, ?_⟩
            · rw [hf4.cell, FC.get_lvl _ _ (by omega)]; simp [Lay.fc, show m + 1 < 5 by omega]
            · rw [hf4.cell, FC.get_fan _ _ (by omega)]; simp [Lay.fc, show m + 1 < 5 by omega]
          simp only [Act.put, List.setIfInBounds_toArray, List.set_cons_succ, List.set_cons_zero]
          refine anyC_done (by kernel_rfl) hC4 ?_
          clear hg3 hC0
          replace hf4 := hide hf4
          replace u4 := hide u4
          go_wp2_with (fail)
          go_roundw
          case rel => exact ⟨m + 1, by omega, by simp, (hU3.out.trans (Upd.drew _ _)).trans u4.out, hf4.out⟩
          case measure => simp [intOf]; omega
        · obtain rfl : m = 4 := by omega
          simp only [show ((4 : Nat) : Int) = 4 from rfl]
          have hgn := hide (blk_new' wr [.int .i32 0, .int .i32 0, .int .i32 0, .int .i32 0, .int .i32 0] 85 wr.heap.size rfl)
          go_wp2_with ((with_reducible refine gd_store 102 (.tmp 14) (.tmp 119) ?_); refine wpl_store1 size102 rfl rfl rfl rfl (blk_new' _ [Value.nilFunc] 102 (wr.heap.size + 1) (by simp)) (by simp) ?_; intro w5 hb5 hg5)
          have hu5 : Upd [] wr w5 := ((Upd.alloc [wr.heap.size + 1] wr _).trans ((Upd.alloc [wr.heap.size + 1] _ _).trans (Upd.ofGrown hg5 (by intro b e; cases e; simp)))).fresh (by simp)
          have hgk5 : Blk w5 wr.heap.size [.int .i32 0, .int .i32 0, .int .i32 0, .int .i32 0, .int .i32 0] 85 := (hgn.out.al _).upd (Upd.ofGrown (bs := [wr.heap.size + 1]) hg5 (by intro b e; cases e; simp)) (by simp)
          have hI0 := hide (inv4_start L0.out hU3.out hf3.out hu5 hgk5 hb5)
          have hb5' : Hid (Below w.heap.size w w5) := (L0.out.bel.trans (hU3.out.below _ (by simp) L0.out.bel_size)).trans (hu5.below _ (by simp) (Nat.le_trans L0.out.bel_size hU3.out.size))
          obtain ⟨gk, hgk⟩ : ∃ gk, gk = wr.heap.size := ⟨_, rfl⟩
          have hG := hide (gs_ok L0.out.pcs hNle.out gk (by rw [hgk]; exact hU3.out.size))
          rw [← hgk] at hI0
          have hapB : Hid (∀ k, k < 5 → ∀ k', k' < 5 → k' ≠ k → ∀ b ∈ Y.bs k', b ∉ Y.bs k) := fun k hk k' hk' hne => L0.out.pcs.bs_apart hk hk' hne
          have hgrow := hide (grow_any (gsOf Y N linked w.heap.size gk) T hG.out hT)
          have hbslow : Hid (∀ k, k < 5 → ∀ b ∈ Y.bs k, w.heap.size ≤ b) := fun k hk b hbk => Nat.le_trans (by unfold loOf; split <;> omega) (Nat.le_trans (L0.out.pcs.ge k (by omega)) ((L0.out.pcs.row k hk).2.2 b (List.mem_cons_of_mem _ hbk)).1)
          have hhd : Hid (∀ k, k < 5 → (Y.bs k)[0]? = some (Y.b0 k) ∧ (emptyRows (N k))[0]?.map List.length = some (Y.l0 k)) := fun k hk => L0.out.pcs.hd k hk
          have hGlow : Hid (∀ b ∈ (gsOf Y N linked w.heap.size gk).W, w.heap.size ≤ b) := gs_low L0.out.pcs gk (by rw [hgk]; exact Nat.le_trans L0.out.bel_size hU3.out.size)
          clear hb5 hg5 hu5 hgk5 hgn hU3 hf3
          rw [← hgk]
          clear hgk
          go_loopw [15, 122] (fun fv jv wi => ∃ (j : Nat) (vr vu : Value), j ≤ tl.length ∧ jv = .int .i64 j ∧ fv = .int .i32 (offJ T tl j : Nat) ∧ Hid (Inv4 (gsOf Y N linked w.heap.size gk) Y T w.heap.size (stJ T tl j) vr vu (cnJ tl j) (rowsJ T tl j) (rootsJ Y T tl j) (runsJ T tl j) wi) ∧ Hid (Below w.heap.size w wi)) (fun _ jv _ => tl.length - (intOf jv).toNat)
          case atStart =>
            refine ⟨0, nilS, nilS, by omega, rfl, rfl, ?_, hb5'⟩
            have h1 : cnJ tl 0 = fun _ => 0 := rfl
            have h2 : rowsJ T tl 0 = fun k => emptyRows (N k) := by rw [hN.out]; rfl
            rw [h1, h2]; exact hI0.out
          case round =>
            clear hI0 hb5'
            obtain ⟨j, vr, vu, hj, rfl, rfl, hI, hbel⟩ := hrel
            by_cases hjt : j < tl.length
            · have htj : tl[j] ≤ 4 := ht.le _ (List.getElem_mem _)
              have hcj : wr.cell? ⟨lb, j, none⟩ = some (.int .i8 (tl[j] : Nat)) := by
                rw [(hb.out.below hbel.out hb.out.lt).cell]; simp [hjt, lvV]
              have hwb : wr.cell? ⟨gk + 1, 0, none⟩ = some (.func (.func 53) #[] #[.pointer (some ⟨gk, 0, none⟩), .pointer (some ⟨w.heap.size + 3, 0, none⟩), .pointer (some ⟨gk + 1, 0, none⟩), .pointer (some ⟨w.heap.size + 1, 0, none⟩)]) := by
                exact hI.out.wB.cell 0
              have hget : Hid (tl.getD j 0 = tl[j]) := by unfold Hid; simp [List.getD, hjt]
              have hord : Hid (ordJ T tl j = ((stJ T tl j).c tl[j]).length) := by unfold Hid ordJ; rw [hget.out]
              have hst1 : Hid (stJ T tl (j + 1) = growP T tl[j] (offJ T tl j) (-1) (stJ T tl j)) := by unfold Hid; rw [stJ, hget.out]
              have hroom : Hid (∀ k, k < 5 → ((stJ T tl j).c k).length + cntT T tl[j] k ≤ (gsOf Y N linked w.heap.size gk).N k) := by
                intro k hk
                have h1 := cntSum_le T tl k (j + 1)
                rw [cntSum_succ T tl k j hjt, ← hN.out] at h1
                rw [(stJ_len T tl k j hj).1]; exact h1
              have hoff : offJ T tl j + T.sz tl[j] ≤ 65536 := by rw [← offJ_succ T tl j hjt]; exact offJ_le ht _
              replace hoff := hide hoff
              have hordN : Hid (ordJ T tl j < N tl[j]) := by
                have h1 := hroom.out tl[j] (by omega)
                rw [cntT_self, ← hord.out] at h1
                exact h1
              have hcall := hide (hgrow.out tl[j] (by omega) (offJ T tl j) (-1) (stJ T tl j) wr (hI.out.still (fun _ _ => rfl) (fun _ _ => rfl)) hI.out.wrote hroom.out (fun k hk => by rw [(stJ_len T tl k j hj).1, (stJ_len T tl k j hj).2]) hoff.out (by omega) (by omega))
              rw [← hst1.out, ← hord.out] at hcall
              go_wp2_with (fail)
              refine hcall.out.mono ?_
              rintro e w1 ⟨rfl, hW1, hU1⟩
              have hI1 := hide ((hI.out.grow hW1 hU1).same (Upd.drew [] w1))
              have hbel1 : Hid (Below w.heap.size w w1) := hbel.out.trans (hU1.below _ hGlow.out hbel.out.size)
              clear hcall hwb hW1 hU1
              go_wp2_with (fail)
              have hM1 := hI1.out.mid
              have hR1 := hI1.out.rts
              have hN1 := hI1.out.rns
              have hs1 : w.heap.size ≤ w1.drew.heap.size := hbel1.out.size
              refine region_anyD (Mid (gsOf Y N linked w.heap.size gk) Y T w.heap.size (stJ T tl (j + 1)) vr vu (cnJ tl j) (rowsJ T tl j)) 10 mixed ?_
              refine anyD_take 0 130 (.pointer (some ⟨w.heap.size + 2, 0, none⟩)) rfl rfl (by kernel_rfl) (by kernel_rfl) (by kernel_rfl) (by kernel_rfl) (by decide) rfl (stays_ok rfl (fun w' hw' => exec_load1 one35 rfl (hw'.fB.cell 0))) #[true, false, false, false, false, false, false, false, false, false, false] rfl ?_
              simp only [Act.put, List.setIfInBounds_toArray, List.set_cons_succ, List.set_cons_zero]
              refine anyD_take 1 131 (.pointer (some ⟨w.heap.size + 2, 0, none⟩)) rfl rfl (by kernel_rfl) (by kernel_rfl) (by kernel_rfl) (by kernel_rfl) (by decide) rfl (stays_ok rfl (fun w' hw' => exec_load1 one35 rfl (hw'.fB.cell 0))) #[true, true, false, false, false, false, false, false, false, false, false] rfl ?_
              simp only [Act.put, List.setIfInBounds_toArray, List.set_cons_succ, List.set_cons_zero]
              refine anyD_take 2 132 (.pointer (some ⟨w.heap.size + 2, 0, none⟩)) rfl rfl (by kernel_rfl) (by kernel_rfl) (by kernel_rfl) (by kernel_rfl) (by decide) rfl (stays_ok rfl (fun w' _ => exec_nil rfl w')) #[true, true, true, false, false, false, false, false, false, false, false] rfl ?_
              simp only [Act.put, List.setIfInBounds_toArray, List.set_cons_succ, List.set_cons_zero]
              refine anyD_take 3 133 (.pointer (some ⟨w.heap.size + 2, 0 + 0, none⟩)) rfl rfl (by kernel_rfl) (by kernel_rfl) (by kernel_rfl) (by kernel_rfl) (by decide) rfl (stays_ok rfl (fun w' _ => exec_field fo88_0 rfl w')) #[true, true, true, true, false, false, false, false, false, false, false] rfl ?_
              simp only [Act.put, List.setIfInBounds_toArray, List.set_cons_succ, List.set_cons_zero]
              refine anyD_take 4 134 (vr) rfl rfl (by kernel_rfl) (by kernel_rfl) (by kernel_rfl) (by kernel_rfl) (by decide) rfl (stays_ok rfl (fun w' hw' => exec_load1 one80 rfl (hw'.fb.cell 0))) #[true, true, true, true, true, false, false, false, false, false, false] rfl ?_
              simp only [Act.put, List.setIfInBounds_toArray, List.set_cons_succ, List.set_cons_zero]
              refine anyD_take 5 135 (.pointer (some ⟨Y.lv tl[j], ordJ T tl j * 6, none⟩)) rfl rfl (by kernel_rfl) (by kernel_rfl) (by kernel_rfl) (by kernel_rfl) (by decide) rfl (stays_ok rfl (fun _ _ => rfl)) #[true, true, true, true, true, true, false, false, false, false, false] rfl ?_
              simp only [Act.put, List.setIfInBounds_toArray, List.set_cons_succ, List.set_cons_zero]
              refine anyD_only 6 rfl (by kernel_rfl) hM1 rfl #[true, true, true, true, true, true, true, false, false, false, false] rfl ?_
              refine wp_build1 Try.underlying80 hi62 hi62z hi62s rfl rfl ?_
              simp only [Act.put, List.setIfInBounds_toArray, List.set_cons_succ, List.set_cons_zero]
              have hM2 := hM1.keep (Upd.alloc [] w1.drew (.cells #[.pointer (some ⟨Y.lv tl[j], ordJ T tl j * 6, none⟩)] 62)) (es := []) (by intro u hu; simp at hu) (by simp)
              have hR2 := own_keep hR1 (Upd.alloc [] w1.drew (.cells #[.pointer (some ⟨Y.lv tl[j], ordJ T tl j * 6, none⟩)] 62)) (es := []) (by intro u hu; simp at hu) (by simp)
              have hN2 := own_keep hN1 (Upd.alloc [] w1.drew (.cells #[.pointer (some ⟨Y.lv tl[j], ordJ T tl j * 6, none⟩)] 62)) (es := []) (by intro u hu; simp at hu) (by simp)
              have hs2 : w.heap.size ≤ (w1.drew.alloc (.cells #[.pointer (some ⟨Y.lv tl[j], ordJ T tl j * 6, none⟩)] 62)).heap.size := Nat.le_trans hs1 (Upd.alloc [] _ _).size
              refine anyD_only 7 rfl (by kernel_rfl) hM2 rfl #[true, true, true, true, true, true, true, true, false, false, false] rfl ?_
              refine wp_appendE _ _ _ 80 w.heap.size 62 i62 _ 1 8 Try.underlying80 hi62 hi62z hi62s hi62b rfl (by decide) vr (rootsJ Y T tl j).length (rootsJ Y T tl j) rfl hR2 ⟨w1.drew.heap.size, 0, none⟩ 1 1 [.pointer (some ⟨Y.lv tl[j], ordJ T tl j * 6, none⟩)] rfl rfl (cell_one_new _ _ _) (by simp [Value.oneCell']) (by rw [rootsJ_len]; unfold maxLen; omega) (by rw [rootsJ_len]; omega) hs2 ?_
              intro vr' w3 hR3 hg3
              have u3 := Upd.ofGrown (bs := vr.ownBlock.toList) hg3 (by intro b e; simp [e])
              have hK3 := own_kinds hR2
              have hM3 := hM2.keep u3 hK3 (by decide)
              have hN3 := own_keep hN2 u3 hK3 (by decide)
              have hbel3 : Below w.heap.size w w3 := ((hbel1.out.drew).alloc hs1 _).trans (u3.below _ (own_low hR2) hs2)
              clear hg3
              simp only [Act.put, List.setIfInBounds_toArray, List.set_cons_succ, List.set_cons_zero]
              refine anyD_only 8 rfl (by kernel_rfl) hM3 rfl #[true, true, true, true, true, true, true, true, true, false, false] rfl ?_
              refine wp_exec (v := .pointer (some ⟨w.heap.size + 2, 0, none⟩)) (exec_nil rfl _) ?_
              simp only [Act.put, List.setIfInBounds_toArray, List.set_cons_succ, List.set_cons_zero]
              refine anyD_only 9 rfl (by kernel_rfl) hM3 rfl #[true, true, true, true, true, true, true, true, true, true, false] rfl ?_
              refine wp_exec (v := .pointer (some ⟨w.heap.size + 2, 0 + 0, none⟩)) (exec_field fo88_0 rfl _) ?_
              simp only [Act.put, List.setIfInBounds_toArray, List.set_cons_succ, List.set_cons_zero]
              refine anyD_only 10 rfl (by kernel_rfl) hM3 rfl #[true, true, true, true, true, true, true, true, true, true, true] rfl ?_
              refine wp_store1 (val := vr') size80 rfl rfl (ownsRow_one hR3).1 (ownsRow_one hR3).2 hM3.fb (by rw [FC.len]; omega) ?_
              intro w4 hf4 hg4
              have u4 : Upd [(gsOf Y N linked w.heap.size gk).fb] w3 w4 := Upd.ofGrown hg4 (by intro b e; cases e; exact List.mem_singleton.2 rfl)
              have hM4 := hM3.store (vr' := vr') (vu' := vu) (cn' := cnJ tl j) u4 hf4
              have hbel4 : Below w.heap.size w w4 := hbel3.trans (u4.below _ (by intro b hb; obtain rfl : b = w.heap.size + 2 := List.mem_singleton.1 hb; omega) hbel3.size)
              have hR4 := own_keep hR3 u4 hM3.kind (by decide)
              have hN4 := own_keep hN3 u4 hM3.kind (by decide)
              simp only [Act.put, List.setIfInBounds_toArray, List.set_cons_succ, List.set_cons_zero]
              refine anyD_done (by kernel_rfl) rfl ?_
              have hI4 : Hid (Inv4 (gsOf Y N linked w.heap.size gk) Y T w.heap.size (stJ T tl (j + 1)) vr' vu (cnJ tl j) (rowsJ T tl j) (rootsJ Y T tl (j + 1)) (runsJ T tl j) w4.drew) := by
                refine Inv4.same (w := w4) ⟨hM4.fB, hM4.wB, hM4.lB, hM4.lkb, hM4.fb, hM4.wrote, hM4.rows, hM4.obt, ?_, hN4⟩ (Upd.drew [] w4)
                rw [rootsJ, hget.out, List.length_append]; exact hR4
              have hfree := hide (free_call hN.out ht htl hjt hapB.out hI4.out)
              replace hbel4 := hide hbel4
              clear hM1 hM2 hM3 hM4 hR1 hR2 hR3 hR4 hN1 hN2 hN3 hN4 u3 u4 hK3 hf4 hg4 hbel3 hs1 hs2 hI1
              go_wp2_with (fail)
              replace hfree := hfree.out
              have hC5 := class32 hjt (by omega) hI4.out.mid
              refine region_anyC (fun w' => Blk w' (w.heap.size + 3) [.pointer (some ⟨w.heap.size + 2, 0, none⟩)] 35 ∧ w'.cell? ⟨Y.lv tl[j], ordJ T tl j * 6 + 3, none⟩ = some (.int .i8 (tl[j] : Nat)) ∧ w'.cell? ⟨Y.lv tl[j], ordJ T tl j * 6, none⟩ = some (.int .i32 (ordJ T tl j : Nat))) mixed ?_
              refine anyC_take 0 140 (.pointer (some ⟨w.heap.size + 2, 0, none⟩)) rfl rfl (by kernel_rfl) (by kernel_rfl) (by kernel_rfl) (stays_ok rfl (fun w' hw' => exec_load1 one35 rfl (hw'.1.cell 0))) #[true, false, false, false, false, false, false, false, false, false] rfl ?_
              simp only [Act.put, List.setIfInBounds_toArray, List.set_cons_succ, List.set_cons_zero]
              refine anyC_take 1 141 (.pointer (some ⟨Y.lv tl[j], ordJ T tl j * 6, none⟩)) rfl rfl (by kernel_rfl) (by kernel_rfl) (by kernel_rfl) (stays_ok rfl (fun _ _ => rfl)) #[true, true, false, false, false, false, false, false, false, false] rfl ?_
              simp only [Act.put, List.setIfInBounds_toArray, List.set_cons_succ, List.set_cons_zero]
              refine anyC_take 2 142 (.pointer (some ⟨Y.lv tl[j], ordJ T tl j * 6, none⟩)) rfl rfl (by kernel_rfl) (by kernel_rfl) (by kernel_rfl) (stays_ok rfl (fun w' _ => exec_nil rfl w')) #[true, true, true, false, false, false, false, false, false, false] rfl ?_
              simp only [Act.put, List.setIfInBounds_toArray, List.set_cons_succ, List.set_cons_zero]
              refine anyC_take 3 143 (.pointer (some ⟨Y.lv tl[j], ordJ T tl j * 6 + 3, none⟩)) rfl rfl (by kernel_rfl) (by kernel_rfl) (by kernel_rfl) (stays_ok rfl (fun w' _ => exec_field fo93_3 rfl w')) #[true, true, true, true, false, false, false, false, false, false] rfl ?_
              simp only [Act.put, List.setIfInBounds_toArray, List.set_cons_succ, List.set_cons_zero]
              refine anyC_take 4 144 (.int .i8 (tl[j] : Nat)) rfl rfl (by kernel_rfl) (by kernel_rfl) (by kernel_rfl) (stays_ok rfl (fun w' hw' => exec_load1 one48 rfl hw'.2.1)) #[true, true, true, true, true, false, false, false, false, false] rfl ?_
              simp only [Act.put, List.setIfInBounds_toArray, List.set_cons_succ, List.set_cons_zero]
              refine anyC_take 5 145 (.pointer (some ⟨Y.lv tl[j], ordJ T tl j * 6, none⟩)) rfl rfl (by kernel_rfl) (by kernel_rfl) (by kernel_rfl) (stays_ok rfl (fun _ _ => rfl)) #[true, true, true, true, true, true, false, false, false, false] rfl ?_
              simp only [Act.put, List.setIfInBounds_toArray, List.set_cons_succ, List.set_cons_zero]
              refine anyC_take 6 146 (.pointer (some ⟨Y.lv tl[j], ordJ T tl j * 6, none⟩)) rfl rfl (by kernel_rfl) (by kernel_rfl) (by kernel_rfl) (stays_ok rfl (fun w' _ => exec_nil rfl w')) #[true, true, true, true, true, true, true, false, false, false] rfl ?_
              simp only [Act.put, List.setIfInBounds_toArray, List.set_cons_succ, List.set_cons_zero]
              refine anyC_take 7 147 (.pointer (some ⟨Y.lv tl[j], ordJ T tl j * 6 + 0, none⟩)) rfl rfl (by kernel_rfl) (by kernel_rfl) (by kernel_rfl) (stays_ok rfl (fun w' _ => exec_field fo93_0 rfl w')) #[true, true, true, true, true, true, true, true, false, false] rfl ?_
              simp only [Act.put, List.setIfInBounds_toArray, List.set_cons_succ, List.set_cons_zero]
              refine anyC_take 8 148 (.int .i32 (ordJ T tl j : Nat)) rfl rfl (by kernel_rfl) (by kernel_rfl) (by kernel_rfl) (stays_ok rfl (fun w' hw' => exec_load1 one21 rfl hw'.2.2)) #[true, true, true, true, true, true, true, true, true, false] rfl ?_
              simp only [Act.put, List.setIfInBounds_toArray, List.set_cons_succ, List.set_cons_zero]
              refine anyC_only 9 rfl (by kernel_rfl) hC5 rfl #[true, true, true, true, true, true, true, true, true, true] rfl ?_
              refine wp_call 149 plain46 [.pointer (some ⟨w.heap.size + 2, 0, none⟩), .int .i8 (tl[j] : Nat), .int .i32 (ordJ T tl j : Nat)] rfl _ hfree ?_
              rintro e w6 ⟨⟨v6, rfl⟩, hI6, hU6⟩
              refine ⟨_, rfl, ?_⟩
              simp only [Act.put, List.setIfInBounds_toArray, List.set_cons_succ, List.set_cons_zero]
              refine anyC_done (by kernel_rfl) (class32 hjt (by omega) hI6.mid) ?_
              have hbel6 : Hid (Below w.heap.size w w6) := hbel4.out.drew.trans (hU6.below _ (by
                intro b hb
                rcases List.mem_cons.1 hb with rfl | hb
                · omega
                · exact hbslow.out _ (by omega) b hb) hbel4.out.size)
              clear hU6 hfree hC5 hI4
              replace hI6 := hide hI6
              have hf6 : w6.cell? ⟨w.heap.size + 3, 0, none⟩ = some (.pointer (some ⟨w.heap.size + 2, 0, none⟩)) := hI6.out.fB.cell 0
              have hv6 : w6.cell? ⟨w.heap.size + 2, 1, none⟩ = some vu := hI6.out.fb.cell 1
              rcases runs_form hI6.out.rns with ⟨hnil, ad, cap, rfl⟩ | ⟨g, cap, m, rfl, hlen⟩
              · have hstep : Hid (runsJ T tl (j + 1) = runsJ T tl j ++ [⟨tl[j], offJ T tl j, ordJ T tl j, 1⟩]) := by
                  unfold Hid; rw [runsJ_eq hjt]; exact step_push (fun m hl => by rw [hnil] at hl; simp at hl)
                replace hnil := hide hnil
                go_wp2_with (fail)
                have hM7 := (hI6.out.same (Upd.drew [] w6)).mid
                have hR7 := (hI6.out.same (Upd.drew [] w6)).rts
                have hN7 := (hI6.out.same (Upd.drew [] w6)).rns
                refine region_anyD (Mid (gsOf Y N linked w.heap.size gk) Y T w.heap.size (stJ T tl (j + 1)) vr' (.slice ad 0 cap) (cnJ tl (j + 1)) (rowsJ T tl (j + 1))) 16 mixed ?_
                refine anyD_take 0 181 (.pointer (some ⟨w.heap.size + 2, 0, none⟩)) rfl rfl (by kernel_rfl) (by kernel_rfl) (by kernel_rfl) (by kernel_rfl) (by decide) rfl (stays_ok rfl (fun w' hw' => exec_load1 one35 rfl (hw'.fB.cell 0))) #[true, false, false, false, false, false, false, false, false, false, false, false, false, false, false, false, false] rfl ?_
                simp only [Act.put, List.setIfInBounds_toArray, List.set_cons_succ, List.set_cons_zero]
                refine anyD_take 1 182 (.pointer (some ⟨w.heap.size + 2, 0, none⟩)) rfl rfl (by kernel_rfl) (by kernel_rfl) (by kernel_rfl) (by kernel_rfl) (by decide) rfl (stays_ok rfl (fun w' hw' => exec_load1 one35 rfl (hw'.fB.cell 0))) #[true, true, false, false, false, false, false, false, false, false, false, false, false, false, false, false, false] rfl ?_
                simp only [Act.put, List.setIfInBounds_toArray, List.set_cons_succ, List.set_cons_zero]
                refine anyD_take 2 183 (.pointer (some ⟨w.heap.size + 2, 0, none⟩)) rfl rfl (by kernel_rfl) (by kernel_rfl) (by kernel_rfl) (by kernel_rfl) (by decide) rfl (stays_ok rfl (fun w' _ => exec_nil rfl w')) #[true, true, true, false, false, false, false, false, false, false, false, false, false, false, false, false, false] rfl ?_
                simp only [Act.put, List.setIfInBounds_toArray, List.set_cons_succ, List.set_cons_zero]
                refine anyD_take 3 184 (.pointer (some ⟨w.heap.size + 2, 0 + 1, none⟩)) rfl rfl (by kernel_rfl) (by kernel_rfl) (by kernel_rfl) (by kernel_rfl) (by decide) rfl (stays_ok rfl (fun w' _ => exec_field fo88_1 rfl w')) #[true, true, true, true, false, false, false, false, false, false, false, false, false, false, false, false, false] rfl ?_
                simp only [Act.put, List.setIfInBounds_toArray, List.set_cons_succ, List.set_cons_zero]
                refine anyD_take 4 185 (.slice ad 0 cap) rfl rfl (by kernel_rfl) (by kernel_rfl) (by kernel_rfl) (by kernel_rfl) (by decide) rfl (stays_ok rfl (fun w' hw' => exec_load1 one81 rfl (hw'.fb.cell 1))) #[true, true, true, true, true, false, false, false, false, false, false, false, false, false, false, false, false] rfl ?_
                simp only [Act.put, List.setIfInBounds_toArray, List.set_cons_succ, List.set_cons_zero]
                refine anyD_take 5 186 (.int .i8 (tl[j] : Nat)) rfl rfl (by kernel_rfl) (by kernel_rfl) (by kernel_rfl) (by kernel_rfl) (by decide) rfl (stays_ok rfl (fun _ _ => rfl)) #[true, true, true, true, true, true, false, false, false, false, false, false, false, false, false, false, false] rfl ?_
                simp only [Act.put, List.setIfInBounds_toArray, List.set_cons_succ, List.set_cons_zero]
                refine anyD_take 6 187 (.int .i32 (offJ T tl j : Nat)) rfl rfl (by kernel_rfl) (by kernel_rfl) (by kernel_rfl) (by kernel_rfl) (by decide) rfl (stays_ok rfl (fun _ _ => rfl)) #[true, true, true, true, true, true, true, false, false, false, false, false, false, false, false, false, false] rfl ?_
                simp only [Act.put, List.setIfInBounds_toArray, List.set_cons_succ, List.set_cons_zero]
                refine anyD_take 7 188 (.pointer (some ⟨Y.lv tl[j], ordJ T tl j * 6, none⟩)) rfl rfl (by kernel_rfl) (by kernel_rfl) (by kernel_rfl) (by kernel_rfl) (by decide) rfl (stays_ok rfl (fun _ _ => rfl)) #[true, true, true, true, true, true, true, true, false, false, false, false, false, false, false, false, false] rfl ?_
                simp only [Act.put, List.setIfInBounds_toArray, List.set_cons_succ, List.set_cons_zero]
                refine anyD_take 8 189 (.pointer (some ⟨Y.lv tl[j], ordJ T tl j * 6, none⟩)) rfl rfl (by kernel_rfl) (by kernel_rfl) (by kernel_rfl) (by kernel_rfl) (by decide) rfl (stays_ok rfl (fun w' _ => exec_nil rfl w')) #[true, true, true, true, true, true, true, true, true, false, false, false, false, false, false, false, false] rfl ?_
                simp only [Act.put, List.setIfInBounds_toArray, List.set_cons_succ, List.set_cons_zero]
                refine anyD_take 9 190 (.pointer (some ⟨Y.lv tl[j], ordJ T tl j * 6 + 0, none⟩)) rfl rfl (by kernel_rfl) (by kernel_rfl) (by kernel_rfl) (by kernel_rfl) (by decide) rfl (stays_ok rfl (fun w' _ => exec_field fo93_0 rfl w')) #[true, true, true, true, true, true, true, true, true, true, false, false, false, false, false, false, false] rfl ?_
                simp only [Act.put, List.setIfInBounds_toArray, List.set_cons_succ, List.set_cons_zero]
                refine anyD_take 10 191 (.int .i32 (ordJ T tl j : Nat)) rfl rfl (by kernel_rfl) (by kernel_rfl) (by kernel_rfl) (by kernel_rfl) (by decide) rfl (stays_ok rfl (fun w' hw' => exec_load1 one21 rfl (class32 hjt (by omega) hw').2.2)) #[true, true, true, true, true, true, true, true, true, true, true, false, false, false, false, false, false] rfl ?_
                simp only [Act.put, List.setIfInBounds_toArray, List.set_cons_succ, List.set_cons_zero]
                refine anyD_take 11 192 (.agg [.int .i8 (tl[j] : Nat), .int .i32 (offJ T tl j : Nat), .int .i32 (ordJ T tl j : Nat), .int .i32 1].toArray) rfl rfl (by kernel_rfl) (by kernel_rfl) (by kernel_rfl) (by kernel_rfl) (by decide) rfl (stays_ok rfl (fun w' _ => exec_build _ rfl [.int .i8 (tl[j] : Nat), .int .i32 (offJ T tl j : Nat), .int .i32 (ordJ T tl j : Nat), .int .i32 1] (built104 _ _ _ _) w')) #[true, true, true, true, true, true, true, true, true, true, true, true, false, false, false, false, false] rfl ?_
                simp only [Act.put, List.setIfInBounds_toArray, List.set_cons_succ, List.set_cons_zero]
                refine anyD_only 12 rfl (by kernel_rfl) hM7 rfl #[true, true, true, true, true, true, true, true, true, true, true, true, true, false, false, false, false] rfl ?_
                refine wp_buildA [.int .i8 (tl[j] : Nat), .int .i32 (offJ T tl j : Nat), .int .i32 (ordJ T tl j : Nat), .int .i32 1] (by simp) (by simp) Try.underlying81 hi104 hi104z hi104s rfl (fill104 _ _ _ _ rfl rfl rfl rfl) ?_
                simp only [Act.put, List.setIfInBounds_toArray, List.set_cons_succ, List.set_cons_zero]
                have u8 := Upd.alloc [] w6.drew (.cells ([.int .i8 (tl[j] : Nat), .int .i32 (offJ T tl j : Nat), .int .i32 (ordJ T tl j : Nat), .int .i32 1] : List Value).toArray 104)
                have hM8 := hM7.keep u8 (es := []) (by intro u hu; simp at hu) (by simp)
                have hR8 := own_keep hR7 u8 (es := []) (by intro u hu; simp at hu) (by simp)
                have hN8 := own_keep hN7 u8 (es := []) (by intro u hu; simp at hu) (by simp)
                have hs8 : w.heap.size ≤ (w6.drew.alloc (.cells ([.int .i8 (tl[j] : Nat), .int .i32 (offJ T tl j : Nat), .int .i32 (ordJ T tl j : Nat), .int .i32 1] : List Value).toArray 104)).heap.size := Nat.le_trans hbel6.out.size u8.size
                refine anyD_only 13 rfl (by kernel_rfl) hM8 rfl #[true, true, true, true, true, true, true, true, true, true, true, true, true, true, false, false, false] rfl ?_
                refine wp_appendE _ _ _ 81 w.heap.size 104 i104 _ 4 16 Try.underlying81 hi104 hi104z hi104s hi104b rfl (by decide) (.slice ad 0 cap) (runsJ T tl j).length ((runsJ T tl j).flatMap RunE.cells) rfl hN8 ⟨w6.drew.heap.size, 0, none⟩ 1 1 [.int .i8 (tl[j] : Nat), .int .i32 (offJ T tl j : Nat), .int .i32 (ordJ T tl j : Nat), .int .i32 1] rfl rfl (cells_new _ _ _) (by simp [Value.oneCell']) (by have := runsJ_len T tl j; unfold maxLen; omega) (by have := runsJ_len T tl j; omega) hs8 ?_
                intro vu' w9 hN9 hg9
                have u9 := Upd.ofGrown hg9 (bs := (Value.ownBlock (.slice ad 0 cap)).toList) (by intro b e; simp [e])
                have hK9 := own_kinds hN8
                have hM9 := hM8.keep u9 hK9 (by decide)
                have hR9 := own_keep hR8 u9 hK9 (by decide)
                have hbel9 : Below w.heap.size w w9 := ((hbel6.out.drew).alloc hbel6.out.size _).trans (u9.below _ (own_low hN8) hs8)
                clear hg9
                simp only [Act.put, List.setIfInBounds_toArray, List.set_cons_succ, List.set_cons_zero]
                refine anyD_only 14 rfl (by kernel_rfl) hM9 rfl #[true, true, true, true, true, true, true, true, true, true, true, true, true, true, true, false, false] rfl ?_
                refine wp_exec (v := .pointer (some ⟨w.heap.size + 2, 0, none⟩)) (exec_nil rfl _) ?_
                simp only [Act.put, List.setIfInBounds_toArray, List.set_cons_succ, List.set_cons_zero]
                refine anyD_only 15 rfl (by kernel_rfl) hM9 rfl #[true, true, true, true, true, true, true, true, true, true, true, true, true, true, true, true, false] rfl ?_
                refine wp_exec (v := .pointer (some ⟨w.heap.size + 2, 0 + 1, none⟩)) (exec_field fo88_1 rfl _) ?_
                simp only [Act.put, List.setIfInBounds_toArray, List.set_cons_succ, List.set_cons_zero]
                refine anyD_only 16 rfl (by kernel_rfl) hM9 rfl #[true, true, true, true, true, true, true, true, true, true, true, true, true, true, true, true, true] rfl ?_
                refine wp_store1 (val := vu') size81 rfl rfl (ownsRow_one hN9).1 (ownsRow_one hN9).2 hM9.fb (by rw [FC.len]; omega) ?_
                intro w10 hf10 hg10
                have u10 : Upd [(gsOf Y N linked w.heap.size gk).fb] w9 w10 := Upd.ofGrown hg10 (by intro b e; cases e; exact List.mem_singleton.2 rfl)
                have hM10 := hM9.store (vr' := vr') (vu' := vu') (cn' := cnJ tl (j + 1)) u10 hf10
                have hbel10 : Hid (Below w.heap.size w w10) := hbel9.trans (u10.below _ (by intro b hb; obtain rfl : b = w.heap.size + 2 := List.mem_singleton.1 hb; omega) hbel9.size)
                have hR10 := own_keep hR9 u10 hM9.kind (by decide)
                have hN10 := own_keep hN9 u10 hM9.kind (by decide)
                simp only [Act.put, List.setIfInBounds_toArray, List.set_cons_succ, List.set_cons_zero]
                refine anyD_done (by kernel_rfl) rfl ?_
                have hI10 : Hid (Inv4 (gsOf Y N linked w.heap.size gk) Y T w.heap.size (stJ T tl (j + 1)) vr' vu' (cnJ tl (j + 1)) (rowsJ T tl (j + 1)) (rootsJ Y T tl (j + 1)) (runsJ T tl (j + 1)) w10) := by
                  refine ⟨hM10.fB, hM10.wB, hM10.lB, hM10.lkb, hM10.fb, hM10.wrote, hM10.rows, hM10.obt, hR10, ?_⟩
                  rw [hstep.out, List.length_append, List.flatMap_append]; exact hN10
                clear hM7 hM8 hM9 hM10 hR7 hR8 hR9 hR10 hN7 hN8 hN9 hN10 u8 u9 u10 hK9 hf10 hg10 hbel9 hs8 hI6
                have hf10 : w10.cell? ⟨w.heap.size + 3, 0, none⟩ = some (.pointer (some ⟨w.heap.size + 2, 0, none⟩)) := hI10.out.fB.cell 0
                have hz10 : w10.cell? ⟨w.heap.size + 2, 28 + tl[j], none⟩ = some (.int .i32 (T.sz tl[j])) := (hI10.out.fb.cell _).trans (FC.get_size _ _ (by omega))
                have hoff2 := hoff.out
                go_wp2_with (fail)
                go_roundw
                case rel => exact ⟨j + 1, _, _, by omega, by simp, by rw [offJ_succ T tl j hjt]; simp, hI10.out, hbel10.out⟩
                case measure => simp [intOf]; omega
              · have hrc := runs_cells (by have h := hI6.out.rns; rw [hlen] at h; exact h) hlen
                have hmle : m < 65536 := by have := runsJ_len T tl j; omega
                have hcnt : ((runsJ T tl j)[m]'(by omega)).count ≤ j := runs_count T tl j _ (List.getElem_mem _)
                by_cases hlev : ((runsJ T tl j)[m]'(by omega)).level = tl[j]
                · have hstep : Hid (runsJ T tl (j + 1) = (runsJ T tl j).modify m RunE.inc) := by
                    unfold Hid; rw [runsJ_eq hjt]; exact step_bump hlen hlev
                  obtain ⟨hI7, hg7⟩ := hI6.out.bump hlen
                  replace hI7 := hide hI7
                  have hbel7 := hide (hbel6.out.setCell (p := ⟨g, m * 4 + 3, none⟩) hg7 (.int .i32 ((((runsJ T tl j)[m]'(by omega)).count : Nat) + 1)))
                  obtain ⟨hr1, hr2, hr3⟩ := hrc
                  rw [hlev] at hr1
                  have hf7 : (w6.setCell ⟨g, m * 4 + 3, none⟩ (.int .i32 ((((runsJ T tl j)[m]'(by omega)).count : Nat) + 1))).cell? ⟨w.heap.size + 3, 0, none⟩ = some (.pointer (some ⟨w.heap.size + 2, 0, none⟩)) := hI7.out.fB.cell 0
                  have hz7 : (w6.setCell ⟨g, m * 4 + 3, none⟩ (.int .i32 ((((runsJ T tl j)[m]'(by omega)).count : Nat) + 1))).cell? ⟨w.heap.size + 2, 28 + tl[j], none⟩ = some (.int .i32 (T.sz tl[j])) := (hI7.out.fb.cell _).trans (FC.get_size _ _ (by omega))
                  replace hlen := hide hlen
                  have hoff2 := hoff.out
                  go_wp2_with (fail)
                  go_roundw
                  case rel =>
                    refine ⟨j + 1, vr', .slice (some ⟨g, 0, none⟩) (m + 1) cap, by omega, by simp, by rw [offJ_succ T tl j hjt]; simp, ?_, hbel7.out⟩
                    rw [hstep.out]; exact hI7.out
                  case measure => simp [intOf]; omega
                · have hstep : Hid (runsJ T tl (j + 1) = runsJ T tl j ++ [⟨tl[j], offJ T tl j, ordJ T tl j, 1⟩]) := by
                    unfold Hid; rw [runsJ_eq hjt]; exact step_push (fun m' hl => by obtain rfl : m' = m := by omega
                                                                                    exact hlev)
                  obtain ⟨hr1, hr2, hr3⟩ := hrc
                  replace hlen := hide hlen
                  go_wp2_with (fail)
                  have hM7 := (hI6.out.same (Upd.drew [] w6)).mid
                  have hR7 := (hI6.out.same (Upd.drew [] w6)).rts
                  have hN7 := (hI6.out.same (Upd.drew [] w6)).rns
                  refine region_anyD (Mid (gsOf Y N linked w.heap.size gk) Y T w.heap.size (stJ T tl (j + 1)) vr' (.slice (some ⟨g, 0, none⟩) (m + 1) cap) (cnJ tl (j + 1)) (rowsJ T tl (j + 1))) 16 mixed ?_
                  refine anyD_take 0 181 (.pointer (some ⟨w.heap.size + 2, 0, none⟩)) rfl rfl (by kernel_rfl) (by kernel_rfl) (by kernel_rfl) (by kernel_rfl) (by decide) rfl (stays_ok rfl (fun w' hw' => exec_load1 one35 rfl (hw'.fB.cell 0))) #[true, false, false, false, false, false, false, false, false, false, false, false, false, false, false, false, false] rfl ?_
                  simp only [Act.put, List.setIfInBounds_toArray, List.set_cons_succ, List.set_cons_zero]
                  refine anyD_take 1 182 (.pointer (some ⟨w.heap.size + 2, 0, none⟩)) rfl rfl (by kernel_rfl) (by kernel_rfl) (by kernel_rfl) (by kernel_rfl) (by decide) rfl (stays_ok rfl (fun w' hw' => exec_load1 one35 rfl (hw'.fB.cell 0))) #[true, true, false, false, false, false, false, false, false, false, false, false, false, false, false, false, false] rfl ?_
                  simp only [Act.put, List.setIfInBounds_toArray, List.set_cons_succ, List.set_cons_zero]
                  refine anyD_take 2 183 (.pointer (some ⟨w.heap.size + 2, 0, none⟩)) rfl rfl (by kernel_rfl) (by kernel_rfl) (by kernel_rfl) (by kernel_rfl) (by decide) rfl (stays_ok rfl (fun w' _ => exec_nil rfl w')) #[true, true, true, false, false, false, false, false, false, false, false, false, false, false, false, false, false] rfl ?_
                  simp only [Act.put, List.setIfInBounds_toArray, List.set_cons_succ, List.set_cons_zero]
                  refine anyD_take 3 184 (.pointer (some ⟨w.heap.size + 2, 0 + 1, none⟩)) rfl rfl (by kernel_rfl) (by kernel_rfl) (by kernel_rfl) (by kernel_rfl) (by decide) rfl (stays_ok rfl (fun w' _ => exec_field fo88_1 rfl w')) #[true, true, true, true, false, false, false, false, false, false, false, false, false, false, false, false, false] rfl ?_
                  simp only [Act.put, List.setIfInBounds_toArray, List.set_cons_succ, List.set_cons_zero]
                  refine anyD_take 4 185 (.slice (some ⟨g, 0, none⟩) (m + 1) cap) rfl rfl (by kernel_rfl) (by kernel_rfl) (by kernel_rfl) (by kernel_rfl) (by decide) rfl (stays_ok rfl (fun w' hw' => exec_load1 one81 rfl (hw'.fb.cell 1))) #[true, true, true, true, true, false, false, false, false, false, false, false, false, false, false, false, false] rfl ?_
                  simp only [Act.put, List.setIfInBounds_toArray, List.set_cons_succ, List.set_cons_zero]
                  refine anyD_take 5 186 (.int .i8 (tl[j] : Nat)) rfl rfl (by kernel_rfl) (by kernel_rfl) (by kernel_rfl) (by kernel_rfl) (by decide) rfl (stays_ok rfl (fun _ _ => rfl)) #[true, true, true, true, true, true, false, false, false, false, false, false, false, false, false, false, false] rfl ?_
                  simp only [Act.put, List.setIfInBounds_toArray, List.set_cons_succ, List.set_cons_zero]
                  refine anyD_take 6 187 (.int .i32 (offJ T tl j : Nat)) rfl rfl (by kernel_rfl) (by kernel_rfl) (by kernel_rfl) (by kernel_rfl) (by decide) rfl (stays_ok rfl (fun _ _ => rfl)) #[true, true, true, true, true, true, true, false, false, false, false, false, false, false, false, false, false] rfl ?_
                  simp only [Act.put, List.setIfInBounds_toArray, List.set_cons_succ, List.set_cons_zero]
                  refine anyD_take 7 188 (.pointer (some ⟨Y.lv tl[j], ordJ T tl j * 6, none⟩)) rfl rfl (by kernel_rfl) (by kernel_rfl) (by kernel_rfl) (by kernel_rfl) (by decide) rfl (stays_ok rfl (fun _ _ => rfl)) #[true, true, true, true, true, true, true, true, false, false, false, false, false, false, false, false, false] rfl ?_
                  simp only [Act.put, List.setIfInBounds_toArray, List.set_cons_succ, List.set_cons_zero]
                  refine anyD_take 8 189 (.pointer (some ⟨Y.lv tl[j], ordJ T tl j * 6, none⟩)) rfl rfl (by kernel_rfl) (by kernel_rfl) (by kernel_rfl) (by kernel_rfl) (by decide) rfl (stays_ok rfl (fun w' _ => exec_nil rfl w')) #[true, true, true, true, true, true, true, true, true, false, false, false, false, false, false, false, false] rfl ?_
                  simp only [Act.put, List.setIfInBounds_toArray, List.set_cons_succ, List.set_cons_zero]
                  refine anyD_take 9 190 (.pointer (some ⟨Y.lv tl[j], ordJ T tl j * 6 + 0, none⟩)) rfl rfl (by kernel_rfl) (by kernel_rfl) (by kernel_rfl) (by kernel_rfl) (by decide) rfl (stays_ok rfl (fun w' _ => exec_field fo93_0 rfl w')) #[true, true, true, true, true, true, true, true, true, true, false, false, false, false, false, false, false] rfl ?_
                  simp only [Act.put, List.setIfInBounds_toArray, List.set_cons_succ, List.set_cons_zero]
                  refine anyD_take 10 191 (.int .i32 (ordJ T tl j : Nat)) rfl rfl (by kernel_rfl) (by kernel_rfl) (by kernel_rfl) (by kernel_rfl) (by decide) rfl (stays_ok rfl (fun w' hw' => exec_load1 one21 rfl (class32 hjt (by omega) hw').2.2)) #[true, true, true, true, true, true, true, true, true, true, true, false, false, false, false, false, false] rfl ?_
                  simp only [Act.put, List.setIfInBounds_toArray, List.set_cons_succ, List.set_cons_zero]
                  refine anyD_take 11 192 (.agg [.int .i8 (tl[j] : Nat), .int .i32 (offJ T tl j : Nat), .int .i32 (ordJ T tl j : Nat), .int .i32 1].toArray) rfl rfl (by kernel_rfl) (by kernel_rfl) (by kernel_rfl) (by kernel_rfl) (by decide) rfl (stays_ok rfl (fun w' _ => exec_build _ rfl [.int .i8 (tl[j] : Nat), .int .i32 (offJ T tl j : Nat), .int .i32 (ordJ T tl j : Nat), .int .i32 1] (built104 _ _ _ _) w')) #[true, true, true, true, true, true, true, true, true, true, true, true, false, false, false, false, false] rfl ?_
                  simp only [Act.put, List.setIfInBounds_toArray, List.set_cons_succ, List.set_cons_zero]
                  refine anyD_only 12 rfl (by kernel_rfl) hM7 rfl #[true, true, true, true, true, true, true, true, true, true, true, true, true, false, false, false, false] rfl ?_
                  refine wp_buildA [.int .i8 (tl[j] : Nat), .int .i32 (offJ T tl j : Nat), .int .i32 (ordJ T tl j : Nat), .int .i32 1] (by simp) (by simp) Try.underlying81 hi104 hi104z hi104s rfl (fill104 _ _ _ _ rfl rfl rfl rfl) ?_
                  simp only [Act.put, List.setIfInBounds_toArray, List.set_cons_succ, List.set_cons_zero]
                  have u8 := Upd.alloc [] w6.drew (.cells ([.int .i8 (tl[j] : Nat), .int .i32 (offJ T tl j : Nat), .int .i32 (ordJ T tl j : Nat), .int .i32 1] : List Value).toArray 104)
                  have hM8 := hM7.keep u8 (es := []) (by intro u hu; simp at hu) (by simp)
                  have hR8 := own_keep hR7 u8 (es := []) (by intro u hu; simp at hu) (by simp)
                  have hN8 := own_keep hN7 u8 (es := []) (by intro u hu; simp at hu) (by simp)
                  have hs8 : w.heap.size ≤ (w6.drew.alloc (.cells ([.int .i8 (tl[j] : Nat), .int .i32 (offJ T tl j : Nat), .int .i32 (ordJ T tl j : Nat), .int .i32 1] : List Value).toArray 104)).heap.size := Nat.le_trans hbel6.out.size u8.size
                  refine anyD_only 13 rfl (by kernel_rfl) hM8 rfl #[true, true, true, true, true, true, true, true, true, true, true, true, true, true, false, false, false] rfl ?_
                  refine wp_appendE _ _ _ 81 w.heap.size 104 i104 _ 4 16 Try.underlying81 hi104 hi104z hi104s hi104b rfl (by decide) (.slice (some ⟨g, 0, none⟩) (m + 1) cap) (runsJ T tl j).length ((runsJ T tl j).flatMap RunE.cells) rfl hN8 ⟨w6.drew.heap.size, 0, none⟩ 1 1 [.int .i8 (tl[j] : Nat), .int .i32 (offJ T tl j : Nat), .int .i32 (ordJ T tl j : Nat), .int .i32 1] rfl rfl (cells_new _ _ _) (by simp [Value.oneCell']) (by have := runsJ_len T tl j; unfold maxLen; omega) (by have := runsJ_len T tl j; omega) hs8 ?_
                  intro vu' w9 hN9 hg9
                  have u9 := Upd.ofGrown hg9 (bs := (Value.ownBlock (.slice (some ⟨g, 0, none⟩) (m + 1) cap)).toList) (by intro b e; simp [e])
                  have hK9 := own_kinds hN8
                  have hM9 := hM8.keep u9 hK9 (by decide)
                  have hR9 := own_keep hR8 u9 hK9 (by decide)
                  have hbel9 : Below w.heap.size w w9 := ((hbel6.out.drew).alloc hbel6.out.size _).trans (u9.below _ (own_low hN8) hs8)
                  clear hg9
                  simp only [Act.put, List.setIfInBounds_toArray, List.set_cons_succ, List.set_cons_zero]
                  refine anyD_only 14 rfl (by kernel_rfl) hM9 rfl #[true, true, true, true, true, true, true, true, true, true, true, true, true, true, true, false, false] rfl ?_
                  refine wp_exec (v := .pointer (some ⟨w.heap.size + 2, 0, none⟩)) (exec_nil rfl _) ?_
                  simp only [Act.put, List.setIfInBounds_toArray, List.set_cons_succ, List.set_cons_zero]
                  refine anyD_only 15 rfl (by kernel_rfl) hM9 rfl #[true, true, true, true, true, true, true, true, true, true, true, true, true, true, true, true, false] rfl ?_
                  refine wp_exec (v := .pointer (some ⟨w.heap.size + 2, 0 + 1, none⟩)) (exec_field fo88_1 rfl _) ?_
                  simp only [Act.put, List.setIfInBounds_toArray, List.set_cons_succ, List.set_cons_zero]
                  refine anyD_only 16 rfl (by kernel_rfl) hM9 rfl #[true, true, true, true, true, true, true, true, true, true, true, true, true, true, true, true, true] rfl ?_
                  refine wp_store1 (val := vu') size81 rfl rfl (ownsRow_one hN9).1 (ownsRow_one hN9).2 hM9.fb (by rw [FC.len]; omega) ?_
                  intro w10 hf10 hg10
                  have u10 : Upd [(gsOf Y N linked w.heap.size gk).fb] w9 w10 := Upd.ofGrown hg10 (by intro b e; cases e; exact List.mem_singleton.2 rfl)
                  have hM10 := hM9.store (vr' := vr') (vu' := vu') (cn' := cnJ tl (j + 1)) u10 hf10
                  have hbel10 : Hid (Below w.heap.size w w10) := hbel9.trans (u10.below _ (by intro b hb; obtain rfl : b = w.heap.size + 2 := List.mem_singleton.1 hb; omega) hbel9.size)
                  have hR10 := own_keep hR9 u10 hM9.kind (by decide)
                  have hN10 := own_keep hN9 u10 hM9.kind (by decide)
                  simp only [Act.put, List.setIfInBounds_toArray, List.set_cons_succ, List.set_cons_zero]
                  refine anyD_done (by kernel_rfl) rfl ?_
                  have hI10 : Hid (Inv4 (gsOf Y N linked w.heap.size gk) Y T w.heap.size (stJ T tl (j + 1)) vr' vu' (cnJ tl (j + 1)) (rowsJ T tl (j + 1)) (rootsJ Y T tl (j + 1)) (runsJ T tl (j + 1)) w10) := by
                    refine ⟨hM10.fB, hM10.wB, hM10.lB, hM10.lkb, hM10.fb, hM10.wrote, hM10.rows, hM10.obt, hR10, ?_⟩
                    rw [hstep.out, List.length_append, List.flatMap_append]; exact hN10
                  clear hM7 hM8 hM9 hM10 hR7 hR8 hR9 hR10 hN7 hN8 hN9 hN10 u8 u9 u10 hK9 hf10 hg10 hbel9 hs8 hI6
                  have hf10 : w10.cell? ⟨w.heap.size + 3, 0, none⟩ = some (.pointer (some ⟨w.heap.size + 2, 0, none⟩)) := hI10.out.fB.cell 0
                  have hz10 : w10.cell? ⟨w.heap.size + 2, 28 + tl[j], none⟩ = some (.int .i32 (T.sz tl[j])) := (hI10.out.fb.cell _).trans (FC.get_size _ _ (by omega))
                  have hoff2 := hoff.out
                  go_wp2_with (fail)
                  go_roundw
                  case rel => exact ⟨j + 1, _, _, by omega, by simp, by rw [offJ_succ T tl j hjt]; simp, hI10.out, hbel10.out⟩
                  case measure => simp [intOf]; omega
            · obtain rfl : j = tl.length := by omega
              have hff : wr.cell? ⟨w.heap.size + 3, 0, none⟩ = some (.pointer (some ⟨w.heap.size + 2, 0, none⟩)) := hI.out.fB.cell 0
              go_wp2_with (fail)
              go_ret
              refine ⟨rfl, ⟨Y, gk, vr, vu, ?_, hapB.out, ?_, hbslow.out⟩, hbel.out⟩
              · rw [← hN.out]; exact hI.out
              · rw [← hN.out]; exact hhd.out
end Go.Proofs.Qxb6609507a
