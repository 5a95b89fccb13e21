import Derived.Test.Qxb6609507aOps6
import Derived.BigQuiet
namespace Go.Proofs.Qxb6609507a
set_option linter.unusedVariables false
set_option linter.unusedSimpArgs false
open Go.ChangeShapes Go.WideShapes Go.ChangeAt Go.RowKit
set_option maxRecDepth 100000 in
set_option maxHeartbeats 4000000 in
theorem build_any (T : Topo) (hT : T.Ok) (tl : List Nat) (ht : Tops T tl) (htl : tl.length ≤ 65536) (a : Option Addr) (cap : Nat) (w : World) (hin : TopsIn w a (tl.map (fun t : Nat => (t : Int)))) :
    Calls Try.prog 9 #[.agg T.szV.toArray, .agg T.fanV.toArray, .slice a tl.length cap] w fun e w' => BuildRes T tl w e w' := by
  replace hin := hide hin
  obtain ⟨i21, hi21, hi21z, hi21s, hi21b⟩ := info_parts info21
  obtain ⟨i4, hi4, hi4z, hi4s, hi4b⟩ := info_parts info4
  obtain ⟨i45, hi45, hi45z, hi45s, hi45b⟩ := info_parts info45
  have hbb := hide hi21b
  clear hbb
  have hrb : ∀ b, b ∈ ([] : List Nat) → False := by simp
  clear hrb
  go_enter Try.func9, Try.ntmps9
  go_wp2_with (first
    | ((with_reducible refine gd_load 24 (.tmp 3) ?_); refine wpl_load rfl agg24 size24 T.szV rfl (blkCells ((((blk_new' w _ _ _ rfl).al _).al _).al _)) ?_)
    | ((with_reducible refine gd_store 24 (.tmp 18) (.tmp 17) ?_); refine wpl_store rfl T.szV rfl size24 rfl _ (blk_new' _ _ _ (w.heap.size + 3) (by simp)) (by simp) (szV_one T) ?_; intro w1 hb1 hg1; have hfn1 : Blk w1 (w.heap.size + 1) T.fanV 25 := Blk.upd (((blk_new' _ _ _ _ (by simp)).al _).al _) (Upd.ofGrown (bs := [w.heap.size + 3]) hg1 (by intro b e; cases e; simp)) (by simp))
    | ((with_reducible refine gd_load 25 (.tmp 4) ?_); refine wpl_load rfl agg25 size25 T.fanV rfl (blkCells hfn1) ?_)
    | ((with_reducible refine gd_store 25 (.tmp 20) (.tmp 19) ?_); refine wpl_store rfl T.fanV rfl size25 rfl _ hb1 (by simp [Topo.szV]) (fanV_one T) ?_; intro w2 hb2 hg2))
  have hS0 : Hid (BS w w.heap.size T (fun _ => .slice none 0 0) (XS st0 [] []) w2) := bs_start rfl ((((blk_new' w _ _ _ rfl).al _).al _).al _) (((blk_new' _ _ _ _ (by simp)).al _).al _) ((blk_new' _ _ _ _ (by simp)).al _) ((((Below.refl _ _).alloc (by simp) _).alloc (by simp) _).alloc (by simp; omega) _ |>.alloc (by simp; omega) _) hg1 hg2 hb2
  clear hb1 hg1 hfn1 hb2 hg2
  go_loopw [8, 9] (fun ov jv wi => ∃ (j : Nat) (V : Nat → Value), j ≤ tl.length ∧ jv = .int .i64 j ∧ ov = .int .i64 (offJ T tl j : Nat) ∧ Hid (BS w w.heap.size T V (XS (stJ T tl j) (roJ T tl j) (runsJ T tl j)) wi)) (fun _ jv _ => tl.length - (intOf jv).toNat)
  case atStart => exact ⟨0, _, by omega, rfl, rfl, hS0⟩
  case round =>
    clear hS0
    obtain ⟨j, V, hj, rfl, rfl, hS⟩ := hrel
    by_cases hjt : j < tl.length
    · obtain ⟨b, o, rfl, hc, hbl, h8, h9⟩ := hin.out j (by simpa using hjt)
      have htj : tl[j] ≤ 4 := ht.le _ (List.getElem_mem _)
      have hcj : wr.cell? ⟨b, o + j, none⟩ = some (.int .i8 (tl[j] : Nat)) := by
        rw [hS.out.bel.cell (p := ⟨b, o + j, none⟩) hbl, hc]; simp
      have hc0 : Hid (w.cell? ⟨b, o + j, none⟩ = some (.int .i8 (tl[j] : Nat))) := by unfold Hid; rw [hc]; simp
      clear hc h8 h9
      go_wp2_with (fail)
      obtain ⟨bb, hbb⟩ : ∃ bb, bb = wr.heap.size := ⟨_, rfl⟩
      rw [← hbb]
      go_loopw [12] (fun mv wi => ∃ m : Nat, m ≤ 5 ∧ mv = .int .i64 m ∧ Hid (Upd [bb] wr wi) ∧ Hid (Blk wi bb (baseRow (lens (stJ T tl j)) m) 24)) (fun mv _ => 5 - (intOf mv).toNat)
      case atStart => exact ⟨0, by omega, rfl, Upd.alloc _ _ _, blk_new' _ _ _ _ hbb.symm⟩
      case round =>
        obtain ⟨m, hm, rfl, hU, hB⟩ := hrel
        have hS2 : Hid (BS w w.heap.size T V (XS (stJ T tl j) (roJ T tl j) (runsJ T tl j)) wr) := hS.out.upd0 (hU.out.fresh (by simp; omega))
        by_cases hm5 : m < 5
        · have hlen : (XS (stJ T tl j) (roJ T tl j) (runsJ T tl j) m).length = lens (stJ T tl j) m := by
            rw [XS_first _ _ _ m hm5, List.length_map, (stJ_len T tl m j hj).2]; exact (stJ_len T tl m j hj).1.symm
          obtain ⟨ad, cap', hv⟩ := own_form (hS2.out.bld.own m (by omega))
          have hcm : wr.cell? ⟨w.heap.size + 3, 11 + m, none⟩ = some (.slice ad (lens (stJ T tl j) m) cap') := by rw [hS2.out.bld.cell m (by omega), hv, hlen]
          have hcb : wr.cell? ⟨bb, m, none⟩ = some (.int .i64 0) := by rw [hB.out.cell]; simp [baseRow, hm5]
          have hzb := hB.out.frozen m
          have hB' := hide (hB.out.setCell m (.int .i64 (lens (stJ T tl j) m)))
          rw [baseRow_set _ m hm5] at hB'
          have hU' : Hid (Upd [bb] _ (wr.setCell ⟨bb, m, none⟩ (.int .i64 (lens (stJ T tl j) m)))) := hU.out.trans (Upd.setCell _ _ _ _ (by simp))
          clear hlen hv
          replace hbb := hide hbb
          go_wp2_with (fail)
          go_roundw
          case rel => exact ⟨m + 1, by omega, by simp, hU'.out, hB'.out⟩
          case measure => simp [intOf]; omega
        · obtain rfl : m = 5 := by omega
          simp only [show ((5 : Nat) : Int) = 5 from rfl]
          clear hU hS
          replace hbb := hide hbb
          go_wp2_with (fail)
          go_loopw [13] (fun lv wi => ∃ (l : Nat) (V : Nat → Value), l ≤ tl[j] + 1 ∧ lv = .int .i64 l ∧ Hid (BS w w.heap.size T V (XS (part T tl[j] (offJ T tl j) (stJ T tl j) l 0) (roJ T tl j) (runsJ T tl j)) wi) ∧ Hid (Blk wi bb (baseRow (lens (stJ T tl j)) 5) 24)) (fun lv _ => tl[j] + 1 - (intOf lv).toNat)
          case atStart => exact ⟨0, V, by omega, rfl, by rw [part_zero]; exact hS2.out, hB.out⟩
          case round =>
            clear hS2 hB
            obtain ⟨l, V, hl, rfl, hS, hB⟩ := hrel
            by_cases hlt : l ≤ tl[j]
            · have hpos : 1 ≤ T.sz l := sz_pos_of htj hlt (ht.pos _ (List.getElem_mem _))
              have hdv : Hid (T.sz tl[j] / T.sz l = cntT T tl[j] l) := cntT_div T _ _ htj hlt hpos
              have hszj : T.sz tl[j] ≤ 65536 := by
                have h1 := offJ_le ht (j + 1)
                rw [offJ_succ T tl j hjt] at h1; omega
              have hC0 := hide ((hS.out.upd0 (Upd.drew [] wr)).cl (hB.out.upd (Upd.drew [] wr) (by simp)))
              go_wp2_with (fail)
              replace hC0 := hC0.out
              refine region_anyC (Cl w.heap.size bb T (baseRow (lens (stJ T tl j)) 5) V) mixed ?_
              refine anyC_take 0 48 (.int .i64 (tl[j] : Nat)) rfl rfl (by kernel_rfl) (by kernel_rfl) (by kernel_rfl) (stays_ok rfl (fun _ _ => rfl)) #[true, false, false, false, false, false, false, false] rfl ?_
              simp only [Act.put, List.setIfInBounds_toArray, List.set_cons_succ, List.set_cons_zero]
              refine anyC_take 1 49 (.pointer (some ⟨w.heap.size, 0 + tl[j], none⟩)) rfl rfl (by kernel_rfl) (by kernel_rfl) (by kernel_rfl) (stays_ok rfl (fun w' _ => exec_arr1 (k := .i64) Try.underlying24 size2 rfl rfl (by omega) w')) #[true, true, false, false, false, false, false, false] rfl ?_
              simp only [Act.put, List.setIfInBounds_toArray, List.set_cons_succ, List.set_cons_zero]
              refine anyC_take 2 50 (.int .i64 (T.sz tl[j])) rfl rfl (by kernel_rfl) (by kernel_rfl) (by kernel_rfl) (stays_ok rfl (fun w' hw' => exec_load1 one2 rfl (by rw [Nat.zero_add]; exact szV_cell hw'.sz _ (by omega)))) #[true, true, true, false, false, false, false, false] rfl ?_
              simp only [Act.put, List.setIfInBounds_toArray, List.set_cons_succ, List.set_cons_zero]
              refine anyC_take 3 51 (.int .i64 l) rfl rfl (by kernel_rfl) (by kernel_rfl) (by kernel_rfl) (stays_ok rfl (fun _ _ => rfl)) #[true, true, true, true, false, false, false, false] rfl ?_
              simp only [Act.put, List.setIfInBounds_toArray, List.set_cons_succ, List.set_cons_zero]
              refine anyC_take 4 52 (.pointer (some ⟨w.heap.size, 0 + l, none⟩)) rfl rfl (by kernel_rfl) (by kernel_rfl) (by kernel_rfl) (stays_ok rfl (fun w' _ => exec_arr1 (k := .i64) Try.underlying24 size2 rfl rfl (by omega) w')) #[true, true, true, true, true, false, false, false] rfl ?_
              simp only [Act.put, List.setIfInBounds_toArray, List.set_cons_succ, List.set_cons_zero]
              refine anyC_take 5 53 (.int .i64 (T.sz l)) rfl rfl (by kernel_rfl) (by kernel_rfl) (by kernel_rfl) (stays_ok rfl (fun w' hw' => exec_load1 one2 rfl (by rw [Nat.zero_add]; exact szV_cell hw'.sz _ (by omega)))) #[true, true, true, true, true, true, false, false] rfl ?_
              simp only [Act.put, List.setIfInBounds_toArray, List.set_cons_succ, List.set_cons_zero]
              refine anyC_take 6 54 (.int .i64 ((T.sz tl[j] / T.sz l : Nat) : Int)) rfl rfl (by kernel_rfl) (by kernel_rfl) (by kernel_rfl) (stays_ok rfl (fun w' _ => exec_quo2 rfl rfl hpos (by omega) w')) #[true, true, true, true, true, true, true, false] rfl ?_
              simp only [Act.put, List.setIfInBounds_toArray, List.set_cons_succ, List.set_cons_zero]
              refine anyC_take 7 14 (.int .i64 ((T.sz tl[j] / T.sz l : Nat) : Int)) rfl rfl (by kernel_rfl) (by kernel_rfl) (by kernel_rfl) (stays_ok rfl (fun _ _ => rfl)) #[true, true, true, true, true, true, true, true] rfl ?_
              simp only [Act.put, List.setIfInBounds_toArray, List.set_cons_succ, List.set_cons_zero]
              refine anyC_done (by kernel_rfl) hC0 ?_
              rw [hdv.out]
              simp only [Nat.zero_add]
              clear hC0 hdv
              go_wp2_with (fail)
              go_loopw [15] (fun kv wi => ∃ (k : Nat) (V : Nat → Value), k ≤ cntT T tl[j] l ∧ kv = .int .i64 k ∧ Hid (BS w w.heap.size T V (XS (part T tl[j] (offJ T tl j) (stJ T tl j) l k) (roJ T tl j) (runsJ T tl j)) wi) ∧ Hid (Blk wi bb (baseRow (lens (stJ T tl j)) 5) 24)) (fun kv _ => cntT T tl[j] l - (intOf kv).toNat)
              case atStart => exact ⟨0, V, by omega, rfl, hS.out.upd0 (Upd.drew _ _), hB.out.upd (Upd.drew [] _) (by simp)⟩
              case round =>
                clear hS hB
                obtain ⟨k, V, hkc, rfl, hS, hB⟩ := hrel
                by_cases hkl : k < cntT T tl[j] l
                · have hl5 : l < 5 := by omega
                  have hcsz : (k + 1) * T.sz l ≤ T.sz tl[j] := by
                    rw [← cntT_sz T tl[j] l htj hlt]; exact Nat.mul_le_mul_right _ hkl
                  rw [Nat.add_mul, Nat.one_mul] at hcsz
                  have hoff : offJ T tl j + T.sz tl[j] ≤ 65536 := by rw [← offJ_succ T tl j hjt]; exact offJ_le ht _
                  have hlen : lens (stJ T tl j) l + k < 65536 := by
                    have h1 := cntSum_le T tl l (j + 1)
                    have h2 := Nof_le ht l
                    have h3 := (stJ_len T tl l j hj).1
                    rw [cntSum_succ T tl l j hjt] at h1
                    unfold lens; omega
                  obtain ⟨P, hP⟩ : ∃ P, P = part T tl[j] (offJ T tl j) (stJ T tl j) l k := ⟨_, rfl⟩
                  have hPk : (P.k l).length = lens (stJ T tl j) l + k := by
                    rw [hP]; show ((stJ T tl j).k l ++ _).length = _
                    rw [List.length_append, List.length_map, List.length_range, (stJ_len T tl l j hj).2, ← (stJ_len T tl l j hj).1]; simp [amt, lens]
                  have hPc : (P.c l).length = lens (stJ T tl j) l + k := by
                    rw [hP]; show ((stJ T tl j).c l ++ _).length = _
                    rw [List.length_append, List.length_map, List.length_range]; simp [amt, lens]
                  rw [← hP] at hS
                  replace hP := hide hP; replace hPk := hide hPk; replace hPc := hide hPc; replace hlen := hide hlen
                  obtain ⟨X, hX⟩ : ∃ X, X = XS P (roJ T tl j) (runsJ T tl j) := ⟨_, rfl⟩
                  rw [← hX] at hS
                  have hl1 : Hid ((X l).length ≤ 65536) := by unfold Hid; rw [hX, XS_first _ _ _ l hl5, List.length_map, hPk.out]; have := hlen.out; omega
                  have hl2 : Hid ((X (5 + l)).length ≤ 65536) := by unfold Hid; rw [hX, XS_parent _ _ _ l hl5, List.length_map, hPk.out]; have := hlen.out; omega
                  have hl3 : Hid ((X (10 + l)).length ≤ 65536) := by unfold Hid; rw [hX, XS_child _ _ _ l hl5, List.length_map, hPk.out]; have := hlen.out; omega
                  have hl4 : Hid ((X (15 + l)).length ≤ 65536) := by unfold Hid; rw [hX, XS_top _ _ _ l hl5, List.length_map, hPc.out]; have := hlen.out; omega
                  replace hX := hide hX
                  have hkm : Hid (k * T.sz l ≤ 65536 ∧ offJ T tl j + k * T.sz l ≤ 65536) := ⟨by omega, by omega⟩
                  clear hcsz hoff
                  have hS0 := hide (hS.out.upd0 (Upd.drew [] wr))
                  have hB0 := hide (hB.out.upd (Upd.drew [] wr) (by simp))
                  go_wp2_with (fail)
                  have hC0 := hS0.out.cl hB0.out
                  refine region_anyD (Cl w.heap.size bb T (baseRow (lens (stJ T tl j)) 5) V) 17 mixed ?_
                  refine anyD_take 0 60 (.int .i64 l) rfl rfl (by kernel_rfl) (by kernel_rfl) (by kernel_rfl) (by kernel_rfl) (by decide) rfl (stays_ok rfl (fun _ _ => rfl)) #[true, false, false, false, false, false, false, false, false, false, false, false, false, false, false, false, false, false] rfl ?_
                  simp only [Act.put, List.setIfInBounds_toArray, List.set_cons_succ, List.set_cons_zero]
                  refine anyD_take 1 61 (.int .i64 l) rfl rfl (by kernel_rfl) (by kernel_rfl) (by kernel_rfl) (by kernel_rfl) (by decide) rfl (stays_ok rfl (fun _ _ => rfl)) #[true, true, false, false, false, false, false, false, false, false, false, false, false, false, false, false, false, false] rfl ?_
                  simp only [Act.put, List.setIfInBounds_toArray, List.set_cons_succ, List.set_cons_zero]
                  refine anyD_take 2 62 (.pointer (some ⟨w.heap.size + 3, 0 + 11, none⟩)) rfl rfl (by kernel_rfl) (by kernel_rfl) (by kernel_rfl) (by kernel_rfl) (by decide) rfl (stays_ok rfl (fun w' _ => exec_field fo33_2 rfl w')) #[true, true, true, false, false, false, false, false, false, false, false, false, false, false, false, false, false, false] rfl ?_
                  simp only [Act.put, List.setIfInBounds_toArray, List.set_cons_succ, List.set_cons_zero]
                  refine anyD_take 3 63 (.pointer (some ⟨w.heap.size + 3, 0 + 11 + l, none⟩)) rfl rfl (by kernel_rfl) (by kernel_rfl) (by kernel_rfl) (by kernel_rfl) (by decide) rfl (stays_ok rfl (fun w' _ => exec_arr1 (k := .i64) Try.underlying29 size28 rfl rfl (by omega) w')) #[true, true, true, true, false, false, false, false, false, false, false, false, false, false, false, false, false, false] rfl ?_
                  simp only [Act.put, List.setIfInBounds_toArray, List.set_cons_succ, List.set_cons_zero]
                  refine anyD_take 4 64 (V l) rfl rfl (by kernel_rfl) (by kernel_rfl) (by kernel_rfl) (by kernel_rfl) (by decide) rfl (stays_ok rfl (fun w' hw' => exec_load1 one28 rfl (by rw [Nat.zero_add]; exact hw'.cell _ (by omega)))) #[true, true, true, true, true, false, false, false, false, false, false, false, false, false, false, false, false, false] rfl ?_
                  simp only [Act.put, List.setIfInBounds_toArray, List.set_cons_succ, List.set_cons_zero]
                  refine anyD_take 5 65 (.int .i64 (offJ T tl j : Nat)) rfl rfl (by kernel_rfl) (by kernel_rfl) (by kernel_rfl) (by kernel_rfl) (by decide) rfl (stays_ok rfl (fun _ _ => rfl)) #[true, true, true, true, true, true, false, false, false, false, false, false, false, false, false, false, false, false] rfl ?_
                  simp only [Act.put, List.setIfInBounds_toArray, List.set_cons_succ, List.set_cons_zero]
                  refine anyD_take 6 66 (.int .i64 k) rfl rfl (by kernel_rfl) (by kernel_rfl) (by kernel_rfl) (by kernel_rfl) (by decide) rfl (stays_ok rfl (fun _ _ => rfl)) #[true, true, true, true, true, true, true, false, false, false, false, false, false, false, false, false, false, false] rfl ?_
                  simp only [Act.put, List.setIfInBounds_toArray, List.set_cons_succ, List.set_cons_zero]
                  refine anyD_take 7 67 (.int .i64 l) rfl rfl (by kernel_rfl) (by kernel_rfl) (by kernel_rfl) (by kernel_rfl) (by decide) rfl (stays_ok rfl (fun _ _ => rfl)) #[true, true, true, true, true, true, true, true, false, false, false, false, false, false, false, false, false, false] rfl ?_
                  simp only [Act.put, List.setIfInBounds_toArray, List.set_cons_succ, List.set_cons_zero]
                  refine anyD_take 8 68 (.pointer (some ⟨w.heap.size, 0 + l, none⟩)) rfl rfl (by kernel_rfl) (by kernel_rfl) (by kernel_rfl) (by kernel_rfl) (by decide) rfl (stays_ok rfl (fun w' _ => exec_arr1 (k := .i64) Try.underlying24 size2 rfl rfl (by omega) w')) #[true, true, true, true, true, true, true, true, true, false, false, false, false, false, false, false, false, false] rfl ?_
                  simp only [Act.put, List.setIfInBounds_toArray, List.set_cons_succ, List.set_cons_zero]
                  refine anyD_take 9 69 (.int .i64 (T.sz l)) rfl rfl (by kernel_rfl) (by kernel_rfl) (by kernel_rfl) (by kernel_rfl) (by decide) rfl (stays_ok rfl (fun w' hw' => exec_load1 one2 rfl (by rw [Nat.zero_add]; exact szV_cell hw'.sz _ (by omega)))) #[true, true, true, true, true, true, true, true, true, true, false, false, false, false, false, false, false, false] rfl ?_
                  simp only [Act.put, List.setIfInBounds_toArray, List.set_cons_succ, List.set_cons_zero]
                  refine anyD_take 10 70 (.int .i64 ((k * T.sz l : Nat) : Int)) rfl rfl (by kernel_rfl) (by kernel_rfl) (by kernel_rfl) (by kernel_rfl) (by decide) rfl (stays_ok rfl (fun w' _ => exec_mul2 rfl rfl (by have := hkm.out.1; omega) w')) #[true, true, true, true, true, true, true, true, true, true, true, false, false, false, false, false, false, false] rfl ?_
                  simp only [Act.put, List.setIfInBounds_toArray, List.set_cons_succ, List.set_cons_zero]
                  refine anyD_take 11 71 (.int .i64 ((offJ T tl j + k * T.sz l : Nat) : Int)) rfl rfl (by kernel_rfl) (by kernel_rfl) (by kernel_rfl) (by kernel_rfl) (by decide) rfl (stays_ok rfl (fun w' _ => exec_add2 rfl rfl (by have := hkm.out.2; omega) w')) #[true, true, true, true, true, true, true, true, true, true, true, true, false, false, false, false, false, false] rfl ?_
                  simp only [Act.put, List.setIfInBounds_toArray, List.set_cons_succ, List.set_cons_zero]
                  refine anyD_take 12 72 (.int .i32 ((offJ T tl j + k * T.sz l : Nat) : Int)) rfl rfl (by kernel_rfl) (by kernel_rfl) (by kernel_rfl) (by kernel_rfl) (by decide) rfl (stays_ok rfl (fun w' _ => exec_conv2 rfl (by have := hkm.out.2; omega) w')) #[true, true, true, true, true, true, true, true, true, true, true, true, true, false, false, false, false, false] rfl ?_
                  simp only [Act.put, List.setIfInBounds_toArray, List.set_cons_succ, List.set_cons_zero]
                  refine anyD_take0 15 75 (.pointer (some ⟨w.heap.size + 3, 0 + 11, none⟩)) rfl rfl (by kernel_rfl) (by kernel_rfl) (by kernel_rfl) (by decide) (stays_ok rfl (fun w' _ => exec_field fo33_2 rfl w')) #[true, true, true, true, true, true, true, true, true, true, true, true, true, false, false, true, false, false] rfl ?_
                  simp only [Act.put, List.setIfInBounds_toArray, List.set_cons_succ, List.set_cons_zero]
                  refine anyD_only 13 rfl (by kernel_rfl) hC0 rfl #[true, true, true, true, true, true, true, true, true, true, true, true, true, true, false, true, false, false] rfl ?_
                  refine wp_build1 (v := .int .i32 ((offJ T tl j + k * T.sz l : Nat) : Int)) Try.underlying28 hi21 hi21z hi21s rfl rfl ?_
                  simp only [Act.put, List.setIfInBounds_toArray, List.set_cons_succ, List.set_cons_zero]
                  have hCa1 := hC0.upd0 (Upd.alloc [] wr.drew (.cells #[.int .i32 ((offJ T tl j + k * T.sz l : Nat) : Int)] 21))
                  have hOw1 : (wr.drew.alloc (.cells #[.int .i32 ((offJ T tl j + k * T.sz l : Nat) : Int)] 21)).ownsRow w.heap.size 21 1 (V (l)) (X (l)).length (X (l)) := by have h := (hS0.out.upd0 (Upd.alloc [] wr.drew (.cells #[.int .i32 ((offJ T tl j + k * T.sz l : Nat) : Int)] 21))).bld.own (l) (by omega); rw [rowT_lo (show l < 15 by omega)] at h; exact h
                  refine anyD_only 14 rfl (by kernel_rfl) hCa1 rfl #[true, true, true, true, true, true, true, true, true, true, true, true, true, true, true, true, false, false] rfl ?_
                  refine wp_appendM (v := V (l)) (u := .int .i32 ((offJ T tl j + k * T.sz l : Nat) : Int)) _ w.heap.size Try.underlying28 hi21 hi21z hi21s hi21b rfl rfl hOw1 rfl (cell_new1 _ _ _) rfl (by have := hl1.out; omega) (by omega) (hCa1.big) ?_
                  intro va1 wa1 hown1 hga1 hfa1
                  have hKa1 : Kinds (wr.drew.alloc (.cells #[.int .i32 ((offJ T tl j + k * T.sz l : Nat) : Int)] 21)) (V (l)).ownBlock.toList [rowT (l)] := by rw [rowT_lo (show l < 15 by omega)]; exact own_kinds hOw1
                  have hCb1 := hCa1.keep (Upd.ofGrown (bs := (V (l)).ownBlock.toList) hga1 (by intro b e; simp [e])) hKa1
                  simp only [Act.put, List.setIfInBounds_toArray, List.set_cons_succ, List.set_cons_zero]
                  refine anyD_take 16 76 (.pointer (some ⟨w.heap.size + 3, 0 + 11 + l, none⟩)) rfl rfl (by kernel_rfl) (by kernel_rfl) (by kernel_rfl) (by kernel_rfl) (by decide) rfl (stays_ok rfl (fun w' _ => exec_arr1 (k := .i64) Try.underlying29 size28 rfl rfl (by omega) w')) #[true, true, true, true, true, true, true, true, true, true, true, true, true, true, true, true, true, false] rfl ?_
                  simp only [Act.put, List.setIfInBounds_toArray, List.set_cons_succ, List.set_cons_zero]
                  refine anyD_only 17 rfl (by kernel_rfl) hCb1 rfl #[true, true, true, true, true, true, true, true, true, true, true, true, true, true, true, true, true, true] rfl ?_
                  refine wp_store1 (val := va1) size28 rfl rfl (ownsRow_one hown1).1 (ownsRow_one hown1).2 hCb1.mb (by rw [len36]; omega) ?_
                  intro ws1 hbs1 hgs1
                  rw [show 0 + 11 + l = 11 + (l) by omega] at hbs1
                  simp only [Act.put, List.setIfInBounds_toArray, List.set_cons_succ, List.set_cons_zero]
                  refine anyD_done (by kernel_rfl) rfl ?_
                  obtain ⟨hS1, hB1⟩ := BS.push hS0.out hB0.out (l) (by omega) (by rw [rowT_lo (show l < 15 by omega)]; exact hown1) hga1 hfa1 hbs1 hgs1
                  obtain ⟨V1, hV1⟩ : ∃ V', V' = updV V (l) va1 := ⟨_, rfl⟩
                  obtain ⟨X1, hX1⟩ : ∃ X', X' = updV X (l) (X (l) ++ [.int .i32 ((offJ T tl j + k * T.sz l : Nat) : Int)]) := ⟨_, rfl⟩
                  rw [← hV1, ← hX1] at hS1
                  replace hS1 := hide hS1; replace hB1 := hide hB1; replace hX1 := hide hX1
                  clear hV1 hown1 hga1 hfa1 hbs1 hgs1 hOw1 hKa1 hCa1 hCb1
                  have hkb : k < 65536 := by have := hlen.out; omega
                  replace hkl := hide hkl; replace hlt := hide hlt; replace hpos := hide hpos
                  by_cases hlt' : l = tl[j]
                  · have hbt : ((l : Int) == (tl[j] : Int)) = true := by rw [beq_iff_eq]; omega
                    replace hlt' := hide hlt'
                    by_cases hl0 : l = 0
                    · as_aux_lemma =>
                      have hb0 : ((l : Int) == 0) = true := by rw [beq_iff_eq]; omega
                      replace hl0 := hide hl0
                      have hl2' : Hid ((X1 (5 + l)).length ≤ 65536) := (by unfold Hid; rw [hX1.out]; unfold updV; rw [if_neg (by omega)]; exact hl2.out)
                      have hCa2 := hide ((hS1.out.cl hB1.out).upd0 (Upd.alloc [] ws1 (.cells #[.int .i32 (-1)] 21)))
                      have hcv2 : ws1.cell? ⟨w.heap.size + 3, 16 + l, none⟩ = some (V1 (5 + l)) := (by have h := (hS1.out.cl hB1.out).cell (5 + l) (by omega); rw [show 11 + (5 + l) = 16 + l by omega] at h; exact h)
                      have hOw2 : Hid ((ws1.alloc (.cells #[.int .i32 (-1)] 21)).ownsRow w.heap.size 21 1 (V1 (5 + l)) (X1 (5 + l)).length (X1 (5 + l))) := (by have h := (hS1.out.upd0 (Upd.alloc [] ws1 (.cells #[.int .i32 (-1)] 21))).bld.own (5 + l) (by omega); rw [rowT_lo (show 5 + l < 15 by omega)] at h; exact h)
                      have hKa2 : Hid (Kinds (ws1.alloc (.cells #[.int .i32 (-1)] 21)) (V1 (5 + l)).ownBlock.toList [rowT (5 + l)]) := (by unfold Hid; rw [rowT_lo (show 5 + l < 15 by omega)]; exact own_kinds hOw2.out)
                      go_wp2_with (first
                        | ((with_reducible refine gd_app _ (.tmp 84) (.tmp 85) 28 ?_)
                           refine wpl_appendM (v := V1 (5 + l)) (u := .int .i32 (-1)) _ w.heap.size Try.underlying28 hi21 hi21z hi21s hi21b rfl rfl hOw2.out rfl (cell_new1 _ _ _) rfl (by have := hl2'.out; omega) (by omega) hCa2.out.big ?_
                           intro va2 wa2 hown2 hga2 hfa2)
                        | ((with_reducible refine gd_store 28 (.tmp 88) (.tmp 86) ?_)
                           refine wpl_store1 size28 rfl rfl (ownsRow_one hown2).1 (ownsRow_one hown2).2 (hCa2.out.keep (Upd.ofGrown (bs := (V1 (5 + l)).ownBlock.toList) hga2 (by intro b e; simp [e])) hKa2.out).mb (by rw [len36]; omega) ?_
                           intro ws2 hbs2 hgs2
                           rw [show 16 + l = 11 + (5 + l) by omega] at hbs2
                           obtain ⟨hS2, hB2⟩ := BS.push hS1.out hB1.out (5 + l) (by omega) (by rw [rowT_lo (show 5 + l < 15 by omega)]; exact hown2) hga2 hfa2 hbs2 hgs2
                           obtain ⟨V2, hV2⟩ : ∃ V', V' = updV V1 (5 + l) va2 := ⟨_, rfl⟩
                           obtain ⟨X2, hX2⟩ : ∃ X', X' = updV X1 (5 + l) (X1 (5 + l) ++ [.int .i32 (-1)]) := ⟨_, rfl⟩
                           rw [← hV2, ← hX2] at hS2
                           replace hS2 := hide hS2; replace hB2 := hide hB2; replace hX2 := hide hX2
                           clear hV2 hown2 hga2 hfa2 hbs2 hgs2 hOw2 hKa2 hCa2 hcv2
                           have hl4' : Hid ((X2 (15 + l)).length ≤ 65536) := (by unfold Hid; rw [hX2.out]; unfold updV; rw [if_neg (by omega), hX1.out]; unfold updV; rw [if_neg (by omega)]; exact hl4.out)
                           have hCa3 := hide ((hS2.out.cl hB2.out).upd0 (Upd.alloc [] ws2 (.cells #[.bool true] 4)))
                           have hcv3 : ws2.cell? ⟨w.heap.size + 3, 26 + l, none⟩ = some (V2 (15 + l)) := (by have h := (hS2.out.cl hB2.out).cell (15 + l) (by omega); rw [show 11 + (15 + l) = 26 + l by omega] at h; exact h)
                           have hOw3 : Hid ((ws2.alloc (.cells #[.bool true] 4)).ownsRow w.heap.size 4 1 (V2 (15 + l)) (X2 (15 + l)).length (X2 (15 + l))) := (by have h := (hS2.out.upd0 (Upd.alloc [] ws2 (.cells #[.bool true] 4))).bld.own (15 + l) (by omega); rw [rowT_top hl5] at h; exact h)
                           have hKa3 : Hid (Kinds (ws2.alloc (.cells #[.bool true] 4)) (V2 (15 + l)).ownBlock.toList [rowT (15 + l)]) := (by unfold Hid; rw [rowT_top hl5]; exact own_kinds hOw3.out))
                        | ((with_reducible refine gd_app _ (.tmp 93) (.tmp 94) 30 ?_)
                           refine wpl_appendM (v := V2 (15 + l)) (u := .bool true) _ w.heap.size Try.underlying30 hi4 hi4z hi4s hi4b rfl rfl hOw3.out rfl (cell_new1 _ _ _) rfl (by have := hl4'.out; omega) (by omega) hCa3.out.big ?_
                           intro va3 wa3 hown3 hga3 hfa3)
                        | ((with_reducible refine gd_store 30 (.tmp 97) (.tmp 95) ?_)
                           refine wpl_store1 size30 rfl rfl (ownsRow_one hown3).1 (ownsRow_one hown3).2 (hCa3.out.keep (Upd.ofGrown (bs := (V2 (15 + l)).ownBlock.toList) hga3 (by intro b e; simp [e])) hKa3.out).mb (by rw [len36]; omega) ?_
                           intro ws3 hbs3 hgs3
                           rw [show 26 + l = 11 + (15 + l) by omega] at hbs3
                           obtain ⟨hS3, hB3⟩ := BS.push hS2.out hB2.out (15 + l) (by omega) (by rw [rowT_top hl5]; exact hown3) hga3 hfa3 hbs3 hgs3
                           obtain ⟨V3, hV3⟩ : ∃ V', V' = updV V2 (15 + l) va3 := ⟨_, rfl⟩
                           obtain ⟨X3, hX3⟩ : ∃ X', X' = updV X2 (15 + l) (X2 (15 + l) ++ [.bool true]) := ⟨_, rfl⟩
                           rw [← hV3, ← hX3] at hS3
                           replace hS3 := hide hS3; replace hB3 := hide hB3; replace hX3 := hide hX3
                           clear hV3 hown3 hga3 hfa3 hbs3 hgs3 hOw3 hKa3 hCa3 hcv3
                           have hl3' : Hid ((X3 (10 + l)).length ≤ 65536) := (by unfold Hid; rw [hX3.out]; unfold updV; rw [if_neg (by omega), hX2.out]; unfold updV; rw [if_neg (by omega), hX1.out]; unfold updV; rw [if_neg (by omega)]; exact hl3.out)
                           have hCa4 := hide ((hS3.out.cl hB3.out).upd0 (Upd.alloc [] ws3 (.cells #[.int .i32 (-1)] 21)))
                           have hcv4 : ws3.cell? ⟨w.heap.size + 3, 21 + l, none⟩ = some (V3 (10 + l)) := (by have h := (hS3.out.cl hB3.out).cell (10 + l) (by omega); rw [show 11 + (10 + l) = 21 + l by omega] at h; exact h)
                           have hOw4 : Hid ((ws3.alloc (.cells #[.int .i32 (-1)] 21)).ownsRow w.heap.size 21 1 (V3 (10 + l)) (X3 (10 + l)).length (X3 (10 + l))) := (by have h := (hS3.out.upd0 (Upd.alloc [] ws3 (.cells #[.int .i32 (-1)] 21))).bld.own (10 + l) (by omega); rw [rowT_lo (show 10 + l < 15 by omega)] at h; exact h)
                           have hKa4 : Hid (Kinds (ws3.alloc (.cells #[.int .i32 (-1)] 21)) (V3 (10 + l)).ownBlock.toList [rowT (10 + l)]) := (by unfold Hid; rw [rowT_lo (show 10 + l < 15 by omega)]; exact own_kinds hOw4.out))
                        | ((with_reducible refine gd_app _ (.tmp 134) (.tmp 135) 28 ?_)
                           refine wpl_appendM (v := V3 (10 + l)) (u := .int .i32 (-1)) _ w.heap.size Try.underlying28 hi21 hi21z hi21s hi21b rfl rfl hOw4.out rfl (cell_new1 _ _ _) rfl (by have := hl3'.out; omega) (by omega) hCa4.out.big ?_
                           intro va4 wa4 hown4 hga4 hfa4)
                        | ((with_reducible refine gd_store 28 (.tmp 138) (.tmp 136) ?_)
                           refine wpl_store1 size28 rfl rfl (ownsRow_one hown4).1 (ownsRow_one hown4).2 (hCa4.out.keep (Upd.ofGrown (bs := (V3 (10 + l)).ownBlock.toList) hga4 (by intro b e; simp [e])) hKa4.out).mb (by rw [len36]; omega) ?_
                           intro ws4 hbs4 hgs4
                           rw [show 21 + l = 11 + (10 + l) by omega] at hbs4
                           obtain ⟨hS4, hB4⟩ := BS.push hS3.out hB3.out (10 + l) (by omega) (by rw [rowT_lo (show 10 + l < 15 by omega)]; exact hown4) hga4 hfa4 hbs4 hgs4
                           obtain ⟨V4, hV4⟩ : ∃ V', V' = updV V3 (10 + l) va4 := ⟨_, rfl⟩
                           obtain ⟨X4, hX4⟩ : ∃ X', X' = updV X3 (10 + l) (X3 (10 + l) ++ [.int .i32 (-1)]) := ⟨_, rfl⟩
                           rw [← hV4, ← hX4] at hS4
                           replace hS4 := hide hS4; replace hB4 := hide hB4; replace hX4 := hide hX4
                           clear hV4 hown4 hga4 hfa4 hbs4 hgs4 hOw4 hKa4 hCa4 hcv4))
                      go_roundw
                      case rel =>
                        refine ⟨k + 1, V4, by have := hkl.out; omega, by simp, ?_, hB4.out⟩
                        rw [part_succ, ← hP.out]
                        have hpar : (linkG T tl[j] (offJ T tl j) (-1) (lens (stJ T tl j)) l k).parent = -1 := (if_pos hlt'.out)
                        have htop : (cellG tl[j] (-1) (lens (stJ T tl j)) l k).top = true := (by show (if l = tl[j] then ((-1 : Int) == -1) else false) = true; rw [if_pos hlt'.out]; rfl)
                        have hchi : (linkG T tl[j] (offJ T tl j) (-1) (lens (stJ T tl j)) l k).child = -1 := (if_pos hl0.out)
                        have hx := XS_push P (roJ T tl j) (runsJ T tl j) l hl5 (cellG tl[j] (-1) (lens (stJ T tl j)) l k) (linkG T tl[j] (offJ T tl j) (-1) (lens (stJ T tl j)) l k) X1 X2 X3 (by rw [hX1.out, hX.out]; rfl) (by rw [hpar]; exact hX2.out) (by rw [htop]; exact hX3.out)
                        rw [← hx, hchi, ← hX4.out]; exact hS4.out
                      case measure => have := hkl.out; simp [intOf]; omega
                    · as_aux_lemma =>
                      have hb0 : ((l : Int) == 0) = false := by simp; omega
                      replace hl0 := hide hl0
                      have hch : Hid (lens (stJ T tl j) (l - 1) + k * T.fan l ≤ 65536 ∧ k * T.fan l ≤ 65536) := child_bound ht hjt htj hlt.out hkl.out hl0.out
                      have hl2' : Hid ((X1 (5 + l)).length ≤ 65536) := (by unfold Hid; rw [hX1.out]; unfold updV; rw [if_neg (by omega)]; exact hl2.out)
                      have hCa2 := hide ((hS1.out.cl hB1.out).upd0 (Upd.alloc [] ws1 (.cells #[.int .i32 (-1)] 21)))
                      have hcv2 : ws1.cell? ⟨w.heap.size + 3, 16 + l, none⟩ = some (V1 (5 + l)) := (by have h := (hS1.out.cl hB1.out).cell (5 + l) (by omega); rw [show 11 + (5 + l) = 16 + l by omega] at h; exact h)
                      have hOw2 : Hid ((ws1.alloc (.cells #[.int .i32 (-1)] 21)).ownsRow w.heap.size 21 1 (V1 (5 + l)) (X1 (5 + l)).length (X1 (5 + l))) := (by have h := (hS1.out.upd0 (Upd.alloc [] ws1 (.cells #[.int .i32 (-1)] 21))).bld.own (5 + l) (by omega); rw [rowT_lo (show 5 + l < 15 by omega)] at h; exact h)
                      have hKa2 : Hid (Kinds (ws1.alloc (.cells #[.int .i32 (-1)] 21)) (V1 (5 + l)).ownBlock.toList [rowT (5 + l)]) := (by unfold Hid; rw [rowT_lo (show 5 + l < 15 by omega)]; exact own_kinds hOw2.out)
                      go_wp2_with (first
                        | ((with_reducible refine gd_app _ (.tmp 84) (.tmp 85) 28 ?_)
                           refine wpl_appendM (v := V1 (5 + l)) (u := .int .i32 (-1)) _ w.heap.size Try.underlying28 hi21 hi21z hi21s hi21b rfl rfl hOw2.out rfl (cell_new1 _ _ _) rfl (by have := hl2'.out; omega) (by omega) hCa2.out.big ?_
                           intro va2 wa2 hown2 hga2 hfa2)
                        | ((with_reducible refine gd_store 28 (.tmp 88) (.tmp 86) ?_)
                           refine wpl_store1 size28 rfl rfl (ownsRow_one hown2).1 (ownsRow_one hown2).2 (hCa2.out.keep (Upd.ofGrown (bs := (V1 (5 + l)).ownBlock.toList) hga2 (by intro b e; simp [e])) hKa2.out).mb (by rw [len36]; omega) ?_
                           intro ws2 hbs2 hgs2
                           rw [show 16 + l = 11 + (5 + l) by omega] at hbs2
                           obtain ⟨hS2, hB2⟩ := BS.push hS1.out hB1.out (5 + l) (by omega) (by rw [rowT_lo (show 5 + l < 15 by omega)]; exact hown2) hga2 hfa2 hbs2 hgs2
                           obtain ⟨V2, hV2⟩ : ∃ V', V' = updV V1 (5 + l) va2 := ⟨_, rfl⟩
                           obtain ⟨X2, hX2⟩ : ∃ X', X' = updV X1 (5 + l) (X1 (5 + l) ++ [.int .i32 (-1)]) := ⟨_, rfl⟩
                           rw [← hV2, ← hX2] at hS2
                           replace hS2 := hide hS2; replace hB2 := hide hB2; replace hX2 := hide hX2
                           clear hV2 hown2 hga2 hfa2 hbs2 hgs2 hOw2 hKa2 hCa2 hcv2
                           have hl4' : Hid ((X2 (15 + l)).length ≤ 65536) := (by unfold Hid; rw [hX2.out]; unfold updV; rw [if_neg (by omega), hX1.out]; unfold updV; rw [if_neg (by omega)]; exact hl4.out)
                           have hCa3 := hide ((hS2.out.cl hB2.out).upd0 (Upd.alloc [] ws2 (.cells #[.bool true] 4)))
                           have hcv3 : ws2.cell? ⟨w.heap.size + 3, 26 + l, none⟩ = some (V2 (15 + l)) := (by have h := (hS2.out.cl hB2.out).cell (15 + l) (by omega); rw [show 11 + (15 + l) = 26 + l by omega] at h; exact h)
                           have hOw3 : Hid ((ws2.alloc (.cells #[.bool true] 4)).ownsRow w.heap.size 4 1 (V2 (15 + l)) (X2 (15 + l)).length (X2 (15 + l))) := (by have h := (hS2.out.upd0 (Upd.alloc [] ws2 (.cells #[.bool true] 4))).bld.own (15 + l) (by omega); rw [rowT_top hl5] at h; exact h)
                           have hKa3 : Hid (Kinds (ws2.alloc (.cells #[.bool true] 4)) (V2 (15 + l)).ownBlock.toList [rowT (15 + l)]) := (by unfold Hid; rw [rowT_top hl5]; exact own_kinds hOw3.out))
                        | ((with_reducible refine gd_app _ (.tmp 93) (.tmp 94) 30 ?_)
                           refine wpl_appendM (v := V2 (15 + l)) (u := .bool true) _ w.heap.size Try.underlying30 hi4 hi4z hi4s hi4b rfl rfl hOw3.out rfl (cell_new1 _ _ _) rfl (by have := hl4'.out; omega) (by omega) hCa3.out.big ?_
                           intro va3 wa3 hown3 hga3 hfa3)
                        | ((with_reducible refine gd_store 30 (.tmp 97) (.tmp 95) ?_)
                           refine wpl_store1 size30 rfl rfl (ownsRow_one hown3).1 (ownsRow_one hown3).2 (hCa3.out.keep (Upd.ofGrown (bs := (V2 (15 + l)).ownBlock.toList) hga3 (by intro b e; simp [e])) hKa3.out).mb (by rw [len36]; omega) ?_
                           intro ws3 hbs3 hgs3
                           rw [show 26 + l = 11 + (15 + l) by omega] at hbs3
                           obtain ⟨hS3, hB3⟩ := BS.push hS2.out hB2.out (15 + l) (by omega) (by rw [rowT_top hl5]; exact hown3) hga3 hfa3 hbs3 hgs3
                           obtain ⟨V3, hV3⟩ : ∃ V', V' = updV V2 (15 + l) va3 := ⟨_, rfl⟩
                           obtain ⟨X3, hX3⟩ : ∃ X', X' = updV X2 (15 + l) (X2 (15 + l) ++ [.bool true]) := ⟨_, rfl⟩
                           rw [← hV3, ← hX3] at hS3
                           replace hS3 := hide hS3; replace hB3 := hide hB3; replace hX3 := hide hX3
                           clear hV3 hown3 hga3 hfa3 hbs3 hgs3 hOw3 hKa3 hCa3 hcv3))
                      have hS3d := hS3.out.upd0 (Upd.drew [] ws3)
                      have hB3d := hB3.out.upd (Upd.drew [] ws3) (by simp)
                      have hC3 := hS3d.cl hB3d
                      have hl3' : Hid ((X3 (10 + l)).length ≤ 65536) := (by unfold Hid; rw [hX3.out]; unfold updV; rw [if_neg (by omega), hX2.out]; unfold updV; rw [if_neg (by omega), hX1.out]; unfold updV; rw [if_neg (by omega)]; exact hl3.out)
                      refine region_anyD (Cl w.heap.size bb T (baseRow (lens (stJ T tl j)) 5) V3) 20 mixed ?_
                      refine anyD_take 0 139 (.int .i64 l) rfl rfl (by kernel_rfl) (by kernel_rfl) (by kernel_rfl) (by kernel_rfl) (by decide) rfl (stays_ok rfl (fun _ _ => rfl)) #[true, false, false, false, false, false, false, false, false, false, false, false, false, false, false, false, false, false, false, false, false] rfl ?_
                      simp only [Act.put, List.setIfInBounds_toArray, List.set_cons_succ, List.set_cons_zero]
                      refine anyD_take 1 140 (.int .i64 l) rfl rfl (by kernel_rfl) (by kernel_rfl) (by kernel_rfl) (by kernel_rfl) (by decide) rfl (stays_ok rfl (fun _ _ => rfl)) #[true, true, false, false, false, false, false, false, false, false, false, false, false, false, false, false, false, false, false, false, false] rfl ?_
                      simp only [Act.put, List.setIfInBounds_toArray, List.set_cons_succ, List.set_cons_zero]
                      refine anyD_take 2 141 (.pointer (some ⟨w.heap.size + 3, 0 + 21, none⟩)) rfl rfl (by kernel_rfl) (by kernel_rfl) (by kernel_rfl) (by kernel_rfl) (by decide) rfl (stays_ok rfl (fun w' _ => exec_field fo33_4 rfl w')) #[true, true, true, false, false, false, false, false, false, false, false, false, false, false, false, false, false, false, false, false, false] rfl ?_
                      simp only [Act.put, List.setIfInBounds_toArray, List.set_cons_succ, List.set_cons_zero]
                      refine anyD_take 3 142 (.pointer (some ⟨w.heap.size + 3, 0 + 21 + l, none⟩)) rfl rfl (by kernel_rfl) (by kernel_rfl) (by kernel_rfl) (by kernel_rfl) (by decide) rfl (stays_ok rfl (fun w' _ => exec_arr1 (k := .i64) Try.underlying29 size28 rfl rfl (by omega) w')) #[true, true, true, true, false, false, false, false, false, false, false, false, false, false, false, false, false, false, false, false, false] rfl ?_
                      simp only [Act.put, List.setIfInBounds_toArray, List.set_cons_succ, List.set_cons_zero]
                      refine anyD_take 4 143 (V3 (10 + l)) rfl rfl (by kernel_rfl) (by kernel_rfl) (by kernel_rfl) (by kernel_rfl) (by decide) rfl (stays_ok rfl (fun w' hw' => exec_load1 one28 rfl (by rw [show 0 + 21 + l = 11 + (10 + l) by omega]; exact hw'.cell _ (by omega)))) #[true, true, true, true, true, false, false, false, false, false, false, false, false, false, false, false, false, false, false, false, false] rfl ?_
                      simp only [Act.put, List.setIfInBounds_toArray, List.set_cons_succ, List.set_cons_zero]
                      refine anyD_take 5 144 (.int .i64 l) rfl rfl (by kernel_rfl) (by kernel_rfl) (by kernel_rfl) (by kernel_rfl) (by decide) rfl (stays_ok rfl (fun _ _ => rfl)) #[true, true, true, true, true, true, false, false, false, false, false, false, false, false, false, false, false, false, false, false, false] rfl ?_
                      simp only [Act.put, List.setIfInBounds_toArray, List.set_cons_succ, List.set_cons_zero]
                      refine anyD_take 6 145 (.int .i64 ((l - 1 : Nat) : Int)) rfl rfl (by kernel_rfl) (by kernel_rfl) (by kernel_rfl) (by kernel_rfl) (by decide) rfl (stays_ok rfl (fun w' _ => exec_dec64 rfl (by have := hl0.out; omega) (by omega) w')) #[true, true, true, true, true, true, true, false, false, false, false, false, false, false, false, false, false, false, false, false, false] rfl ?_
                      simp only [Act.put, List.setIfInBounds_toArray, List.set_cons_succ, List.set_cons_zero]
                      refine anyD_take 7 146 (.pointer (some ⟨bb, 0 + (l - 1), none⟩)) rfl rfl (by kernel_rfl) (by kernel_rfl) (by kernel_rfl) (by kernel_rfl) (by decide) rfl (stays_ok rfl (fun w' _ => exec_arr1 (k := .i64) (l := l - 1) Try.underlying24 size2 rfl rfl (by omega) w')) #[true, true, true, true, true, true, true, true, false, false, false, false, false, false, false, false, false, false, false, false, false] rfl ?_
                      simp only [Act.put, List.setIfInBounds_toArray, List.set_cons_succ, List.set_cons_zero]
                      refine anyD_take 8 147 (.int .i64 (lens (stJ T tl j) (l - 1) : Nat)) rfl rfl (by kernel_rfl) (by kernel_rfl) (by kernel_rfl) (by kernel_rfl) (by decide) rfl (stays_ok rfl (fun w' hw' => exec_load1 one2 rfl (by rw [Nat.zero_add]; exact baseRow_cell hw'.bas _ (by omega)))) #[true, true, true, true, true, true, true, true, true, false, false, false, false, false, false, false, false, false, false, false, false] rfl ?_
                      simp only [Act.put, List.setIfInBounds_toArray, List.set_cons_succ, List.set_cons_zero]
                      refine anyD_take 9 148 (.int .i64 k) rfl rfl (by kernel_rfl) (by kernel_rfl) (by kernel_rfl) (by kernel_rfl) (by decide) rfl (stays_ok rfl (fun _ _ => rfl)) #[true, true, true, true, true, true, true, true, true, true, false, false, false, false, false, false, false, false, false, false, false] rfl ?_
                      simp only [Act.put, List.setIfInBounds_toArray, List.set_cons_succ, List.set_cons_zero]
                      refine anyD_take 10 149 (.int .i64 l) rfl rfl (by kernel_rfl) (by kernel_rfl) (by kernel_rfl) (by kernel_rfl) (by decide) rfl (stays_ok rfl (fun _ _ => rfl)) #[true, true, true, true, true, true, true, true, true, true, true, false, false, false, false, false, false, false, false, false, false] rfl ?_
                      simp only [Act.put, List.setIfInBounds_toArray, List.set_cons_succ, List.set_cons_zero]
                      refine anyD_take 11 150 (.pointer (some ⟨w.heap.size + 1, 0 + l, none⟩)) rfl rfl (by kernel_rfl) (by kernel_rfl) (by kernel_rfl) (by kernel_rfl) (by decide) rfl (stays_ok rfl (fun w' _ => exec_arr1 (k := .i64) Try.underlying25 size2 rfl rfl (by omega) w')) #[true, true, true, true, true, true, true, true, true, true, true, true, false, false, false, false, false, false, false, false, false] rfl ?_
                      simp only [Act.put, List.setIfInBounds_toArray, List.set_cons_succ, List.set_cons_zero]
                      refine anyD_take 12 151 (.int .i64 (T.fan l)) rfl rfl (by kernel_rfl) (by kernel_rfl) (by kernel_rfl) (by kernel_rfl) (by decide) rfl (stays_ok rfl (fun w' hw' => exec_load1 one2 rfl (by rw [Nat.zero_add]; exact fanV_cell hw'.fan _ (by omega)))) #[true, true, true, true, true, true, true, true, true, true, true, true, true, false, false, false, false, false, false, false, false] rfl ?_
                      simp only [Act.put, List.setIfInBounds_toArray, List.set_cons_succ, List.set_cons_zero]
                      refine anyD_take 13 152 (.int .i64 ((k * T.fan l : Nat) : Int)) rfl rfl (by kernel_rfl) (by kernel_rfl) (by kernel_rfl) (by kernel_rfl) (by decide) rfl (stays_ok rfl (fun w' _ => exec_mul2 rfl rfl (by have := hch.out; omega) w')) #[true, true, true, true, true, true, true, true, true, true, true, true, true, true, false, false, false, false, false, false, false] rfl ?_
                      simp only [Act.put, List.setIfInBounds_toArray, List.set_cons_succ, List.set_cons_zero]
                      refine anyD_take 14 153 (.int .i64 ((lens (stJ T tl j) (l - 1) + k * T.fan l : Nat) : Int)) rfl rfl (by kernel_rfl) (by kernel_rfl) (by kernel_rfl) (by kernel_rfl) (by decide) rfl (stays_ok rfl (fun w' _ => exec_add2 rfl rfl (by have := hch.out; omega) w')) #[true, true, true, true, true, true, true, true, true, true, true, true, true, true, true, false, false, false, false, false, false] rfl ?_
                      simp only [Act.put, List.setIfInBounds_toArray, List.set_cons_succ, List.set_cons_zero]
                      refine anyD_take 15 154 (.int .i32 ((lens (stJ T tl j) (l - 1) + k * T.fan l : Nat) : Int)) rfl rfl (by kernel_rfl) (by kernel_rfl) (by kernel_rfl) (by kernel_rfl) (by decide) rfl (stays_ok rfl (fun w' _ => exec_conv2 rfl (by have := hch.out; omega) w')) #[true, true, true, true, true, true, true, true, true, true, true, true, true, true, true, true, false, false, false, false, false] rfl ?_
                      simp only [Act.put, List.setIfInBounds_toArray, List.set_cons_succ, List.set_cons_zero]
                      refine anyD_take0 18 157 (.pointer (some ⟨w.heap.size + 3, 0 + 21, none⟩)) rfl rfl (by kernel_rfl) (by kernel_rfl) (by kernel_rfl) (by decide) (stays_ok rfl (fun w' _ => exec_field fo33_4 rfl w')) #[true, true, true, true, true, true, true, true, true, true, true, true, true, true, true, true, false, false, true, false, false] rfl ?_
                      simp only [Act.put, List.setIfInBounds_toArray, List.set_cons_succ, List.set_cons_zero]
                      refine anyD_only 16 rfl (by kernel_rfl) hC3 rfl #[true, true, true, true, true, true, true, true, true, true, true, true, true, true, true, true, true, false, true, false, false] rfl ?_
                      refine wp_build1 (v := .int .i32 ((lens (stJ T tl j) (l - 1) + k * T.fan l : Nat) : Int)) Try.underlying28 hi21 hi21z hi21s rfl rfl ?_
                      simp only [Act.put, List.setIfInBounds_toArray, List.set_cons_succ, List.set_cons_zero]
                      have hCa4 := hC3.upd0 (Upd.alloc [] ws3.drew (.cells #[.int .i32 ((lens (stJ T tl j) (l - 1) + k * T.fan l : Nat) : Int)] 21))
                      have hOw4 : (ws3.drew.alloc (.cells #[.int .i32 ((lens (stJ T tl j) (l - 1) + k * T.fan l : Nat) : Int)] 21)).ownsRow w.heap.size 21 1 (V3 (10 + l)) (X3 (10 + l)).length (X3 (10 + l)) := by have h := (hS3d.upd0 (Upd.alloc [] ws3.drew (.cells #[.int .i32 ((lens (stJ T tl j) (l - 1) + k * T.fan l : Nat) : Int)] 21))).bld.own (10 + l) (by omega); rw [rowT_lo (show 10 + l < 15 by omega)] at h; exact h
                      refine anyD_only 17 rfl (by kernel_rfl) hCa4 rfl #[true, true, true, true, true, true, true, true, true, true, true, true, true, true, true, true, true, true, true, false, false] rfl ?_
                      refine wp_appendM (v := V3 (10 + l)) (u := .int .i32 ((lens (stJ T tl j) (l - 1) + k * T.fan l : Nat) : Int)) _ w.heap.size Try.underlying28 hi21 hi21z hi21s hi21b rfl rfl hOw4 rfl (cell_new1 _ _ _) rfl (by have := hl3'.out; omega) (by omega) (hCa4.big) ?_
                      intro va4 wa4 hown4 hga4 hfa4
                      have hKa4 : Kinds (ws3.drew.alloc (.cells #[.int .i32 ((lens (stJ T tl j) (l - 1) + k * T.fan l : Nat) : Int)] 21)) (V3 (10 + l)).ownBlock.toList [rowT (10 + l)] := by rw [rowT_lo (show 10 + l < 15 by omega)]; exact own_kinds hOw4
                      have hCb4 := hCa4.keep (Upd.ofGrown (bs := (V3 (10 + l)).ownBlock.toList) hga4 (by intro b e; simp [e])) hKa4
                      simp only [Act.put, List.setIfInBounds_toArray, List.set_cons_succ, List.set_cons_zero]
                      refine anyD_take 19 158 (.pointer (some ⟨w.heap.size + 3, 0 + 21 + l, none⟩)) rfl rfl (by kernel_rfl) (by kernel_rfl) (by kernel_rfl) (by kernel_rfl) (by decide) rfl (stays_ok rfl (fun w' _ => exec_arr1 (k := .i64) Try.underlying29 size28 rfl rfl (by omega) w')) #[true, true, true, true, true, true, true, true, true, true, true, true, true, true, true, true, true, true, true, true, false] rfl ?_
                      simp only [Act.put, List.setIfInBounds_toArray, List.set_cons_succ, List.set_cons_zero]
                      refine anyD_only 20 rfl (by kernel_rfl) hCb4 rfl #[true, true, true, true, true, true, true, true, true, true, true, true, true, true, true, true, true, true, true, true, true] rfl ?_
                      refine wp_store1 (val := va4) size28 rfl rfl (ownsRow_one hown4).1 (ownsRow_one hown4).2 hCb4.mb (by rw [len36]; omega) ?_
                      intro ws4 hbs4 hgs4
                      rw [show 0 + 21 + l = 11 + (10 + l) by omega] at hbs4
                      simp only [Act.put, List.setIfInBounds_toArray, List.set_cons_succ, List.set_cons_zero]
                      refine anyD_done (by kernel_rfl) rfl ?_
                      obtain ⟨hS4, hB4⟩ := BS.push hS3d hB3d (10 + l) (by omega) (by rw [rowT_lo (show 10 + l < 15 by omega)]; exact hown4) hga4 hfa4 hbs4 hgs4
                      obtain ⟨V4, hV4⟩ : ∃ V', V' = updV V3 (10 + l) va4 := ⟨_, rfl⟩
                      obtain ⟨X4, hX4⟩ : ∃ X', X' = updV X3 (10 + l) (X3 (10 + l) ++ [.int .i32 ((lens (stJ T tl j) (l - 1) + k * T.fan l : Nat) : Int)]) := ⟨_, rfl⟩
                      rw [← hV4, ← hX4] at hS4
                      replace hS4 := hide hS4; replace hB4 := hide hB4; replace hX4 := hide hX4
                      clear hV4 hown4 hga4 hfa4 hbs4 hgs4 hOw4 hKa4 hCa4 hCb4
                      go_wp2_with (fail)
                      go_roundw
                      case rel =>
                        refine ⟨k + 1, V4, by have := hkl.out; omega, by simp, ?_, hB4.out⟩
                        rw [part_succ, ← hP.out]
                        have hpar : (linkG T tl[j] (offJ T tl j) (-1) (lens (stJ T tl j)) l k).parent = -1 := (if_pos hlt'.out)
                        have htop : (cellG tl[j] (-1) (lens (stJ T tl j)) l k).top = true := (by show (if l = tl[j] then ((-1 : Int) == -1) else false) = true; rw [if_pos hlt'.out]; rfl)
                        have hchi : (linkG T tl[j] (offJ T tl j) (-1) (lens (stJ T tl j)) l k).child = ((lens (stJ T tl j) (l - 1) + k * T.fan l : Nat) : Int) := (if_neg hl0.out)
                        have hx := XS_push P (roJ T tl j) (runsJ T tl j) l hl5 (cellG tl[j] (-1) (lens (stJ T tl j)) l k) (linkG T tl[j] (offJ T tl j) (-1) (lens (stJ T tl j)) l k) X1 X2 X3 (by rw [hX1.out, hX.out]; rfl) (by rw [hpar]; exact hX2.out) (by rw [htop]; exact hX3.out)
                        rw [← hx, hchi, ← hX4.out]; exact hS4.out
                      case measure => have := hkl.out; simp [intOf]; omega
                  · have hbt : ((l : Int) == (tl[j] : Int)) = false := by simp; omega
                    replace hlt' := hide hlt'
                    have hpq : Hid (1 ≤ T.fan (l + 1) ∧ lens (stJ T tl j) (l + 1) + k / T.fan (l + 1) ≤ 65536) := parent_bound ht hjt htj hlt.out hkl.out hlt'.out
                    go_wp2_with (fail)
                    have hS1d := hS1.out.upd0 (Upd.drew [] ws1)
                    have hB1d := hB1.out.upd (Upd.drew [] ws1) (by simp)
                    have hC1 := hS1d.cl hB1d
                    have hl2' : Hid ((X1 (5 + l)).length ≤ 65536) := (by unfold Hid; rw [hX1.out]; unfold updV; rw [if_neg (by omega)]; exact hl2.out)
                    refine region_anyD (Cl w.heap.size bb T (baseRow (lens (stJ T tl j)) 5) V1) 21 mixed ?_
                    refine anyD_take 0 98 (.int .i64 l) rfl rfl (by kernel_rfl) (by kernel_rfl) (by kernel_rfl) (by kernel_rfl) (by decide) rfl (stays_ok rfl (fun _ _ => rfl)) #[true, false, false, false, false, false, false, false, false, false, false, false, false, false, false, false, false, false, false, false, false, false] rfl ?_
                    simp only [Act.put, List.setIfInBounds_toArray, List.set_cons_succ, List.set_cons_zero]
                    refine anyD_take 1 99 (.int .i64 l) rfl rfl (by kernel_rfl) (by kernel_rfl) (by kernel_rfl) (by kernel_rfl) (by decide) rfl (stays_ok rfl (fun _ _ => rfl)) #[true, true, false, false, false, false, false, false, false, false, false, false, false, false, false, false, false, false, false, false, false, false] rfl ?_
                    simp only [Act.put, List.setIfInBounds_toArray, List.set_cons_succ, List.set_cons_zero]
                    refine anyD_take 2 100 (.pointer (some ⟨w.heap.size + 3, 0 + 16, none⟩)) rfl rfl (by kernel_rfl) (by kernel_rfl) (by kernel_rfl) (by kernel_rfl) (by decide) rfl (stays_ok rfl (fun w' _ => exec_field fo33_3 rfl w')) #[true, true, true, false, false, false, false, false, false, false, false, false, false, false, false, false, false, false, false, false, false, false] rfl ?_
                    simp only [Act.put, List.setIfInBounds_toArray, List.set_cons_succ, List.set_cons_zero]
                    refine anyD_take 3 101 (.pointer (some ⟨w.heap.size + 3, 0 + 16 + l, none⟩)) rfl rfl (by kernel_rfl) (by kernel_rfl) (by kernel_rfl) (by kernel_rfl) (by decide) rfl (stays_ok rfl (fun w' _ => exec_arr1 (k := .i64) Try.underlying29 size28 rfl rfl (by omega) w')) #[true, true, true, true, false, false, false, false, false, false, false, false, false, false, false, false, false, false, false, false, false, false] rfl ?_
                    simp only [Act.put, List.setIfInBounds_toArray, List.set_cons_succ, List.set_cons_zero]
                    refine anyD_take 4 102 (V1 (5 + l)) rfl rfl (by kernel_rfl) (by kernel_rfl) (by kernel_rfl) (by kernel_rfl) (by decide) rfl (stays_ok rfl (fun w' hw' => exec_load1 one28 rfl (by rw [show 0 + 16 + l = 11 + (5 + l) by omega]; exact hw'.cell _ (by omega)))) #[true, true, true, true, true, false, false, false, false, false, false, false, false, false, false, false, false, false, false, false, false, false] rfl ?_
                    simp only [Act.put, List.setIfInBounds_toArray, List.set_cons_succ, List.set_cons_zero]
                    refine anyD_take 5 103 (.int .i64 l) rfl rfl (by kernel_rfl) (by kernel_rfl) (by kernel_rfl) (by kernel_rfl) (by decide) rfl (stays_ok rfl (fun _ _ => rfl)) #[true, true, true, true, true, true, false, false, false, false, false, false, false, false, false, false, false, false, false, false, false, false] rfl ?_
                    simp only [Act.put, List.setIfInBounds_toArray, List.set_cons_succ, List.set_cons_zero]
                    refine anyD_take 6 104 (.int .i64 ((l + 1 : Nat) : Int)) rfl rfl (by kernel_rfl) (by kernel_rfl) (by kernel_rfl) (by kernel_rfl) (by decide) rfl (stays_ok rfl (fun w' _ => exec_inc64 rfl (by omega) w')) #[true, true, true, true, true, true, true, false, false, false, false, false, false, false, false, false, false, false, false, false, false, false] rfl ?_
                    simp only [Act.put, List.setIfInBounds_toArray, List.set_cons_succ, List.set_cons_zero]
                    refine anyD_take 7 105 (.pointer (some ⟨bb, 0 + (l + 1), none⟩)) rfl rfl (by kernel_rfl) (by kernel_rfl) (by kernel_rfl) (by kernel_rfl) (by decide) rfl (stays_ok rfl (fun w' _ => exec_arr1 (k := .i64) (l := l + 1) Try.underlying24 size2 rfl rfl (by have := hlt'.out; have := hlt.out; omega) w')) #[true, true, true, true, true, true, true, true, false, false, false, false, false, false, false, false, false, false, false, false, false, false] rfl ?_
                    simp only [Act.put, List.setIfInBounds_toArray, List.set_cons_succ, List.set_cons_zero]
                    refine anyD_take 8 106 (.int .i64 (lens (stJ T tl j) (l + 1) : Nat)) rfl rfl (by kernel_rfl) (by kernel_rfl) (by kernel_rfl) (by kernel_rfl) (by decide) rfl (stays_ok rfl (fun w' hw' => exec_load1 one2 rfl (by rw [Nat.zero_add]; exact baseRow_cell hw'.bas _ (by have := hlt'.out; have := hlt.out; omega)))) #[true, true, true, true, true, true, true, true, true, false, false, false, false, false, false, false, false, false, false, false, false, false] rfl ?_
                    simp only [Act.put, List.setIfInBounds_toArray, List.set_cons_succ, List.set_cons_zero]
                    refine anyD_take 9 107 (.int .i64 k) rfl rfl (by kernel_rfl) (by kernel_rfl) (by kernel_rfl) (by kernel_rfl) (by decide) rfl (stays_ok rfl (fun _ _ => rfl)) #[true, true, true, true, true, true, true, true, true, true, false, false, false, false, false, false, false, false, false, false, false, false] rfl ?_
                    simp only [Act.put, List.setIfInBounds_toArray, List.set_cons_succ, List.set_cons_zero]
                    refine anyD_take 10 108 (.int .i64 l) rfl rfl (by kernel_rfl) (by kernel_rfl) (by kernel_rfl) (by kernel_rfl) (by decide) rfl (stays_ok rfl (fun _ _ => rfl)) #[true, true, true, true, true, true, true, true, true, true, true, false, false, false, false, false, false, false, false, false, false, false] rfl ?_
                    simp only [Act.put, List.setIfInBounds_toArray, List.set_cons_succ, List.set_cons_zero]
                    refine anyD_take 11 109 (.int .i64 ((l + 1 : Nat) : Int)) rfl rfl (by kernel_rfl) (by kernel_rfl) (by kernel_rfl) (by kernel_rfl) (by decide) rfl (stays_ok rfl (fun w' _ => exec_inc64 rfl (by omega) w')) #[true, true, true, true, true, true, true, true, true, true, true, true, false, false, false, false, false, false, false, false, false, false] rfl ?_
                    simp only [Act.put, List.setIfInBounds_toArray, List.set_cons_succ, List.set_cons_zero]
                    refine anyD_take 12 110 (.pointer (some ⟨w.heap.size + 1, 0 + (l + 1), none⟩)) rfl rfl (by kernel_rfl) (by kernel_rfl) (by kernel_rfl) (by kernel_rfl) (by decide) rfl (stays_ok rfl (fun w' _ => exec_arr1 (k := .i64) (l := l + 1) Try.underlying25 size2 rfl rfl (by omega) w')) #[true, true, true, true, true, true, true, true, true, true, true, true, true, false, false, false, false, false, false, false, false, false] rfl ?_
                    simp only [Act.put, List.setIfInBounds_toArray, List.set_cons_succ, List.set_cons_zero]
                    refine anyD_take 13 111 (.int .i64 (T.fan (l + 1))) rfl rfl (by kernel_rfl) (by kernel_rfl) (by kernel_rfl) (by kernel_rfl) (by decide) rfl (stays_ok rfl (fun w' hw' => exec_load1 one2 rfl (by rw [Nat.zero_add]; exact fanV_cell hw'.fan _ (by omega)))) #[true, true, true, true, true, true, true, true, true, true, true, true, true, true, false, false, false, false, false, false, false, false] rfl ?_
                    simp only [Act.put, List.setIfInBounds_toArray, List.set_cons_succ, List.set_cons_zero]
                    refine anyD_take 14 112 (.int .i64 ((k / T.fan (l + 1) : Nat) : Int)) rfl rfl (by kernel_rfl) (by kernel_rfl) (by kernel_rfl) (by kernel_rfl) (by decide) rfl (stays_ok rfl (fun w' _ => exec_quo2 rfl rfl hpq.out.1 (by have := hlen.out; omega) w')) #[true, true, true, true, true, true, true, true, true, true, true, true, true, true, true, false, false, false, false, false, false, false] rfl ?_
                    simp only [Act.put, List.setIfInBounds_toArray, List.set_cons_succ, List.set_cons_zero]
                    refine anyD_take 15 113 (.int .i64 ((lens (stJ T tl j) (l + 1) + k / T.fan (l + 1) : Nat) : Int)) rfl rfl (by kernel_rfl) (by kernel_rfl) (by kernel_rfl) (by kernel_rfl) (by decide) rfl (stays_ok rfl (fun w' _ => exec_add2 rfl rfl (by have := hpq.out.2; omega) w')) #[true, true, true, true, true, true, true, true, true, true, true, true, true, true, true, true, false, false, false, false, false, false] rfl ?_
                    simp only [Act.put, List.setIfInBounds_toArray, List.set_cons_succ, List.set_cons_zero]
                    refine anyD_take 16 114 (.int .i32 ((lens (stJ T tl j) (l + 1) + k / T.fan (l + 1) : Nat) : Int)) rfl rfl (by kernel_rfl) (by kernel_rfl) (by kernel_rfl) (by kernel_rfl) (by decide) rfl (stays_ok rfl (fun w' _ => exec_conv2 rfl (by have := hpq.out.2; omega) w')) #[true, true, true, true, true, true, true, true, true, true, true, true, true, true, true, true, true, false, false, false, false, false] rfl ?_
                    simp only [Act.put, List.setIfInBounds_toArray, List.set_cons_succ, List.set_cons_zero]
                    refine anyD_take0 19 117 (.pointer (some ⟨w.heap.size + 3, 0 + 16, none⟩)) rfl rfl (by kernel_rfl) (by kernel_rfl) (by kernel_rfl) (by decide) (stays_ok rfl (fun w' _ => exec_field fo33_3 rfl w')) #[true, true, true, true, true, true, true, true, true, true, true, true, true, true, true, true, true, false, false, true, false, false] rfl ?_
                    simp only [Act.put, List.setIfInBounds_toArray, List.set_cons_succ, List.set_cons_zero]
                    refine anyD_only 17 rfl (by kernel_rfl) hC1 rfl #[true, true, true, true, true, true, true, true, true, true, true, true, true, true, true, true, true, true, false, true, false, false] rfl ?_
                    refine wp_build1 (v := .int .i32 ((lens (stJ T tl j) (l + 1) + k / T.fan (l + 1) : Nat) : Int)) Try.underlying28 hi21 hi21z hi21s rfl rfl ?_
                    simp only [Act.put, List.setIfInBounds_toArray, List.set_cons_succ, List.set_cons_zero]
                    have hCa2 := hC1.upd0 (Upd.alloc [] ws1.drew (.cells #[.int .i32 ((lens (stJ T tl j) (l + 1) + k / T.fan (l + 1) : Nat) : Int)] 21))
                    have hOw2 : (ws1.drew.alloc (.cells #[.int .i32 ((lens (stJ T tl j) (l + 1) + k / T.fan (l + 1) : Nat) : Int)] 21)).ownsRow w.heap.size 21 1 (V1 (5 + l)) (X1 (5 + l)).length (X1 (5 + l)) := by have h := (hS1d.upd0 (Upd.alloc [] ws1.drew (.cells #[.int .i32 ((lens (stJ T tl j) (l + 1) + k / T.fan (l + 1) : Nat) : Int)] 21))).bld.own (5 + l) (by omega); rw [rowT_lo (show 5 + l < 15 by omega)] at h; exact h
                    refine anyD_only 18 rfl (by kernel_rfl) hCa2 rfl #[true, true, true, true, true, true, true, true, true, true, true, true, true, true, true, true, true, true, true, true, false, false] rfl ?_
                    refine wp_appendM (v := V1 (5 + l)) (u := .int .i32 ((lens (stJ T tl j) (l + 1) + k / T.fan (l + 1) : Nat) : Int)) _ w.heap.size Try.underlying28 hi21 hi21z hi21s hi21b rfl rfl hOw2 rfl (cell_new1 _ _ _) rfl (by have := hl2'.out; omega) (by omega) (hCa2.big) ?_
                    intro va2 wa2 hown2 hga2 hfa2
                    have hKa2 : Kinds (ws1.drew.alloc (.cells #[.int .i32 ((lens (stJ T tl j) (l + 1) + k / T.fan (l + 1) : Nat) : Int)] 21)) (V1 (5 + l)).ownBlock.toList [rowT (5 + l)] := by rw [rowT_lo (show 5 + l < 15 by omega)]; exact own_kinds hOw2
                    have hCb2 := hCa2.keep (Upd.ofGrown (bs := (V1 (5 + l)).ownBlock.toList) hga2 (by intro b e; simp [e])) hKa2
                    simp only [Act.put, List.setIfInBounds_toArray, List.set_cons_succ, List.set_cons_zero]
                    refine anyD_take 20 118 (.pointer (some ⟨w.heap.size + 3, 0 + 16 + l, none⟩)) rfl rfl (by kernel_rfl) (by kernel_rfl) (by kernel_rfl) (by kernel_rfl) (by decide) rfl (stays_ok rfl (fun w' _ => exec_arr1 (k := .i64) Try.underlying29 size28 rfl rfl (by omega) w')) #[true, true, true, true, true, true, true, true, true, true, true, true, true, true, true, true, true, true, true, true, true, false] rfl ?_
                    simp only [Act.put, List.setIfInBounds_toArray, List.set_cons_succ, List.set_cons_zero]
                    refine anyD_only 21 rfl (by kernel_rfl) hCb2 rfl #[true, true, true, true, true, true, true, true, true, true, true, true, true, true, true, true, true, true, true, true, true, true] rfl ?_
                    refine wp_store1 (val := va2) size28 rfl rfl (ownsRow_one hown2).1 (ownsRow_one hown2).2 hCb2.mb (by rw [len36]; omega) ?_
                    intro ws2 hbs2 hgs2
                    rw [show 0 + 16 + l = 11 + (5 + l) by omega] at hbs2
                    simp only [Act.put, List.setIfInBounds_toArray, List.set_cons_succ, List.set_cons_zero]
                    refine anyD_done (by kernel_rfl) rfl ?_
                    obtain ⟨hS2, hB2⟩ := BS.push hS1d hB1d (5 + l) (by omega) (by rw [rowT_lo (show 5 + l < 15 by omega)]; exact hown2) hga2 hfa2 hbs2 hgs2
                    obtain ⟨V2, hV2⟩ : ∃ V', V' = updV V1 (5 + l) va2 := ⟨_, rfl⟩
                    obtain ⟨X2, hX2⟩ : ∃ X', X' = updV X1 (5 + l) (X1 (5 + l) ++ [.int .i32 ((lens (stJ T tl j) (l + 1) + k / T.fan (l + 1) : Nat) : Int)]) := ⟨_, rfl⟩
                    rw [← hV2, ← hX2] at hS2
                    replace hS2 := hide hS2; replace hB2 := hide hB2; replace hX2 := hide hX2
                    clear hV2 hown2 hga2 hfa2 hbs2 hgs2 hOw2 hKa2 hCa2 hCb2
                    by_cases hl0 : l = 0
                    · as_aux_lemma =>
                      have hb0 : ((l : Int) == 0) = true := by rw [beq_iff_eq]; omega
                      replace hl0 := hide hl0
                      have hl4' : Hid ((X2 (15 + l)).length ≤ 65536) := (by unfold Hid; rw [hX2.out]; unfold updV; rw [if_neg (by omega), hX1.out]; unfold updV; rw [if_neg (by omega)]; exact hl4.out)
                      have hCa3 := hide ((hS2.out.cl hB2.out).upd0 (Upd.alloc [] ws2 (.cells #[.bool false] 4)))
                      have hcv3 : ws2.cell? ⟨w.heap.size + 3, 26 + l, none⟩ = some (V2 (15 + l)) := (by have h := (hS2.out.cl hB2.out).cell (15 + l) (by omega); rw [show 11 + (15 + l) = 26 + l by omega] at h; exact h)
                      have hOw3 : Hid ((ws2.alloc (.cells #[.bool false] 4)).ownsRow w.heap.size 4 1 (V2 (15 + l)) (X2 (15 + l)).length (X2 (15 + l))) := (by have h := (hS2.out.upd0 (Upd.alloc [] ws2 (.cells #[.bool false] 4))).bld.own (15 + l) (by omega); rw [rowT_top hl5] at h; exact h)
                      have hKa3 : Hid (Kinds (ws2.alloc (.cells #[.bool false] 4)) (V2 (15 + l)).ownBlock.toList [rowT (15 + l)]) := (by unfold Hid; rw [rowT_top hl5]; exact own_kinds hOw3.out)
                      go_wp2_with (first
                        | ((with_reducible refine gd_app _ (.tmp 123) (.tmp 124) 30 ?_)
                           refine wpl_appendM (v := V2 (15 + l)) (u := .bool false) _ w.heap.size Try.underlying30 hi4 hi4z hi4s hi4b rfl rfl hOw3.out rfl (cell_new1 _ _ _) rfl (by have := hl4'.out; omega) (by omega) hCa3.out.big ?_
                           intro va3 wa3 hown3 hga3 hfa3)
                        | ((with_reducible refine gd_store 30 (.tmp 127) (.tmp 125) ?_)
                           refine wpl_store1 size30 rfl rfl (ownsRow_one hown3).1 (ownsRow_one hown3).2 (hCa3.out.keep (Upd.ofGrown (bs := (V2 (15 + l)).ownBlock.toList) hga3 (by intro b e; simp [e])) hKa3.out).mb (by rw [len36]; omega) ?_
                           intro ws3 hbs3 hgs3
                           rw [show 26 + l = 11 + (15 + l) by omega] at hbs3
                           obtain ⟨hS3, hB3⟩ := BS.push hS2.out hB2.out (15 + l) (by omega) (by rw [rowT_top hl5]; exact hown3) hga3 hfa3 hbs3 hgs3
                           obtain ⟨V3, hV3⟩ : ∃ V', V' = updV V2 (15 + l) va3 := ⟨_, rfl⟩
                           obtain ⟨X3, hX3⟩ : ∃ X', X' = updV X2 (15 + l) (X2 (15 + l) ++ [.bool false]) := ⟨_, rfl⟩
                           rw [← hV3, ← hX3] at hS3
                           replace hS3 := hide hS3; replace hB3 := hide hB3; replace hX3 := hide hX3
                           clear hV3 hown3 hga3 hfa3 hbs3 hgs3 hOw3 hKa3 hCa3 hcv3
                           have hl3' : Hid ((X3 (10 + l)).length ≤ 65536) := (by unfold Hid; rw [hX3.out]; unfold updV; rw [if_neg (by omega), hX2.out]; unfold updV; rw [if_neg (by omega), hX1.out]; unfold updV; rw [if_neg (by omega)]; exact hl3.out)
                           have hCa4 := hide ((hS3.out.cl hB3.out).upd0 (Upd.alloc [] ws3 (.cells #[.int .i32 (-1)] 21)))
                           have hcv4 : ws3.cell? ⟨w.heap.size + 3, 21 + l, none⟩ = some (V3 (10 + l)) := (by have h := (hS3.out.cl hB3.out).cell (10 + l) (by omega); rw [show 11 + (10 + l) = 21 + l by omega] at h; exact h)
                           have hOw4 : Hid ((ws3.alloc (.cells #[.int .i32 (-1)] 21)).ownsRow w.heap.size 21 1 (V3 (10 + l)) (X3 (10 + l)).length (X3 (10 + l))) := (by have h := (hS3.out.upd0 (Upd.alloc [] ws3 (.cells #[.int .i32 (-1)] 21))).bld.own (10 + l) (by omega); rw [rowT_lo (show 10 + l < 15 by omega)] at h; exact h)
                           have hKa4 : Hid (Kinds (ws3.alloc (.cells #[.int .i32 (-1)] 21)) (V3 (10 + l)).ownBlock.toList [rowT (10 + l)]) := (by unfold Hid; rw [rowT_lo (show 10 + l < 15 by omega)]; exact own_kinds hOw4.out))
                        | ((with_reducible refine gd_app _ (.tmp 134) (.tmp 135) 28 ?_)
                           refine wpl_appendM (v := V3 (10 + l)) (u := .int .i32 (-1)) _ w.heap.size Try.underlying28 hi21 hi21z hi21s hi21b rfl rfl hOw4.out rfl (cell_new1 _ _ _) rfl (by have := hl3'.out; omega) (by omega) hCa4.out.big ?_
                           intro va4 wa4 hown4 hga4 hfa4)
                        | ((with_reducible refine gd_store 28 (.tmp 138) (.tmp 136) ?_)
                           refine wpl_store1 size28 rfl rfl (ownsRow_one hown4).1 (ownsRow_one hown4).2 (hCa4.out.keep (Upd.ofGrown (bs := (V3 (10 + l)).ownBlock.toList) hga4 (by intro b e; simp [e])) hKa4.out).mb (by rw [len36]; omega) ?_
                           intro ws4 hbs4 hgs4
                           rw [show 21 + l = 11 + (10 + l) by omega] at hbs4
                           obtain ⟨hS4, hB4⟩ := BS.push hS3.out hB3.out (10 + l) (by omega) (by rw [rowT_lo (show 10 + l < 15 by omega)]; exact hown4) hga4 hfa4 hbs4 hgs4
                           obtain ⟨V4, hV4⟩ : ∃ V', V' = updV V3 (10 + l) va4 := ⟨_, rfl⟩
                           obtain ⟨X4, hX4⟩ : ∃ X', X' = updV X3 (10 + l) (X3 (10 + l) ++ [.int .i32 (-1)]) := ⟨_, rfl⟩
                           rw [← hV4, ← hX4] at hS4
                           replace hS4 := hide hS4; replace hB4 := hide hB4; replace hX4 := hide hX4
                           clear hV4 hown4 hga4 hfa4 hbs4 hgs4 hOw4 hKa4 hCa4 hcv4))
                      go_roundw
                      case rel =>
                        refine ⟨k + 1, V4, by have := hkl.out; omega, by simp, ?_, hB4.out⟩
                        rw [part_succ, ← hP.out]
                        have hpar : (linkG T tl[j] (offJ T tl j) (-1) (lens (stJ T tl j)) l k).parent = ((lens (stJ T tl j) (l + 1) + k / T.fan (l + 1) : Nat) : Int) := (if_neg hlt'.out)
                        have htop : (cellG tl[j] (-1) (lens (stJ T tl j)) l k).top = false := (by show (if l = tl[j] then ((-1 : Int) == -1) else false) = false; rw [if_neg hlt'.out])
                        have hchi : (linkG T tl[j] (offJ T tl j) (-1) (lens (stJ T tl j)) l k).child = -1 := (if_pos hl0.out)
                        have hx := XS_push P (roJ T tl j) (runsJ T tl j) l hl5 (cellG tl[j] (-1) (lens (stJ T tl j)) l k) (linkG T tl[j] (offJ T tl j) (-1) (lens (stJ T tl j)) l k) X1 X2 X3 (by rw [hX1.out, hX.out]; rfl) (by rw [hpar]; exact hX2.out) (by rw [htop]; exact hX3.out)
                        rw [← hx, hchi, ← hX4.out]; exact hS4.out
                      case measure => have := hkl.out; simp [intOf]; omega
                    · as_aux_lemma =>
                      have hb0 : ((l : Int) == 0) = false := by simp; omega
                      replace hl0 := hide hl0
                      have hch : Hid (lens (stJ T tl j) (l - 1) + k * T.fan l ≤ 65536 ∧ k * T.fan l ≤ 65536) := child_bound ht hjt htj hlt.out hkl.out hl0.out
                      have hl4' : Hid ((X2 (15 + l)).length ≤ 65536) := (by unfold Hid; rw [hX2.out]; unfold updV; rw [if_neg (by omega), hX1.out]; unfold updV; rw [if_neg (by omega)]; exact hl4.out)
                      have hCa3 := hide ((hS2.out.cl hB2.out).upd0 (Upd.alloc [] ws2 (.cells #[.bool false] 4)))
                      have hcv3 : ws2.cell? ⟨w.heap.size + 3, 26 + l, none⟩ = some (V2 (15 + l)) := (by have h := (hS2.out.cl hB2.out).cell (15 + l) (by omega); rw [show 11 + (15 + l) = 26 + l by omega] at h; exact h)
                      have hOw3 : Hid ((ws2.alloc (.cells #[.bool false] 4)).ownsRow w.heap.size 4 1 (V2 (15 + l)) (X2 (15 + l)).length (X2 (15 + l))) := (by have h := (hS2.out.upd0 (Upd.alloc [] ws2 (.cells #[.bool false] 4))).bld.own (15 + l) (by omega); rw [rowT_top hl5] at h; exact h)
                      have hKa3 : Hid (Kinds (ws2.alloc (.cells #[.bool false] 4)) (V2 (15 + l)).ownBlock.toList [rowT (15 + l)]) := (by unfold Hid; rw [rowT_top hl5]; exact own_kinds hOw3.out)
                      go_wp2_with (first
                        | ((with_reducible refine gd_app _ (.tmp 123) (.tmp 124) 30 ?_)
                           refine wpl_appendM (v := V2 (15 + l)) (u := .bool false) _ w.heap.size Try.underlying30 hi4 hi4z hi4s hi4b rfl rfl hOw3.out rfl (cell_new1 _ _ _) rfl (by have := hl4'.out; omega) (by omega) hCa3.out.big ?_
                           intro va3 wa3 hown3 hga3 hfa3)
                        | ((with_reducible refine gd_store 30 (.tmp 127) (.tmp 125) ?_)
                           refine wpl_store1 size30 rfl rfl (ownsRow_one hown3).1 (ownsRow_one hown3).2 (hCa3.out.keep (Upd.ofGrown (bs := (V2 (15 + l)).ownBlock.toList) hga3 (by intro b e; simp [e])) hKa3.out).mb (by rw [len36]; omega) ?_
                           intro ws3 hbs3 hgs3
                           rw [show 26 + l = 11 + (15 + l) by omega] at hbs3
                           obtain ⟨hS3, hB3⟩ := BS.push hS2.out hB2.out (15 + l) (by omega) (by rw [rowT_top hl5]; exact hown3) hga3 hfa3 hbs3 hgs3
                           obtain ⟨V3, hV3⟩ : ∃ V', V' = updV V2 (15 + l) va3 := ⟨_, rfl⟩
                           obtain ⟨X3, hX3⟩ : ∃ X', X' = updV X2 (15 + l) (X2 (15 + l) ++ [.bool false]) := ⟨_, rfl⟩
                           rw [← hV3, ← hX3] at hS3
                           replace hS3 := hide hS3; replace hB3 := hide hB3; replace hX3 := hide hX3
                           clear hV3 hown3 hga3 hfa3 hbs3 hgs3 hOw3 hKa3 hCa3 hcv3))
                      have hS3d := hS3.out.upd0 (Upd.drew [] ws3)
                      have hB3d := hB3.out.upd (Upd.drew [] ws3) (by simp)
                      have hC3 := hS3d.cl hB3d
                      have hl3' : Hid ((X3 (10 + l)).length ≤ 65536) := (by unfold Hid; rw [hX3.out]; unfold updV; rw [if_neg (by omega), hX2.out]; unfold updV; rw [if_neg (by omega), hX1.out]; unfold updV; rw [if_neg (by omega)]; exact hl3.out)
                      refine region_anyD (Cl w.heap.size bb T (baseRow (lens (stJ T tl j)) 5) V3) 20 mixed ?_
                      refine anyD_take 0 139 (.int .i64 l) rfl rfl (by kernel_rfl) (by kernel_rfl) (by kernel_rfl) (by kernel_rfl) (by decide) rfl (stays_ok rfl (fun _ _ => rfl)) #[true, false, false, false, false, false, false, false, false, false, false, false, false, false, false, false, false, false, false, false, false] rfl ?_
                      simp only [Act.put, List.setIfInBounds_toArray, List.set_cons_succ, List.set_cons_zero]
                      refine anyD_take 1 140 (.int .i64 l) rfl rfl (by kernel_rfl) (by kernel_rfl) (by kernel_rfl) (by kernel_rfl) (by decide) rfl (stays_ok rfl (fun _ _ => rfl)) #[true, true, false, false, false, false, false, false, false, false, false, false, false, false, false, false, false, false, false, false, false] rfl ?_
                      simp only [Act.put, List.setIfInBounds_toArray, List.set_cons_succ, List.set_cons_zero]
                      refine anyD_take 2 141 (.pointer (some ⟨w.heap.size + 3, 0 + 21, none⟩)) rfl rfl (by kernel_rfl) (by kernel_rfl) (by kernel_rfl) (by kernel_rfl) (by decide) rfl (stays_ok rfl (fun w' _ => exec_field fo33_4 rfl w')) #[true, true, true, false, false, false, false, false, false, false, false, false, false, false, false, false, false, false, false, false, false] rfl ?_
                      simp only [Act.put, List.setIfInBounds_toArray, List.set_cons_succ, List.set_cons_zero]
                      refine anyD_take 3 142 (.pointer (some ⟨w.heap.size + 3, 0 + 21 + l, none⟩)) rfl rfl (by kernel_rfl) (by kernel_rfl) (by kernel_rfl) (by kernel_rfl) (by decide) rfl (stays_ok rfl (fun w' _ => exec_arr1 (k := .i64) Try.underlying29 size28 rfl rfl (by omega) w')) #[true, true, true, true, false, false, false, false, false, false, false, false, false, false, false, false, false, false, false, false, false] rfl ?_
                      simp only [Act.put, List.setIfInBounds_toArray, List.set_cons_succ, List.set_cons_zero]
                      refine anyD_take 4 143 (V3 (10 + l)) rfl rfl (by kernel_rfl) (by kernel_rfl) (by kernel_rfl) (by kernel_rfl) (by decide) rfl (stays_ok rfl (fun w' hw' => exec_load1 one28 rfl (by rw [show 0 + 21 + l = 11 + (10 + l) by omega]; exact hw'.cell _ (by omega)))) #[true, true, true, true, true, false, false, false, false, false, false, false, false, false, false, false, false, false, false, false, false] rfl ?_
                      simp only [Act.put, List.setIfInBounds_toArray, List.set_cons_succ, List.set_cons_zero]
                      refine anyD_take 5 144 (.int .i64 l) rfl rfl (by kernel_rfl) (by kernel_rfl) (by kernel_rfl) (by kernel_rfl) (by decide) rfl (stays_ok rfl (fun _ _ => rfl)) #[true, true, true, true, true, true, false, false, false, false, false, false, false, false, false, false, false, false, false, false, false] rfl ?_
                      simp only [Act.put, List.setIfInBounds_toArray, List.set_cons_succ, List.set_cons_zero]
                      refine anyD_take 6 145 (.int .i64 ((l - 1 : Nat) : Int)) rfl rfl (by kernel_rfl) (by kernel_rfl) (by kernel_rfl) (by kernel_rfl) (by decide) rfl (stays_ok rfl (fun w' _ => exec_dec64 rfl (by have := hl0.out; omega) (by omega) w')) #[true, true, true, true, true, true, true, false, false, false, false, false, false, false, false, false, false, false, false, false, false] rfl ?_
                      simp only [Act.put, List.setIfInBounds_toArray, List.set_cons_succ, List.set_cons_zero]
                      refine anyD_take 7 146 (.pointer (some ⟨bb, 0 + (l - 1), none⟩)) rfl rfl (by kernel_rfl) (by kernel_rfl) (by kernel_rfl) (by kernel_rfl) (by decide) rfl (stays_ok rfl (fun w' _ => exec_arr1 (k := .i64) (l := l - 1) Try.underlying24 size2 rfl rfl (by omega) w')) #[true, true, true, true, true, true, true, true, false, false, false, false, false, false, false, false, false, false, false, false, false] rfl ?_
                      simp only [Act.put, List.setIfInBounds_toArray, List.set_cons_succ, List.set_cons_zero]
                      refine anyD_take 8 147 (.int .i64 (lens (stJ T tl j) (l - 1) : Nat)) rfl rfl (by kernel_rfl) (by kernel_rfl) (by kernel_rfl) (by kernel_rfl) (by decide) rfl (stays_ok rfl (fun w' hw' => exec_load1 one2 rfl (by rw [Nat.zero_add]; exact baseRow_cell hw'.bas _ (by omega)))) #[true, true, true, true, true, true, true, true, true, false, false, false, false, false, false, false, false, false, false, false, false] rfl ?_
                      simp only [Act.put, List.setIfInBounds_toArray, List.set_cons_succ, List.set_cons_zero]
                      refine anyD_take 9 148 (.int .i64 k) rfl rfl (by kernel_rfl) (by kernel_rfl) (by kernel_rfl) (by kernel_rfl) (by decide) rfl (stays_ok rfl (fun _ _ => rfl)) #[true, true, true, true, true, true, true, true, true, true, false, false, false, false, false, false, false, false, false, false, false] rfl ?_
                      simp only [Act.put, List.setIfInBounds_toArray, List.set_cons_succ, List.set_cons_zero]
                      refine anyD_take 10 149 (.int .i64 l) rfl rfl (by kernel_rfl) (by kernel_rfl) (by kernel_rfl) (by kernel_rfl) (by decide) rfl (stays_ok rfl (fun _ _ => rfl)) #[true, true, true, true, true, true, true, true, true, true, true, false, false, false, false, false, false, false, false, false, false] rfl ?_
                      simp only [Act.put, List.setIfInBounds_toArray, List.set_cons_succ, List.set_cons_zero]
                      refine anyD_take 11 150 (.pointer (some ⟨w.heap.size + 1, 0 + l, none⟩)) rfl rfl (by kernel_rfl) (by kernel_rfl) (by kernel_rfl) (by kernel_rfl) (by decide) rfl (stays_ok rfl (fun w' _ => exec_arr1 (k := .i64) Try.underlying25 size2 rfl rfl (by omega) w')) #[true, true, true, true, true, true, true, true, true, true, true, true, false, false, false, false, false, false, false, false, false] rfl ?_
                      simp only [Act.put, List.setIfInBounds_toArray, List.set_cons_succ, List.set_cons_zero]
                      refine anyD_take 12 151 (.int .i64 (T.fan l)) rfl rfl (by kernel_rfl) (by kernel_rfl) (by kernel_rfl) (by kernel_rfl) (by decide) rfl (stays_ok rfl (fun w' hw' => exec_load1 one2 rfl (by rw [Nat.zero_add]; exact fanV_cell hw'.fan _ (by omega)))) #[true, true, true, true, true, true, true, true, true, true, true, true, true, false, false, false, false, false, false, false, false] rfl ?_
                      simp only [Act.put, List.setIfInBounds_toArray, List.set_cons_succ, List.set_cons_zero]
                      refine anyD_take 13 152 (.int .i64 ((k * T.fan l : Nat) : Int)) rfl rfl (by kernel_rfl) (by kernel_rfl) (by kernel_rfl) (by kernel_rfl) (by decide) rfl (stays_ok rfl (fun w' _ => exec_mul2 rfl rfl (by have := hch.out; omega) w')) #[true, true, true, true, true, true, true, true, true, true, true, true, true, true, false, false, false, false, false, false, false] rfl ?_
                      simp only [Act.put, List.setIfInBounds_toArray, List.set_cons_succ, List.set_cons_zero]
                      refine anyD_take 14 153 (.int .i64 ((lens (stJ T tl j) (l - 1) + k * T.fan l : Nat) : Int)) rfl rfl (by kernel_rfl) (by kernel_rfl) (by kernel_rfl) (by kernel_rfl) (by decide) rfl (stays_ok rfl (fun w' _ => exec_add2 rfl rfl (by have := hch.out; omega) w')) #[true, true, true, true, true, true, true, true, true, true, true, true, true, true, true, false, false, false, false, false, false] rfl ?_
                      simp only [Act.put, List.setIfInBounds_toArray, List.set_cons_succ, List.set_cons_zero]
                      refine anyD_take 15 154 (.int .i32 ((lens (stJ T tl j) (l - 1) + k * T.fan l : Nat) : Int)) rfl rfl (by kernel_rfl) (by kernel_rfl) (by kernel_rfl) (by kernel_rfl) (by decide) rfl (stays_ok rfl (fun w' _ => exec_conv2 rfl (by have := hch.out; omega) w')) #[true, true, true, true, true, true, true, true, true, true, true, true, true, true, true, true, false, false, false, false, false] rfl ?_
                      simp only [Act.put, List.setIfInBounds_toArray, List.set_cons_succ, List.set_cons_zero]
                      refine anyD_take0 18 157 (.pointer (some ⟨w.heap.size + 3, 0 + 21, none⟩)) rfl rfl (by kernel_rfl) (by kernel_rfl) (by kernel_rfl) (by decide) (stays_ok rfl (fun w' _ => exec_field fo33_4 rfl w')) #[true, true, true, true, true, true, true, true, true, true, true, true, true, true, true, true, false, false, true, false, false] rfl ?_
                      simp only [Act.put, List.setIfInBounds_toArray, List.set_cons_succ, List.set_cons_zero]
                      refine anyD_only 16 rfl (by kernel_rfl) hC3 rfl #[true, true, true, true, true, true, true, true, true, true, true, true, true, true, true, true, true, false, true, false, false] rfl ?_
                      refine wp_build1 (v := .int .i32 ((lens (stJ T tl j) (l - 1) + k * T.fan l : Nat) : Int)) Try.underlying28 hi21 hi21z hi21s rfl rfl ?_
                      simp only [Act.put, List.setIfInBounds_toArray, List.set_cons_succ, List.set_cons_zero]
                      have hCa4 := hC3.upd0 (Upd.alloc [] ws3.drew (.cells #[.int .i32 ((lens (stJ T tl j) (l - 1) + k * T.fan l : Nat) : Int)] 21))
                      have hOw4 : (ws3.drew.alloc (.cells #[.int .i32 ((lens (stJ T tl j) (l - 1) + k * T.fan l : Nat) : Int)] 21)).ownsRow w.heap.size 21 1 (V3 (10 + l)) (X3 (10 + l)).length (X3 (10 + l)) := by have h := (hS3d.upd0 (Upd.alloc [] ws3.drew (.cells #[.int .i32 ((lens (stJ T tl j) (l - 1) + k * T.fan l : Nat) : Int)] 21))).bld.own (10 + l) (by omega); rw [rowT_lo (show 10 + l < 15 by omega)] at h; exact h
                      refine anyD_only 17 rfl (by kernel_rfl) hCa4 rfl #[true, true, true, true, true, true, true, true, true, true, true, true, true, true, true, true, true, true, true, false, false] rfl ?_
                      refine wp_appendM (v := V3 (10 + l)) (u := .int .i32 ((lens (stJ T tl j) (l - 1) + k * T.fan l : Nat) : Int)) _ w.heap.size Try.underlying28 hi21 hi21z hi21s hi21b rfl rfl hOw4 rfl (cell_new1 _ _ _) rfl (by have := hl3'.out; omega) (by omega) (hCa4.big) ?_
                      intro va4 wa4 hown4 hga4 hfa4
                      have hKa4 : Kinds (ws3.drew.alloc (.cells #[.int .i32 ((lens (stJ T tl j) (l - 1) + k * T.fan l : Nat) : Int)] 21)) (V3 (10 + l)).ownBlock.toList [rowT (10 + l)] := by rw [rowT_lo (show 10 + l < 15 by omega)]; exact own_kinds hOw4
                      have hCb4 := hCa4.keep (Upd.ofGrown (bs := (V3 (10 + l)).ownBlock.toList) hga4 (by intro b e; simp [e])) hKa4
                      simp only [Act.put, List.setIfInBounds_toArray, List.set_cons_succ, List.set_cons_zero]
                      refine anyD_take 19 158 (.pointer (some ⟨w.heap.size + 3, 0 + 21 + l, none⟩)) rfl rfl (by kernel_rfl) (by kernel_rfl) (by kernel_rfl) (by kernel_rfl) (by decide) rfl (stays_ok rfl (fun w' _ => exec_arr1 (k := .i64) Try.underlying29 size28 rfl rfl (by omega) w')) #[true, true, true, true, true, true, true, true, true, true, true, true, true, true, true, true, true, true, true, true, false] rfl ?_
                      simp only [Act.put, List.setIfInBounds_toArray, List.set_cons_succ, List.set_cons_zero]
                      refine anyD_only 20 rfl (by kernel_rfl) hCb4 rfl #[true, true, true, true, true, true, true, true, true, true, true, true, true, true, true, true, true, true, true, true, true] rfl ?_
                      refine wp_store1 (val := va4) size28 rfl rfl (ownsRow_one hown4).1 (ownsRow_one hown4).2 hCb4.mb (by rw [len36]; omega) ?_
                      intro ws4 hbs4 hgs4
                      rw [show 0 + 21 + l = 11 + (10 + l) by omega] at hbs4
                      simp only [Act.put, List.setIfInBounds_toArray, List.set_cons_succ, List.set_cons_zero]
                      refine anyD_done (by kernel_rfl) rfl ?_
                      obtain ⟨hS4, hB4⟩ := BS.push hS3d hB3d (10 + l) (by omega) (by rw [rowT_lo (show 10 + l < 15 by omega)]; exact hown4) hga4 hfa4 hbs4 hgs4
                      obtain ⟨V4, hV4⟩ : ∃ V', V' = updV V3 (10 + l) va4 := ⟨_, rfl⟩
                      obtain ⟨X4, hX4⟩ : ∃ X', X' = updV X3 (10 + l) (X3 (10 + l) ++ [.int .i32 ((lens (stJ T tl j) (l - 1) + k * T.fan l : Nat) : Int)]) := ⟨_, rfl⟩
                      rw [← hV4, ← hX4] at hS4
                      replace hS4 := hide hS4; replace hB4 := hide hB4; replace hX4 := hide hX4
                      clear hV4 hown4 hga4 hfa4 hbs4 hgs4 hOw4 hKa4 hCa4 hCb4
                      go_wp2_with (fail)
                      go_roundw
                      case rel =>
                        refine ⟨k + 1, V4, by have := hkl.out; omega, by simp, ?_, hB4.out⟩
                        rw [part_succ, ← hP.out]
                        have hpar : (linkG T tl[j] (offJ T tl j) (-1) (lens (stJ T tl j)) l k).parent = ((lens (stJ T tl j) (l + 1) + k / T.fan (l + 1) : Nat) : Int) := (if_neg hlt'.out)
                        have htop : (cellG tl[j] (-1) (lens (stJ T tl j)) l k).top = false := (by show (if l = tl[j] then ((-1 : Int) == -1) else false) = false; rw [if_neg hlt'.out])
                        have hchi : (linkG T tl[j] (offJ T tl j) (-1) (lens (stJ T tl j)) l k).child = ((lens (stJ T tl j) (l - 1) + k * T.fan l : Nat) : Int) := (if_neg hl0.out)
                        have hx := XS_push P (roJ T tl j) (runsJ T tl j) l hl5 (cellG tl[j] (-1) (lens (stJ T tl j)) l k) (linkG T tl[j] (offJ T tl j) (-1) (lens (stJ T tl j)) l k) X1 X2 X3 (by rw [hX1.out, hX.out]; rfl) (by rw [hpar]; exact hX2.out) (by rw [htop]; exact hX3.out)
                        rw [← hx, hchi, ← hX4.out]; exact hS4.out
                      case measure => have := hkl.out; simp [intOf]; omega
                · obtain rfl : k = cntT T tl[j] l := by omega
                  go_wp2_with (fail)
                  go_roundw
                  case rel => exact ⟨l + 1, V, by omega, by simp, by rw [part_next]; exact hS.out, hB.out⟩
                  case measure => simp [intOf]; omega
            · obtain rfl : l = tl[j] + 1 := by omega
              rw [part_full T tl[j] (offJ T tl j) htj] at hS
              have hget : Hid (tl.getD j 0 = tl[j]) := getD_at hjt
              have hst1 : Hid (growP T tl[j] (offJ T tl j) (-1) (stJ T tl j) = stJ T tl (j + 1)) := by unfold Hid; rw [stJ, hget.out]
              rw [hst1.out] at hS
              obtain ⟨X, hX⟩ : ∃ X, X = XS (stJ T tl (j + 1)) (roJ T tl j) (runsJ T tl j) := ⟨_, rfl⟩
              rw [← hX] at hS
              have hrl := runsJ_len T tl j
              have hx20 : Hid ((X 20).length ≤ 65536) := (by unfold Hid; rw [hX]; show ((roJ T tl j).map _).length ≤ _; rw [List.length_map, roJ_len]; omega)
              have hord : Hid (lens (stJ T tl j) tl[j] ≤ 65536) := by
                have h1 := cntSum_le T tl tl[j] j
                have h2 := Nof_le ht tl[j]
                have h3 : lens (stJ T tl j) tl[j] = cntSum T tl tl[j] j := (stJ_len T tl tl[j] j hj).1
                unfold Hid; omega
              have hordE : Hid (ordJ T tl j = lens (stJ T tl j) tl[j]) := by unfold Hid ordJ; rw [hget.out]; rfl
              have hoff : Hid (offJ T tl j + T.sz tl[j] ≤ 65536) := by unfold Hid; rw [← offJ_succ T tl j hjt]; exact offJ_le ht _
              replace hX := hide hX
              go_wp2_with (fail)
              have hSd := hS.out.upd0 (Upd.drew [] wr)
              have hBd := hB.out.upd (Upd.drew [] wr) (by simp)
              have hCd := hSd.cl hBd
              refine region_anyD (Cl w.heap.size bb T (baseRow (lens (stJ T tl j)) 5) V) 9 mixed ?_
              refine anyD_take 0 159 (.pointer (some ⟨w.heap.size + 3, 0 + 31, none⟩)) rfl rfl (by kernel_rfl) (by kernel_rfl) (by kernel_rfl) (by kernel_rfl) (by decide) rfl (stays_ok rfl (fun w' _ => exec_field fo33_6 rfl w')) #[true, false, false, false, false, false, false, false, false, false] rfl ?_
              simp only [Act.put, List.setIfInBounds_toArray, List.set_cons_succ, List.set_cons_zero]
              refine anyD_take 1 160 (V 20) rfl rfl (by kernel_rfl) (by kernel_rfl) (by kernel_rfl) (by kernel_rfl) (by decide) rfl (stays_ok rfl (fun w' hw' => exec_load1 one28 rfl (hw'.cell 20 (by omega)))) #[true, true, false, false, false, false, false, false, false, false] rfl ?_
              simp only [Act.put, List.setIfInBounds_toArray, List.set_cons_succ, List.set_cons_zero]
              refine anyD_take 2 161 (.int .i64 (tl[j] : Nat)) rfl rfl (by kernel_rfl) (by kernel_rfl) (by kernel_rfl) (by kernel_rfl) (by decide) rfl (stays_ok rfl (fun _ _ => rfl)) #[true, true, true, false, false, false, false, false, false, false] rfl ?_
              simp only [Act.put, List.setIfInBounds_toArray, List.set_cons_succ, List.set_cons_zero]
              refine anyD_take 3 162 (.pointer (some ⟨bb, 0 + tl[j], none⟩)) rfl rfl (by kernel_rfl) (by kernel_rfl) (by kernel_rfl) (by kernel_rfl) (by decide) rfl (stays_ok rfl (fun w' _ => exec_arr1 (k := .i64) Try.underlying24 size2 rfl rfl (by omega) w')) #[true, true, true, true, false, false, false, false, false, false] rfl ?_
              simp only [Act.put, List.setIfInBounds_toArray, List.set_cons_succ, List.set_cons_zero]
              refine anyD_take 4 163 (.int .i64 (lens (stJ T tl j) tl[j] : Nat)) rfl rfl (by kernel_rfl) (by kernel_rfl) (by kernel_rfl) (by kernel_rfl) (by decide) rfl (stays_ok rfl (fun w' hw' => exec_load1 one2 rfl (by rw [Nat.zero_add]; exact baseRow_cell hw'.bas _ (by omega)))) #[true, true, true, true, true, false, false, false, false, false] rfl ?_
              simp only [Act.put, List.setIfInBounds_toArray, List.set_cons_succ, List.set_cons_zero]
              refine anyD_take 5 164 (.int .i32 (lens (stJ T tl j) tl[j] : Nat)) rfl rfl (by kernel_rfl) (by kernel_rfl) (by kernel_rfl) (by kernel_rfl) (by decide) rfl (stays_ok rfl (fun w' _ => exec_conv2 rfl (by have := hord.out; omega) w')) #[true, true, true, true, true, true, false, false, false, false] rfl ?_
              simp only [Act.put, List.setIfInBounds_toArray, List.set_cons_succ, List.set_cons_zero]
              refine anyD_only 6 rfl (by kernel_rfl) hCd rfl #[true, true, true, true, true, true, true, false, false, false] rfl ?_
              refine wp_build1 (v := .int .i32 (lens (stJ T tl j) tl[j] : Nat)) Try.underlying28 hi21 hi21z hi21s rfl rfl ?_
              simp only [Act.put, List.setIfInBounds_toArray, List.set_cons_succ, List.set_cons_zero]
              have hCa1 := hCd.upd0 (Upd.alloc [] wr.drew (.cells #[.int .i32 (lens (stJ T tl j) tl[j] : Nat)] 21))
              have hOw1 : (wr.drew.alloc (.cells #[.int .i32 (lens (stJ T tl j) tl[j] : Nat)] 21)).ownsRow w.heap.size 21 1 (V (20)) (X (20)).length (X (20)) := by have h := (hSd.upd0 (Upd.alloc [] wr.drew (.cells #[.int .i32 (lens (stJ T tl j) tl[j] : Nat)] 21))).bld.own (20) (by omega); rw [(show rowT 20 = 21 from rfl)] at h; exact h
              refine anyD_only 7 rfl (by kernel_rfl) hCa1 rfl #[true, true, true, true, true, true, true, true, false, false] rfl ?_
              refine wp_appendM (v := V (20)) (u := .int .i32 (lens (stJ T tl j) tl[j] : Nat)) _ w.heap.size Try.underlying28 hi21 hi21z hi21s hi21b rfl rfl hOw1 rfl (cell_new1 _ _ _) rfl (by have := hx20.out; omega) (by omega) (hCa1.big) ?_
              intro va1 wa1 hown1 hga1 hfa1
              have hKa1 : Kinds (wr.drew.alloc (.cells #[.int .i32 (lens (stJ T tl j) tl[j] : Nat)] 21)) (V (20)).ownBlock.toList [rowT (20)] := by rw [(show rowT 20 = 21 from rfl)]; exact own_kinds hOw1
              have hCb1 := hCa1.keep (Upd.ofGrown (bs := (V (20)).ownBlock.toList) hga1 (by intro b e; simp [e])) hKa1
              simp only [Act.put, List.setIfInBounds_toArray, List.set_cons_succ, List.set_cons_zero]
              refine anyD_take 8 167 (.pointer (some ⟨w.heap.size + 3, 0 + 31, none⟩)) rfl rfl (by kernel_rfl) (by kernel_rfl) (by kernel_rfl) (by kernel_rfl) (by decide) rfl (stays_ok rfl (fun w' _ => exec_field fo33_6 rfl w')) #[true, true, true, true, true, true, true, true, true, false] rfl ?_
              simp only [Act.put, List.setIfInBounds_toArray, List.set_cons_succ, List.set_cons_zero]
              refine anyD_only 9 rfl (by kernel_rfl) hCb1 rfl #[true, true, true, true, true, true, true, true, true, true] rfl ?_
              refine wp_store1 (val := va1) size28 rfl rfl (ownsRow_one hown1).1 (ownsRow_one hown1).2 hCb1.mb (by rw [len36]; omega) ?_
              intro ws1 hbs1 hgs1
              rw [show 0 + 31 = 11 + (20) by omega] at hbs1
              simp only [Act.put, List.setIfInBounds_toArray, List.set_cons_succ, List.set_cons_zero]
              refine anyD_done (by kernel_rfl) rfl ?_
              obtain ⟨hS1, hB1⟩ := BS.push hSd hBd (20) (by omega) (by rw [(show rowT 20 = 21 from rfl)]; exact hown1) hga1 hfa1 hbs1 hgs1
              obtain ⟨V1, hV1⟩ : ∃ V', V' = updV V (20) va1 := ⟨_, rfl⟩
              obtain ⟨X1, hX1⟩ : ∃ X', X' = updV X (20) (X (20) ++ [.int .i32 (lens (stJ T tl j) tl[j] : Nat)]) := ⟨_, rfl⟩
              rw [← hV1, ← hX1] at hS1
              replace hS1 := hide hS1; replace hB1 := hide hB1; replace hX1 := hide hX1
              clear hV1 hown1 hga1 hfa1 hbs1 hgs1 hOw1 hKa1 hCa1 hCb1
              have hX1e : Hid (X1 = XS (stJ T tl (j + 1)) (roJ T tl (j + 1)) (runsJ T tl j)) := by
                unfold Hid; rw [hX1.out, hX.out, XS_root, ← hordE.out]; rfl
              have hx21 : Hid ((X1 21).length ≤ 65536) := (by unfold Hid; rw [hX1e.out]; show ((runsJ T tl j).map _).length ≤ _; rw [List.length_map]; omega)
              have hx22a : Hid ((X1 22).length ≤ 65536) := (by unfold Hid; rw [hX1e.out]; show ((runsJ T tl j).map _).length ≤ _; rw [List.length_map]; omega)
              have hx23a : Hid ((X1 23).length ≤ 65536) := (by unfold Hid; rw [hX1e.out]; show ((runsJ T tl j).map _).length ≤ _; rw [List.length_map]; omega)
              have hx24a : Hid ((X1 24).length ≤ 65536) := (by unfold Hid; rw [hX1e.out]; show ((runsJ T tl j).map _).length ≤ _; rw [List.length_map]; omega)
              obtain ⟨wr2, hwr2⟩ : ∃ x, x = ws1 := ⟨_, rfl⟩
              rw [← hwr2] at hS1 hB1
              rw [← hwr2]
              clear hwr2
              have hl21 : (X1 21).length = (runsJ T tl j).length := (by rw [hX1e.out]; show ((runsJ T tl j).map _).length = _; rw [List.length_map])
              have hl24 : (X1 24).length = (runsJ T tl j).length := (by rw [hX1e.out]; show ((runsJ T tl j).map _).length = _; rw [List.length_map])
              have ho21 := hS1.out.bld.own 21 (by omega)
              have ho24 := hS1.out.bld.own 24 (by omega)
              have hc21 : wr2.cell? ⟨w.heap.size + 3, 32, none⟩ = some (V1 21) := hS1.out.bld.cell 21 (by omega)
              have hc24 : wr2.cell? ⟨w.heap.size + 3, 35, none⟩ = some (V1 24) := hS1.out.bld.cell 24 (by omega)
              have hct : wr2.cell? ⟨b, o + j, none⟩ = some (.int .i8 (tl[j] : Nat)) := (hS1.out.bel.cell (p := ⟨b, o + j, none⟩) hbl).trans hc0.out
              cases hrn : (runsJ T tl j).length with
              | zero =>
                as_aux_lemma =>
                  rw [hl21, hrn] at ho21
                  obtain ⟨ad, cap2, hv21⟩ := own_form ho21
                  have hstep : Hid (runsJ T tl (j + 1) = runsJ T tl j ++ [⟨tl[j], offJ T tl j, ordJ T tl j, 1⟩]) := by
                    unfold Hid; rw [runsJ_eq hjt]; exact step_push (fun m hl => by omega)
                  rw [hv21] at hc21
                  clear ho21 ho24 hv21 hc24 hl21 hl24
                  replace hrn := hide hrn
                  go_wp2_with (fail)
                  go_big_quiet (fail)
                  have hS1n := hS1.out.upd0 (Upd.drewN [] wr2 nq)
                  have hB1n := hB1.out.upd (Upd.drewN [] wr2 nq) (by simp)
                  go_wp2_with (fail)
                  have hSe := hS1n.upd0 (Upd.drew [] (wr2.drewN nq))
                  have hBe := hB1n.upd (Upd.drew [] (wr2.drewN nq)) (by simp)
                  have hCe : (Cl w.heap.size bb T (baseRow (lens (stJ T tl j)) 5) V1) ((wr2.drewN nq)).drew ∧ Below w.heap.size w ((wr2.drewN nq)).drew := ⟨hSe.cl hBe, hSe.bel⟩
                  refine region_anyD (fun w' => (Cl w.heap.size bb T (baseRow (lens (stJ T tl j)) 5) V1) w' ∧ Below w.heap.size w w') 9 mixed ?_
                  refine anyD_take 0 193 (.pointer (some ⟨w.heap.size + 3, 0 + 32, none⟩)) rfl rfl (by kernel_rfl) (by kernel_rfl) (by kernel_rfl) (by kernel_rfl) (by decide) rfl (stays_ok rfl (fun w' _ => exec_field fo33_7 rfl w')) #[true, false, false, false, false, false, false, false, false, false] rfl ?_
                  simp only [Act.put, List.setIfInBounds_toArray, List.set_cons_succ, List.set_cons_zero]
                  refine anyD_take 1 194 (V1 21) rfl rfl (by kernel_rfl) (by kernel_rfl) (by kernel_rfl) (by kernel_rfl) (by decide) rfl (stays_ok rfl (fun w' hw' => exec_load1 one22 rfl (hw'.1.cell 21 (by omega)))) #[true, true, false, false, false, false, false, false, false, false] rfl ?_
                  simp only [Act.put, List.setIfInBounds_toArray, List.set_cons_succ, List.set_cons_zero]
                  refine anyD_take 2 195 (.slice (some ⟨b, o, none⟩) tl.length cap) rfl rfl (by kernel_rfl) (by kernel_rfl) (by kernel_rfl) (by kernel_rfl) (by decide) rfl (stays_ok rfl (fun _ _ => rfl)) #[true, true, true, false, false, false, false, false, false, false] rfl ?_
                  simp only [Act.put, List.setIfInBounds_toArray, List.set_cons_succ, List.set_cons_zero]
                  refine anyD_take 3 196 (.int .i64 j) rfl rfl (by kernel_rfl) (by kernel_rfl) (by kernel_rfl) (by kernel_rfl) (by decide) rfl (stays_ok rfl (fun _ _ => rfl)) #[true, true, true, true, false, false, false, false, false, false] rfl ?_
                  simp only [Act.put, List.setIfInBounds_toArray, List.set_cons_succ, List.set_cons_zero]
                  refine anyD_take 4 197 (.pointer (some ⟨b, o + j * 1, none⟩)) rfl rfl (by kernel_rfl) (by kernel_rfl) (by kernel_rfl) (by kernel_rfl) (by decide) rfl (stays_ok rfl (fun w' _ => exec_index elem22 rfl rfl hjt w')) #[true, true, true, true, true, false, false, false, false, false] rfl ?_
                  simp only [Act.put, List.setIfInBounds_toArray, List.set_cons_succ, List.set_cons_zero]
                  refine anyD_take 5 198 (.int .i8 (tl[j] : Nat)) rfl rfl (by kernel_rfl) (by kernel_rfl) (by kernel_rfl) (by kernel_rfl) (by decide) rfl (stays_ok rfl (fun w' hw' => exec_load1 one45 rfl (by rw [Nat.mul_one]; exact (hw'.2.cell (p := ⟨b, o + j, none⟩) hbl).trans hc0.out))) #[true, true, true, true, true, true, false, false, false, false] rfl ?_
                  simp only [Act.put, List.setIfInBounds_toArray, List.set_cons_succ, List.set_cons_zero]
                  refine anyD_only 6 rfl (by kernel_rfl) hCe rfl #[true, true, true, true, true, true, true, false, false, false] rfl ?_
                  refine wp_build1 (v := .int .i8 (tl[j] : Nat)) Try.underlying22 hi45 hi45z hi45s rfl rfl ?_
                  simp only [Act.put, List.setIfInBounds_toArray, List.set_cons_succ, List.set_cons_zero]
                  have hCa2 := hCe.1.upd0 (Upd.alloc [] ((wr2.drewN nq)).drew (.cells #[.int .i8 (tl[j] : Nat)] 45))
                  have hBl2 := hCe.2.alloc hCe.2.size (.cells #[.int .i8 (tl[j] : Nat)] 45)
                  have hOw2 : (((wr2.drewN nq)).drew.alloc (.cells #[.int .i8 (tl[j] : Nat)] 45)).ownsRow w.heap.size 45 1 (V1 (21)) (X1 (21)).length (X1 (21)) := by have h := (hSe.upd0 (Upd.alloc [] ((wr2.drewN nq)).drew (.cells #[.int .i8 (tl[j] : Nat)] 45))).bld.own (21) (by omega); rw [(show rowT 21 = 45 from rfl)] at h; exact h
                  refine anyD_only 7 rfl (by kernel_rfl) ⟨hCa2, hBl2⟩ rfl #[true, true, true, true, true, true, true, true, false, false] rfl ?_
                  refine wp_appendM (v := V1 (21)) (u := .int .i8 (tl[j] : Nat)) _ w.heap.size Try.underlying22 hi45 hi45z hi45s hi45b rfl rfl hOw2 rfl (cell_new1 _ _ _) rfl (by have := hx21.out; omega) (by omega) (hCa2.big) ?_
                  intro va2 wa2 hown2 hga2 hfa2
                  have hKa2 : Kinds (((wr2.drewN nq)).drew.alloc (.cells #[.int .i8 (tl[j] : Nat)] 45)) (V1 (21)).ownBlock.toList [rowT (21)] := by rw [(show rowT 21 = 45 from rfl)]; exact own_kinds hOw2
                  have hUa2 := Upd.ofGrown (bs := (V1 (21)).ownBlock.toList) hga2 (by intro b e; simp [e])
                  have hCb2 := hCa2.keep hUa2 hKa2
                  have hBm2 := hBl2.trans (hUa2.below _ (own_low hOw2) hCa2.big)
                  simp only [Act.put, List.setIfInBounds_toArray, List.set_cons_succ, List.set_cons_zero]
                  refine anyD_take 8 201 (.pointer (some ⟨w.heap.size + 3, 0 + 32, none⟩)) rfl rfl (by kernel_rfl) (by kernel_rfl) (by kernel_rfl) (by kernel_rfl) (by decide) rfl (stays_ok rfl (fun w' _ => exec_field fo33_7 rfl w')) #[true, true, true, true, true, true, true, true, true, false] rfl ?_
                  simp only [Act.put, List.setIfInBounds_toArray, List.set_cons_succ, List.set_cons_zero]
                  refine anyD_only 9 rfl (by kernel_rfl) ⟨hCb2, hBm2⟩ rfl #[true, true, true, true, true, true, true, true, true, true] rfl ?_
                  refine wp_store1 (val := va2) size22 rfl rfl (ownsRow_one hown2).1 (ownsRow_one hown2).2 hCb2.mb (by rw [len36]; omega) ?_
                  intro ws2 hbs2 hgs2
                  rw [show 0 + 32 = 11 + (21) by omega] at hbs2
                  simp only [Act.put, List.setIfInBounds_toArray, List.set_cons_succ, List.set_cons_zero]
                  refine anyD_done (by kernel_rfl) rfl ?_
                  obtain ⟨hS2, hB2⟩ := BS.push hSe hBe (21) (by omega) (by rw [(show rowT 21 = 45 from rfl)]; exact hown2) hga2 hfa2 hbs2 hgs2
                  obtain ⟨V2, hV2⟩ : ∃ V', V' = updV V1 (21) va2 := ⟨_, rfl⟩
                  obtain ⟨X2, hX2⟩ : ∃ X', X' = updV X1 (21) (X1 (21) ++ [.int .i8 (tl[j] : Nat)]) := ⟨_, rfl⟩
                  rw [← hV2, ← hX2] at hS2
                  replace hS2 := hide hS2; replace hB2 := hide hB2; replace hX2 := hide hX2
                  clear hV2 hown2 hga2 hfa2 hbs2 hgs2 hOw2 hKa2 hCa2 hCb2
                  clear hBl2 hBm2 hUa2 hCe hSe hBe
                  have hx22 : Hid ((X2 22).length ≤ 65536) := (by unfold Hid; rw [hX2.out]; unfold updV; rw [if_neg (by omega)]; exact hx22a.out)
                  have hoffb : offJ T tl j ≤ 65536 := offJ_le ht j
                  have hCa3 := hide ((hS2.out.cl hB2.out).upd0 (Upd.alloc [] ws2 (.cells #[.int .i32 (offJ T tl j : Nat)] 21)))
                  have hcv3 : ws2.cell? ⟨w.heap.size + 3, 33, none⟩ = some (V2 (22)) := (by have h := (hS2.out.cl hB2.out).cell (22) (by omega); rw [show 11 + (22) = 33 by omega] at h; exact h)
                  have hOw3 : Hid ((ws2.alloc (.cells #[.int .i32 (offJ T tl j : Nat)] 21)).ownsRow w.heap.size 21 1 (V2 (22)) (X2 (22)).length (X2 (22))) := (by have h := (hS2.out.upd0 (Upd.alloc [] ws2 (.cells #[.int .i32 (offJ T tl j : Nat)] 21))).bld.own (22) (by omega); rw [(show rowT 22 = 21 from rfl)] at h; exact h)
                  have hKa3 : Hid (Kinds (ws2.alloc (.cells #[.int .i32 (offJ T tl j : Nat)] 21)) (V2 (22)).ownBlock.toList [rowT (22)]) := (by unfold Hid; rw [(show rowT 22 = 21 from rfl)]; exact own_kinds hOw3.out)
                  go_wp2_with (first
                    | ((with_reducible refine gd_app _ (.tmp 203) (.tmp 206) 28 ?_)
                       refine wpl_appendM (v := V2 (22)) (u := .int .i32 (offJ T tl j : Nat)) _ w.heap.size Try.underlying28 hi21 hi21z hi21s hi21b rfl rfl hOw3.out rfl (cell_new1 _ _ _) rfl (by have := hx22.out; omega) (by omega) hCa3.out.big ?_
                       intro va3 wa3 hown3 hga3 hfa3)
                    | ((with_reducible refine gd_store 28 (.tmp 208) (.tmp 207) ?_)
                       refine wpl_store1 size28 rfl rfl (ownsRow_one hown3).1 (ownsRow_one hown3).2 (hCa3.out.keep (Upd.ofGrown (bs := (V2 (22)).ownBlock.toList) hga3 (by intro b e; simp [e])) hKa3.out).mb (by rw [len36]; omega) ?_
                       intro ws3 hbs3 hgs3
                       rw [show 33 = 11 + (22) by omega] at hbs3
                       obtain ⟨hS3, hB3⟩ := BS.push hS2.out hB2.out (22) (by omega) (by rw [(show rowT 22 = 21 from rfl)]; exact hown3) hga3 hfa3 hbs3 hgs3
                       obtain ⟨V3, hV3⟩ : ∃ V', V' = updV V2 (22) va3 := ⟨_, rfl⟩
                       obtain ⟨X3, hX3⟩ : ∃ X', X' = updV X2 (22) (X2 (22) ++ [.int .i32 (offJ T tl j : Nat)]) := ⟨_, rfl⟩
                       rw [← hV3, ← hX3] at hS3
                       replace hS3 := hide hS3; replace hB3 := hide hB3; replace hX3 := hide hX3
                       clear hV3 hown3 hga3 hfa3 hbs3 hgs3 hOw3 hKa3 hCa3 hcv3))
                  have hx23 : Hid ((X3 23).length ≤ 65536) := (by unfold Hid; rw [hX3.out]; unfold updV; rw [if_neg (by omega), hX2.out]; unfold updV; rw [if_neg (by omega)]; exact hx23a.out)
                  have hSf := hS3.out.upd0 (Upd.drew [] ws3)
                  have hBf := hB3.out.upd (Upd.drew [] ws3) (by simp)
                  have hCf := hSf.cl hBf
                  refine region_anyD (Cl w.heap.size bb T (baseRow (lens (stJ T tl j)) 5) V3) 9 mixed ?_
                  refine anyD_take 0 209 (.pointer (some ⟨w.heap.size + 3, 0 + 34, none⟩)) rfl rfl (by kernel_rfl) (by kernel_rfl) (by kernel_rfl) (by kernel_rfl) (by decide) rfl (stays_ok rfl (fun w' _ => exec_field fo33_9 rfl w')) #[true, false, false, false, false, false, false, false, false, false] rfl ?_
                  simp only [Act.put, List.setIfInBounds_toArray, List.set_cons_succ, List.set_cons_zero]
                  refine anyD_take 1 210 (V3 23) rfl rfl (by kernel_rfl) (by kernel_rfl) (by kernel_rfl) (by kernel_rfl) (by decide) rfl (stays_ok rfl (fun w' hw' => exec_load1 one28 rfl (hw'.cell 23 (by omega)))) #[true, true, false, false, false, false, false, false, false, false] rfl ?_
                  simp only [Act.put, List.setIfInBounds_toArray, List.set_cons_succ, List.set_cons_zero]
                  refine anyD_take 2 211 (.int .i64 (tl[j] : Nat)) rfl rfl (by kernel_rfl) (by kernel_rfl) (by kernel_rfl) (by kernel_rfl) (by decide) rfl (stays_ok rfl (fun _ _ => rfl)) #[true, true, true, false, false, false, false, false, false, false] rfl ?_
                  simp only [Act.put, List.setIfInBounds_toArray, List.set_cons_succ, List.set_cons_zero]
                  refine anyD_take 3 212 (.pointer (some ⟨bb, 0 + tl[j], none⟩)) rfl rfl (by kernel_rfl) (by kernel_rfl) (by kernel_rfl) (by kernel_rfl) (by decide) rfl (stays_ok rfl (fun w' _ => exec_arr1 (k := .i64) Try.underlying24 size2 rfl rfl (by omega) w')) #[true, true, true, true, false, false, false, false, false, false] rfl ?_
                  simp only [Act.put, List.setIfInBounds_toArray, List.set_cons_succ, List.set_cons_zero]
                  refine anyD_take 4 213 (.int .i64 (lens (stJ T tl j) tl[j] : Nat)) rfl rfl (by kernel_rfl) (by kernel_rfl) (by kernel_rfl) (by kernel_rfl) (by decide) rfl (stays_ok rfl (fun w' hw' => exec_load1 one2 rfl (by rw [Nat.zero_add]; exact baseRow_cell hw'.bas _ (by omega)))) #[true, true, true, true, true, false, false, false, false, false] rfl ?_
                  simp only [Act.put, List.setIfInBounds_toArray, List.set_cons_succ, List.set_cons_zero]
                  refine anyD_take 5 214 (.int .i32 (lens (stJ T tl j) tl[j] : Nat)) rfl rfl (by kernel_rfl) (by kernel_rfl) (by kernel_rfl) (by kernel_rfl) (by decide) rfl (stays_ok rfl (fun w' _ => exec_conv2 rfl (by have := hord.out; omega) w')) #[true, true, true, true, true, true, false, false, false, false] rfl ?_
                  simp only [Act.put, List.setIfInBounds_toArray, List.set_cons_succ, List.set_cons_zero]
                  refine anyD_only 6 rfl (by kernel_rfl) hCf rfl #[true, true, true, true, true, true, true, false, false, false] rfl ?_
                  refine wp_build1 (v := .int .i32 (lens (stJ T tl j) tl[j] : Nat)) Try.underlying28 hi21 hi21z hi21s rfl rfl ?_
                  simp only [Act.put, List.setIfInBounds_toArray, List.set_cons_succ, List.set_cons_zero]
                  have hCa4 := hCf.upd0 (Upd.alloc [] ws3.drew (.cells #[.int .i32 (lens (stJ T tl j) tl[j] : Nat)] 21))
                  have hOw4 : (ws3.drew.alloc (.cells #[.int .i32 (lens (stJ T tl j) tl[j] : Nat)] 21)).ownsRow w.heap.size 21 1 (V3 (23)) (X3 (23)).length (X3 (23)) := by have h := (hSf.upd0 (Upd.alloc [] ws3.drew (.cells #[.int .i32 (lens (stJ T tl j) tl[j] : Nat)] 21))).bld.own (23) (by omega); rw [(show rowT 23 = 21 from rfl)] at h; exact h
                  refine anyD_only 7 rfl (by kernel_rfl) hCa4 rfl #[true, true, true, true, true, true, true, true, false, false] rfl ?_
                  refine wp_appendM (v := V3 (23)) (u := .int .i32 (lens (stJ T tl j) tl[j] : Nat)) _ w.heap.size Try.underlying28 hi21 hi21z hi21s hi21b rfl rfl hOw4 rfl (cell_new1 _ _ _) rfl (by have := hx23.out; omega) (by omega) (hCa4.big) ?_
                  intro va4 wa4 hown4 hga4 hfa4
                  have hKa4 : Kinds (ws3.drew.alloc (.cells #[.int .i32 (lens (stJ T tl j) tl[j] : Nat)] 21)) (V3 (23)).ownBlock.toList [rowT (23)] := by rw [(show rowT 23 = 21 from rfl)]; exact own_kinds hOw4
                  have hCb4 := hCa4.keep (Upd.ofGrown (bs := (V3 (23)).ownBlock.toList) hga4 (by intro b e; simp [e])) hKa4
                  simp only [Act.put, List.setIfInBounds_toArray, List.set_cons_succ, List.set_cons_zero]
                  refine anyD_take 8 217 (.pointer (some ⟨w.heap.size + 3, 0 + 34, none⟩)) rfl rfl (by kernel_rfl) (by kernel_rfl) (by kernel_rfl) (by kernel_rfl) (by decide) rfl (stays_ok rfl (fun w' _ => exec_field fo33_9 rfl w')) #[true, true, true, true, true, true, true, true, true, false] rfl ?_
                  simp only [Act.put, List.setIfInBounds_toArray, List.set_cons_succ, List.set_cons_zero]
                  refine anyD_only 9 rfl (by kernel_rfl) hCb4 rfl #[true, true, true, true, true, true, true, true, true, true] rfl ?_
                  refine wp_store1 (val := va4) size28 rfl rfl (ownsRow_one hown4).1 (ownsRow_one hown4).2 hCb4.mb (by rw [len36]; omega) ?_
                  intro ws4 hbs4 hgs4
                  rw [show 0 + 34 = 11 + (23) by omega] at hbs4
                  simp only [Act.put, List.setIfInBounds_toArray, List.set_cons_succ, List.set_cons_zero]
                  refine anyD_done (by kernel_rfl) rfl ?_
                  obtain ⟨hS4, hB4⟩ := BS.push hSf hBf (23) (by omega) (by rw [(show rowT 23 = 21 from rfl)]; exact hown4) hga4 hfa4 hbs4 hgs4
                  obtain ⟨V4, hV4⟩ : ∃ V', V' = updV V3 (23) va4 := ⟨_, rfl⟩
                  obtain ⟨X4, hX4⟩ : ∃ X', X' = updV X3 (23) (X3 (23) ++ [.int .i32 (lens (stJ T tl j) tl[j] : Nat)]) := ⟨_, rfl⟩
                  rw [← hV4, ← hX4] at hS4
                  replace hS4 := hide hS4; replace hB4 := hide hB4; replace hX4 := hide hX4
                  clear hV4 hown4 hga4 hfa4 hbs4 hgs4 hOw4 hKa4 hCa4 hCb4
                  have hx24 : Hid ((X4 24).length ≤ 65536) := (by unfold Hid; rw [hX4.out]; unfold updV; rw [if_neg (by omega), hX3.out]; unfold updV; rw [if_neg (by omega), hX2.out]; unfold updV; rw [if_neg (by omega)]; exact hx24a.out)
                  have hCa5 := hide ((hS4.out.cl hB4.out).upd0 (Upd.alloc [] ws4 (.cells #[.int .i32 1] 21)))
                  have hcv5 : ws4.cell? ⟨w.heap.size + 3, 35, none⟩ = some (V4 (24)) := (by have h := (hS4.out.cl hB4.out).cell (24) (by omega); rw [show 11 + (24) = 35 by omega] at h; exact h)
                  have hOw5 : Hid ((ws4.alloc (.cells #[.int .i32 1] 21)).ownsRow w.heap.size 21 1 (V4 (24)) (X4 (24)).length (X4 (24))) := (by have h := (hS4.out.upd0 (Upd.alloc [] ws4 (.cells #[.int .i32 1] 21))).bld.own (24) (by omega); rw [(show rowT 24 = 21 from rfl)] at h; exact h)
                  have hKa5 : Hid (Kinds (ws4.alloc (.cells #[.int .i32 1] 21)) (V4 (24)).ownBlock.toList [rowT (24)]) := (by unfold Hid; rw [(show rowT 24 = 21 from rfl)]; exact own_kinds hOw5.out)
                  go_wp2_with (first
                    | ((with_reducible refine gd_app _ (.tmp 219) (.tmp 220) 28 ?_)
                       refine wpl_appendM (v := V4 (24)) (u := .int .i32 1) _ w.heap.size Try.underlying28 hi21 hi21z hi21s hi21b rfl rfl hOw5.out rfl (cell_new1 _ _ _) rfl (by have := hx24.out; omega) (by omega) hCa5.out.big ?_
                       intro va5 wa5 hown5 hga5 hfa5)
                    | ((with_reducible refine gd_store 28 (.tmp 222) (.tmp 221) ?_)
                       refine wpl_store1 size28 rfl rfl (ownsRow_one hown5).1 (ownsRow_one hown5).2 (hCa5.out.keep (Upd.ofGrown (bs := (V4 (24)).ownBlock.toList) hga5 (by intro b e; simp [e])) hKa5.out).mb (by rw [len36]; omega) ?_
                       intro ws5 hbs5 hgs5
                       rw [show 35 = 11 + (24) by omega] at hbs5
                       obtain ⟨hS5, hB5⟩ := BS.push hS4.out hB4.out (24) (by omega) (by rw [(show rowT 24 = 21 from rfl)]; exact hown5) hga5 hfa5 hbs5 hgs5
                       obtain ⟨V5, hV5⟩ : ∃ V', V' = updV V4 (24) va5 := ⟨_, rfl⟩
                       obtain ⟨X5, hX5⟩ : ∃ X', X' = updV X4 (24) (X4 (24) ++ [.int .i32 1]) := ⟨_, rfl⟩
                       rw [← hV5, ← hX5] at hS5
                       replace hS5 := hide hS5; replace hB5 := hide hB5; replace hX5 := hide hX5
                       clear hV5 hown5 hga5 hfa5 hbs5 hgs5 hOw5 hKa5 hCa5 hcv5
                       have hz5 : ws5.cell? ⟨w.heap.size, tl[j], none⟩ = some (.int .i64 (T.sz tl[j])) := szV_cell hS5.out.sz _ (by omega)
                       have hoff2 := hoff.out))
                  go_roundw
                  case rel =>
                    refine ⟨j + 1, V5, by omega, by simp, by rw [offJ_succ T tl j hjt]; simp, ?_⟩
                    have hrun := XS_run (stJ T tl (j + 1)) (roJ T tl (j + 1)) (runsJ T tl j) ⟨tl[j], offJ T tl j, ordJ T tl j, 1⟩ X2 X3 X4 (by rw [hX2.out, hX1e.out]) hX3.out (by rw [hX4.out, ← hordE.out])
                    rw [hstep.out]
                    refine hS5.out.congr fun i hi => ?_
                    rw [← hrun i hi, hX5.out]; rfl
                  case measure => simp [intOf]; omega
              | succ m =>
                have ho21' := ho21
                rw [hl21, hrn] at ho21'
                obtain ⟨g, cap2, hv21⟩ := own_form1 ho21'
                rw [hv21] at hc21
                obtain ⟨lev, hlevE⟩ : ∃ lev, lev = ((runsJ T tl j)[m]'(by omega)).level := ⟨_, rfl⟩
                have hlv : wr2.cell? ⟨g, m, none⟩ = some (.int .i8 (lev : Nat)) := by
                  rw [hv21] at ho21'
                  rw [(own_cell ho21' m (by omega)).1, hX1e.out, hlevE]
                  show ((runsJ T tl j).map _)[m]? = _
                  rw [List.getElem?_map, List.getElem?_eq_getElem (by omega)]; rfl
                have hmle : m < 65536 := by omega
                clear ho21 ho21' hv21
                by_cases hlev : lev = tl[j]
                · as_aux_lemma =>
                  have hstep : Hid (runsJ T tl (j + 1) = (runsJ T tl j).modify m RunE.inc) := by
                    unfold Hid; rw [runsJ_eq hjt]; exact step_bump hrn (by rw [← hlevE]; exact hlev)
                  have ho24' := ho24
                  rw [hl24, hrn] at ho24'
                  obtain ⟨g24, cap24, hv24⟩ := own_form1 ho24'
                  have hv24' : V1 24 = .slice (some ⟨g24, 0, none⟩) (X1 24).length cap24 := by rw [hl24, hrn]; exact hv24
                  rw [hv24] at hc24
                  obtain ⟨cnt, hcntE⟩ : ∃ cnt, cnt = ((runsJ T tl j)[m]'(by omega)).count := ⟨_, rfl⟩
                  have hcb : cnt ≤ 65536 := by rw [hcntE]; have := runs_count T tl j _ (List.getElem_mem (show m < (runsJ T tl j).length by omega)); omega
                  rw [hv24] at ho24'
                  have hcc := own_cell ho24' m (by omega)
                  have hcnt : wr2.cell? ⟨g24, m, none⟩ = some (.int .i32 (cnt : Nat)) := by
                    rw [hcc.1, hX1e.out, hcntE]
                    show ((runsJ T tl j).map _)[m]? = _
                    rw [List.getElem?_map, List.getElem?_eq_getElem (by omega)]; rfl
                  have hfz := hcc.2
                  have hSr := hide (hS1.out.setRow 24 (by omega) hv24' (o := m) (by omega) (.int .i32 ((cnt : Int) + 1)))
                  have hzr : (wr2.setCell ⟨g24, m, none⟩ (.int .i32 ((cnt : Int) + 1))).cell? ⟨w.heap.size, tl[j], none⟩ = some (.int .i64 (T.sz tl[j])) := szV_cell hSr.out.sz _ (by omega)
                  replace hv24' := hide hv24'
                  clear ho24 ho24' hv24 hcc
                  have hlb : ((lev : Int) == (tl[j] : Int)) = true := by rw [beq_iff_eq]; omega
                  replace hlevE := hide hlevE; replace hcntE := hide hcntE; replace hrn := hide hrn; replace hlev := hide hlev; replace hl24 := hide hl24
                  have hoff2 := hoff.out
                  go_wp2_with (fail)
                  go_big_quiet (fail)
                  obtain ⟨V9, X9, hS9, hX9, hf9⟩ : ∃ V9 X9, Hid (BS w w.heap.size T V9 X9 ((wr2.drewN nq).setCell ⟨g24, m, none⟩ (.int .i32 ((cnt : Int) + 1)))) ∧ Hid (∀ i, i < 25 → X9 i = XS (stJ T tl (j + 1)) (roJ T tl (j + 1)) (runsJ T tl (j + 1)) i) ∧ (wr2.drewN nq).cell? ⟨g24, m, none⟩ = some (.int .i32 (cnt : Nat)) := by
                    refine ⟨V1, _, (hS1.out.upd0 (Upd.drewN [] wr2 nq)).setRow 24 (by omega) (cap := cap24) (o := m) ?_ ?_ (.int .i32 ((cnt : Int) + 1)), ?_, hcnt⟩
                    · exact hv24'.out
                    · rw [hl24.out, hrn.out]; omega
                    · intro i hi
                      rw [hstep.out, hX1e.out]
                      have := XS_bump (stJ T tl (j + 1)) (roJ T tl (j + 1)) (runsJ T tl j) m (by rw [hrn.out]; omega) i hi
                      rw [← this, hcntE.out]; rfl
                  have hz9 : ((wr2.drewN nq).setCell ⟨g24, m, none⟩ (.int .i32 ((cnt : Int) + 1))).cell? ⟨w.heap.size, tl[j], none⟩ = some (.int .i64 (T.sz tl[j])) := szV_cell hS9.out.sz _ (by omega)
                  have hfz9 : (wr2.drewN nq).frozen? ⟨g24, m, none⟩ = false := hfz
                  have hc249 : (wr2.drewN nq).cell? ⟨w.heap.size + 3, 35, none⟩ = some (.slice (some ⟨g24, 0, none⟩) (m + 1) cap24) := hc24
                  go_wp2_with (fail)
                  go_roundw
                  case rel =>
                    exact ⟨j + 1, V9, by omega, by simp, by rw [offJ_succ T tl j hjt]; simp, hS9.out.congr hX9.out⟩
                  case measure => simp [intOf]; omega
                · as_aux_lemma =>
                  have hstep : Hid (runsJ T tl (j + 1) = runsJ T tl j ++ [⟨tl[j], offJ T tl j, ordJ T tl j, 1⟩]) := by
                    unfold Hid; rw [runsJ_eq hjt]; exact step_push (fun m' hl => by
                      have hmm : m' = m := by omega
                      subst hmm
                      rw [← hlevE]; exact hlev)
                  clear ho24 hc24
                  have hlb : ((lev : Int) == (tl[j] : Int)) = false := by rw [beq_eq_false_iff_ne]; omega
                  replace hlevE := hide hlevE; replace hrn := hide hrn; replace hlev := hide hlev
                  go_wp2_with (fail)
                  go_big_quiet (fail)
                  have hS1n := hS1.out.upd0 (Upd.drewN [] wr2 nq)
                  have hB1n := hB1.out.upd (Upd.drewN [] wr2 nq) (by simp)
                  go_wp2_with (fail)
                  have hSe := hS1n.upd0 (Upd.drew [] (wr2.drewN nq))
                  have hBe := hB1n.upd (Upd.drew [] (wr2.drewN nq)) (by simp)
                  have hCe : (Cl w.heap.size bb T (baseRow (lens (stJ T tl j)) 5) V1) ((wr2.drewN nq)).drew ∧ Below w.heap.size w ((wr2.drewN nq)).drew := ⟨hSe.cl hBe, hSe.bel⟩
                  refine region_anyD (fun w' => (Cl w.heap.size bb T (baseRow (lens (stJ T tl j)) 5) V1) w' ∧ Below w.heap.size w w') 9 mixed ?_
                  refine anyD_take 0 193 (.pointer (some ⟨w.heap.size + 3, 0 + 32, none⟩)) rfl rfl (by kernel_rfl) (by kernel_rfl) (by kernel_rfl) (by kernel_rfl) (by decide) rfl (stays_ok rfl (fun w' _ => exec_field fo33_7 rfl w')) #[true, false, false, false, false, false, false, false, false, false] rfl ?_
                  simp only [Act.put, List.setIfInBounds_toArray, List.set_cons_succ, List.set_cons_zero]
                  refine anyD_take 1 194 (V1 21) rfl rfl (by kernel_rfl) (by kernel_rfl) (by kernel_rfl) (by kernel_rfl) (by decide) rfl (stays_ok rfl (fun w' hw' => exec_load1 one22 rfl (hw'.1.cell 21 (by omega)))) #[true, true, false, false, false, false, false, false, false, false] rfl ?_
                  simp only [Act.put, List.setIfInBounds_toArray, List.set_cons_succ, List.set_cons_zero]
                  refine anyD_take 2 195 (.slice (some ⟨b, o, none⟩) tl.length cap) rfl rfl (by kernel_rfl) (by kernel_rfl) (by kernel_rfl) (by kernel_rfl) (by decide) rfl (stays_ok rfl (fun _ _ => rfl)) #[true, true, true, false, false, false, false, false, false, false] rfl ?_
                  simp only [Act.put, List.setIfInBounds_toArray, List.set_cons_succ, List.set_cons_zero]
                  refine anyD_take 3 196 (.int .i64 j) rfl rfl (by kernel_rfl) (by kernel_rfl) (by kernel_rfl) (by kernel_rfl) (by decide) rfl (stays_ok rfl (fun _ _ => rfl)) #[true, true, true, true, false, false, false, false, false, false] rfl ?_
                  simp only [Act.put, List.setIfInBounds_toArray, List.set_cons_succ, List.set_cons_zero]
                  refine anyD_take 4 197 (.pointer (some ⟨b, o + j * 1, none⟩)) rfl rfl (by kernel_rfl) (by kernel_rfl) (by kernel_rfl) (by kernel_rfl) (by decide) rfl (stays_ok rfl (fun w' _ => exec_index elem22 rfl rfl hjt w')) #[true, true, true, true, true, false, false, false, false, false] rfl ?_
                  simp only [Act.put, List.setIfInBounds_toArray, List.set_cons_succ, List.set_cons_zero]
                  refine anyD_take 5 198 (.int .i8 (tl[j] : Nat)) rfl rfl (by kernel_rfl) (by kernel_rfl) (by kernel_rfl) (by kernel_rfl) (by decide) rfl (stays_ok rfl (fun w' hw' => exec_load1 one45 rfl (by rw [Nat.mul_one]; exact (hw'.2.cell (p := ⟨b, o + j, none⟩) hbl).trans hc0.out))) #[true, true, true, true, true, true, false, false, false, false] rfl ?_
                  simp only [Act.put, List.setIfInBounds_toArray, List.set_cons_succ, List.set_cons_zero]
                  refine anyD_only 6 rfl (by kernel_rfl) hCe rfl #[true, true, true, true, true, true, true, false, false, false] rfl ?_
                  refine wp_build1 (v := .int .i8 (tl[j] : Nat)) Try.underlying22 hi45 hi45z hi45s rfl rfl ?_
                  simp only [Act.put, List.setIfInBounds_toArray, List.set_cons_succ, List.set_cons_zero]
                  have hCa2 := hCe.1.upd0 (Upd.alloc [] ((wr2.drewN nq)).drew (.cells #[.int .i8 (tl[j] : Nat)] 45))
                  have hBl2 := hCe.2.alloc hCe.2.size (.cells #[.int .i8 (tl[j] : Nat)] 45)
                  have hOw2 : (((wr2.drewN nq)).drew.alloc (.cells #[.int .i8 (tl[j] : Nat)] 45)).ownsRow w.heap.size 45 1 (V1 (21)) (X1 (21)).length (X1 (21)) := by have h := (hSe.upd0 (Upd.alloc [] ((wr2.drewN nq)).drew (.cells #[.int .i8 (tl[j] : Nat)] 45))).bld.own (21) (by omega); rw [(show rowT 21 = 45 from rfl)] at h; exact h
                  refine anyD_only 7 rfl (by kernel_rfl) ⟨hCa2, hBl2⟩ rfl #[true, true, true, true, true, true, true, true, false, false] rfl ?_
                  refine wp_appendM (v := V1 (21)) (u := .int .i8 (tl[j] : Nat)) _ w.heap.size Try.underlying22 hi45 hi45z hi45s hi45b rfl rfl hOw2 rfl (cell_new1 _ _ _) rfl (by have := hx21.out; omega) (by omega) (hCa2.big) ?_
                  intro va2 wa2 hown2 hga2 hfa2
                  have hKa2 : Kinds (((wr2.drewN nq)).drew.alloc (.cells #[.int .i8 (tl[j] : Nat)] 45)) (V1 (21)).ownBlock.toList [rowT (21)] := by rw [(show rowT 21 = 45 from rfl)]; exact own_kinds hOw2
                  have hUa2 := Upd.ofGrown (bs := (V1 (21)).ownBlock.toList) hga2 (by intro b e; simp [e])
                  have hCb2 := hCa2.keep hUa2 hKa2
                  have hBm2 := hBl2.trans (hUa2.below _ (own_low hOw2) hCa2.big)
                  simp only [Act.put, List.setIfInBounds_toArray, List.set_cons_succ, List.set_cons_zero]
                  refine anyD_take 8 201 (.pointer (some ⟨w.heap.size + 3, 0 + 32, none⟩)) rfl rfl (by kernel_rfl) (by kernel_rfl) (by kernel_rfl) (by kernel_rfl) (by decide) rfl (stays_ok rfl (fun w' _ => exec_field fo33_7 rfl w')) #[true, true, true, true, true, true, true, true, true, false] rfl ?_
                  simp only [Act.put, List.setIfInBounds_toArray, List.set_cons_succ, List.set_cons_zero]
                  refine anyD_only 9 rfl (by kernel_rfl) ⟨hCb2, hBm2⟩ rfl #[true, true, true, true, true, true, true, true, true, true] rfl ?_
                  refine wp_store1 (val := va2) size22 rfl rfl (ownsRow_one hown2).1 (ownsRow_one hown2).2 hCb2.mb (by rw [len36]; omega) ?_
                  intro ws2 hbs2 hgs2
                  rw [show 0 + 32 = 11 + (21) by omega] at hbs2
                  simp only [Act.put, List.setIfInBounds_toArray, List.set_cons_succ, List.set_cons_zero]
                  refine anyD_done (by kernel_rfl) rfl ?_
                  obtain ⟨hS2, hB2⟩ := BS.push hSe hBe (21) (by omega) (by rw [(show rowT 21 = 45 from rfl)]; exact hown2) hga2 hfa2 hbs2 hgs2
                  obtain ⟨V2, hV2⟩ : ∃ V', V' = updV V1 (21) va2 := ⟨_, rfl⟩
                  obtain ⟨X2, hX2⟩ : ∃ X', X' = updV X1 (21) (X1 (21) ++ [.int .i8 (tl[j] : Nat)]) := ⟨_, rfl⟩
                  rw [← hV2, ← hX2] at hS2
                  replace hS2 := hide hS2; replace hB2 := hide hB2; replace hX2 := hide hX2
                  clear hV2 hown2 hga2 hfa2 hbs2 hgs2 hOw2 hKa2 hCa2 hCb2
                  clear hBl2 hBm2 hUa2 hCe hSe hBe
                  have hx22 : Hid ((X2 22).length ≤ 65536) := (by unfold Hid; rw [hX2.out]; unfold updV; rw [if_neg (by omega)]; exact hx22a.out)
                  have hoffb : offJ T tl j ≤ 65536 := offJ_le ht j
                  have hCa3 := hide ((hS2.out.cl hB2.out).upd0 (Upd.alloc [] ws2 (.cells #[.int .i32 (offJ T tl j : Nat)] 21)))
                  have hcv3 : ws2.cell? ⟨w.heap.size + 3, 33, none⟩ = some (V2 (22)) := (by have h := (hS2.out.cl hB2.out).cell (22) (by omega); rw [show 11 + (22) = 33 by omega] at h; exact h)
                  have hOw3 : Hid ((ws2.alloc (.cells #[.int .i32 (offJ T tl j : Nat)] 21)).ownsRow w.heap.size 21 1 (V2 (22)) (X2 (22)).length (X2 (22))) := (by have h := (hS2.out.upd0 (Upd.alloc [] ws2 (.cells #[.int .i32 (offJ T tl j : Nat)] 21))).bld.own (22) (by omega); rw [(show rowT 22 = 21 from rfl)] at h; exact h)
                  have hKa3 : Hid (Kinds (ws2.alloc (.cells #[.int .i32 (offJ T tl j : Nat)] 21)) (V2 (22)).ownBlock.toList [rowT (22)]) := (by unfold Hid; rw [(show rowT 22 = 21 from rfl)]; exact own_kinds hOw3.out)
                  go_wp2_with (first
                    | ((with_reducible refine gd_app _ (.tmp 203) (.tmp 206) 28 ?_)
                       refine wpl_appendM (v := V2 (22)) (u := .int .i32 (offJ T tl j : Nat)) _ w.heap.size Try.underlying28 hi21 hi21z hi21s hi21b rfl rfl hOw3.out rfl (cell_new1 _ _ _) rfl (by have := hx22.out; omega) (by omega) hCa3.out.big ?_
                       intro va3 wa3 hown3 hga3 hfa3)
                    | ((with_reducible refine gd_store 28 (.tmp 208) (.tmp 207) ?_)
                       refine wpl_store1 size28 rfl rfl (ownsRow_one hown3).1 (ownsRow_one hown3).2 (hCa3.out.keep (Upd.ofGrown (bs := (V2 (22)).ownBlock.toList) hga3 (by intro b e; simp [e])) hKa3.out).mb (by rw [len36]; omega) ?_
                       intro ws3 hbs3 hgs3
                       rw [show 33 = 11 + (22) by omega] at hbs3
                       obtain ⟨hS3, hB3⟩ := BS.push hS2.out hB2.out (22) (by omega) (by rw [(show rowT 22 = 21 from rfl)]; exact hown3) hga3 hfa3 hbs3 hgs3
                       obtain ⟨V3, hV3⟩ : ∃ V', V' = updV V2 (22) va3 := ⟨_, rfl⟩
                       obtain ⟨X3, hX3⟩ : ∃ X', X' = updV X2 (22) (X2 (22) ++ [.int .i32 (offJ T tl j : Nat)]) := ⟨_, rfl⟩
                       rw [← hV3, ← hX3] at hS3
                       replace hS3 := hide hS3; replace hB3 := hide hB3; replace hX3 := hide hX3
                       clear hV3 hown3 hga3 hfa3 hbs3 hgs3 hOw3 hKa3 hCa3 hcv3))
                  have hx23 : Hid ((X3 23).length ≤ 65536) := (by unfold Hid; rw [hX3.out]; unfold updV; rw [if_neg (by omega), hX2.out]; unfold updV; rw [if_neg (by omega)]; exact hx23a.out)
                  have hSf := hS3.out.upd0 (Upd.drew [] ws3)
                  have hBf := hB3.out.upd (Upd.drew [] ws3) (by simp)
                  have hCf := hSf.cl hBf
                  refine region_anyD (Cl w.heap.size bb T (baseRow (lens (stJ T tl j)) 5) V3) 9 mixed ?_
                  refine anyD_take 0 209 (.pointer (some ⟨w.heap.size + 3, 0 + 34, none⟩)) rfl rfl (by kernel_rfl) (by kernel_rfl) (by kernel_rfl) (by kernel_rfl) (by decide) rfl (stays_ok rfl (fun w' _ => exec_field fo33_9 rfl w')) #[true, false, false, false, false, false, false, false, false, false] rfl ?_
                  simp only [Act.put, List.setIfInBounds_toArray, List.set_cons_succ, List.set_cons_zero]
                  refine anyD_take 1 210 (V3 23) rfl rfl (by kernel_rfl) (by kernel_rfl) (by kernel_rfl) (by kernel_rfl) (by decide) rfl (stays_ok rfl (fun w' hw' => exec_load1 one28 rfl (hw'.cell 23 (by omega)))) #[true, true, false, false, false, false, false, false, false, false] rfl ?_
                  simp only [Act.put, List.setIfInBounds_toArray, List.set_cons_succ, List.set_cons_zero]
                  refine anyD_take 2 211 (.int .i64 (tl[j] : Nat)) rfl rfl (by kernel_rfl) (by kernel_rfl) (by kernel_rfl) (by kernel_rfl) (by decide) rfl (stays_ok rfl (fun _ _ => rfl)) #[true, true, true, false, false, false, false, false, false, false] rfl ?_
                  simp only [Act.put, List.setIfInBounds_toArray, List.set_cons_succ, List.set_cons_zero]
                  refine anyD_take 3 212 (.pointer (some ⟨bb, 0 + tl[j], none⟩)) rfl rfl (by kernel_rfl) (by kernel_rfl) (by kernel_rfl) (by kernel_rfl) (by decide) rfl (stays_ok rfl (fun w' _ => exec_arr1 (k := .i64) Try.underlying24 size2 rfl rfl (by omega) w')) #[true, true, true, true, false, false, false, false, false, false] rfl ?_
                  simp only [Act.put, List.setIfInBounds_toArray, List.set_cons_succ, List.set_cons_zero]
                  refine anyD_take 4 213 (.int .i64 (lens (stJ T tl j) tl[j] : Nat)) rfl rfl (by kernel_rfl) (by kernel_rfl) (by kernel_rfl) (by kernel_rfl) (by decide) rfl (stays_ok rfl (fun w' hw' => exec_load1 one2 rfl (by rw [Nat.zero_add]; exact baseRow_cell hw'.bas _ (by omega)))) #[true, true, true, true, true, false, false, false, false, false] rfl ?_
                  simp only [Act.put, List.setIfInBounds_toArray, List.set_cons_succ, List.set_cons_zero]
                  refine anyD_take 5 214 (.int .i32 (lens (stJ T tl j) tl[j] : Nat)) rfl rfl (by kernel_rfl) (by kernel_rfl) (by kernel_rfl) (by kernel_rfl) (by decide) rfl (stays_ok rfl (fun w' _ => exec_conv2 rfl (by have := hord.out; omega) w')) #[true, true, true, true, true, true, false, false, false, false] rfl ?_
                  simp only [Act.put, List.setIfInBounds_toArray, List.set_cons_succ, List.set_cons_zero]
                  refine anyD_only 6 rfl (by kernel_rfl) hCf rfl #[true, true, true, true, true, true, true, false, false, false] rfl ?_
                  refine wp_build1 (v := .int .i32 (lens (stJ T tl j) tl[j] : Nat)) Try.underlying28 hi21 hi21z hi21s rfl rfl ?_
                  simp only [Act.put, List.setIfInBounds_toArray, List.set_cons_succ, List.set_cons_zero]
                  have hCa4 := hCf.upd0 (Upd.alloc [] ws3.drew (.cells #[.int .i32 (lens (stJ T tl j) tl[j] : Nat)] 21))
                  have hOw4 : (ws3.drew.alloc (.cells #[.int .i32 (lens (stJ T tl j) tl[j] : Nat)] 21)).ownsRow w.heap.size 21 1 (V3 (23)) (X3 (23)).length (X3 (23)) := by have h := (hSf.upd0 (Upd.alloc [] ws3.drew (.cells #[.int .i32 (lens (stJ T tl j) tl[j] : Nat)] 21))).bld.own (23) (by omega); rw [(show rowT 23 = 21 from rfl)] at h; exact h
                  refine anyD_only 7 rfl (by kernel_rfl) hCa4 rfl #[true, true, true, true, true, true, true, true, false, false] rfl ?_
                  refine wp_appendM (v := V3 (23)) (u := .int .i32 (lens (stJ T tl j) tl[j] : Nat)) _ w.heap.size Try.underlying28 hi21 hi21z hi21s hi21b rfl rfl hOw4 rfl (cell_new1 _ _ _) rfl (by have := hx23.out; omega) (by omega) (hCa4.big) ?_
                  intro va4 wa4 hown4 hga4 hfa4
                  have hKa4 : Kinds (ws3.drew.alloc (.cells #[.int .i32 (lens (stJ T tl j) tl[j] : Nat)] 21)) (V3 (23)).ownBlock.toList [rowT (23)] := by rw [(show rowT 23 = 21 from rfl)]; exact own_kinds hOw4
                  have hCb4 := hCa4.keep (Upd.ofGrown (bs := (V3 (23)).ownBlock.toList) hga4 (by intro b e; simp [e])) hKa4
                  simp only [Act.put, List.setIfInBounds_toArray, List.set_cons_succ, List.set_cons_zero]
                  refine anyD_take 8 217 (.pointer (some ⟨w.heap.size + 3, 0 + 34, none⟩)) rfl rfl (by kernel_rfl) (by kernel_rfl) (by kernel_rfl) (by kernel_rfl) (by decide) rfl (stays_ok rfl (fun w' _ => exec_field fo33_9 rfl w')) #[true, true, true, true, true, true, true, true, true, false] rfl ?_
                  simp only [Act.put, List.setIfInBounds_toArray, List.set_cons_succ, List.set_cons_zero]
                  refine anyD_only 9 rfl (by kernel_rfl) hCb4 rfl #[true, true, true, true, true, true, true, true, true, true] rfl ?_
                  refine wp_store1 (val := va4) size28 rfl rfl (ownsRow_one hown4).1 (ownsRow_one hown4).2 hCb4.mb (by rw [len36]; omega) ?_
                  intro ws4 hbs4 hgs4
                  rw [show 0 + 34 = 11 + (23) by omega] at hbs4
                  simp only [Act.put, List.setIfInBounds_toArray, List.set_cons_succ, List.set_cons_zero]
                  refine anyD_done (by kernel_rfl) rfl ?_
                  obtain ⟨hS4, hB4⟩ := BS.push hSf hBf (23) (by omega) (by rw [(show rowT 23 = 21 from rfl)]; exact hown4) hga4 hfa4 hbs4 hgs4
                  obtain ⟨V4, hV4⟩ : ∃ V', V' = updV V3 (23) va4 := ⟨_, rfl⟩
                  obtain ⟨X4, hX4⟩ : ∃ X', X' = updV X3 (23) (X3 (23) ++ [.int .i32 (lens (stJ T tl j) tl[j] : Nat)]) := ⟨_, rfl⟩
                  rw [← hV4, ← hX4] at hS4
                  replace hS4 := hide hS4; replace hB4 := hide hB4; replace hX4 := hide hX4
                  clear hV4 hown4 hga4 hfa4 hbs4 hgs4 hOw4 hKa4 hCa4 hCb4
                  have hx24 : Hid ((X4 24).length ≤ 65536) := (by unfold Hid; rw [hX4.out]; unfold updV; rw [if_neg (by omega), hX3.out]; unfold updV; rw [if_neg (by omega), hX2.out]; unfold updV; rw [if_neg (by omega)]; exact hx24a.out)
                  have hCa5 := hide ((hS4.out.cl hB4.out).upd0 (Upd.alloc [] ws4 (.cells #[.int .i32 1] 21)))
                  have hcv5 : ws4.cell? ⟨w.heap.size + 3, 35, none⟩ = some (V4 (24)) := (by have h := (hS4.out.cl hB4.out).cell (24) (by omega); rw [show 11 + (24) = 35 by omega] at h; exact h)
                  have hOw5 : Hid ((ws4.alloc (.cells #[.int .i32 1] 21)).ownsRow w.heap.size 21 1 (V4 (24)) (X4 (24)).length (X4 (24))) := (by have h := (hS4.out.upd0 (Upd.alloc [] ws4 (.cells #[.int .i32 1] 21))).bld.own (24) (by omega); rw [(show rowT 24 = 21 from rfl)] at h; exact h)
                  have hKa5 : Hid (Kinds (ws4.alloc (.cells #[.int .i32 1] 21)) (V4 (24)).ownBlock.toList [rowT (24)]) := (by unfold Hid; rw [(show rowT 24 = 21 from rfl)]; exact own_kinds hOw5.out)
                  go_wp2_with (first
                    | ((with_reducible refine gd_app _ (.tmp 219) (.tmp 220) 28 ?_)
                       refine wpl_appendM (v := V4 (24)) (u := .int .i32 1) _ w.heap.size Try.underlying28 hi21 hi21z hi21s hi21b rfl rfl hOw5.out rfl (cell_new1 _ _ _) rfl (by have := hx24.out; omega) (by omega) hCa5.out.big ?_
                       intro va5 wa5 hown5 hga5 hfa5)
                    | ((with_reducible refine gd_store 28 (.tmp 222) (.tmp 221) ?_)
                       refine wpl_store1 size28 rfl rfl (ownsRow_one hown5).1 (ownsRow_one hown5).2 (hCa5.out.keep (Upd.ofGrown (bs := (V4 (24)).ownBlock.toList) hga5 (by intro b e; simp [e])) hKa5.out).mb (by rw [len36]; omega) ?_
                       intro ws5 hbs5 hgs5
                       rw [show 35 = 11 + (24) by omega] at hbs5
                       obtain ⟨hS5, hB5⟩ := BS.push hS4.out hB4.out (24) (by omega) (by rw [(show rowT 24 = 21 from rfl)]; exact hown5) hga5 hfa5 hbs5 hgs5
                       obtain ⟨V5, hV5⟩ : ∃ V', V' = updV V4 (24) va5 := ⟨_, rfl⟩
                       obtain ⟨X5, hX5⟩ : ∃ X', X' = updV X4 (24) (X4 (24) ++ [.int .i32 1]) := ⟨_, rfl⟩
                       rw [← hV5, ← hX5] at hS5
                       replace hS5 := hide hS5; replace hB5 := hide hB5; replace hX5 := hide hX5
                       clear hV5 hown5 hga5 hfa5 hbs5 hgs5 hOw5 hKa5 hCa5 hcv5
                       have hz5 : ws5.cell? ⟨w.heap.size, tl[j], none⟩ = some (.int .i64 (T.sz tl[j])) := szV_cell hS5.out.sz _ (by omega)
                       have hoff2 := hoff.out))
                  go_roundw
                  case rel =>
                    refine ⟨j + 1, V5, by omega, by simp, by rw [offJ_succ T tl j hjt]; simp, ?_⟩
                    have hrun := XS_run (stJ T tl (j + 1)) (roJ T tl (j + 1)) (runsJ T tl j) ⟨tl[j], offJ T tl j, ordJ T tl j, 1⟩ X2 X3 X4 (by rw [hX2.out, hX1e.out]) hX3.out (by rw [hX4.out, ← hordE.out])
                    rw [hstep.out]
                    refine hS5.out.congr fun i hi => ?_
                    rw [← hrun i hi, hX5.out]; rfl
                  case measure => simp [intOf]; omega
    · obtain rfl : j = tl.length := by omega
      obtain ⟨z, hz, hzl⟩ := hS.out.res
      have hzh := hide hz
      clear hz
      go_wp2_with (first
        | ((with_reducible refine gd_load 33 (.tmp 7) ?_); refine wpl_load rfl agg33 size33 (T.szV ++ T.fanV ++ (List.range 25).map V) (len36 T V) (blkCells hS.out.bld.blk) ?_)
        | ((with_reducible refine gd_store 33 (.tmp 6) (.tmp 228) ?_); refine wpl_store rfl (T.szV ++ T.fanV ++ (List.range 25).map V) rfl size33 (len36 T V) z hzh.out (by omega) (cells_one T V hS.out) ?_; intro w6 hb6 hg6))
      refine bodyPost_ret (results_cell rfl rfl agg33 size33 (T.szV ++ T.fanV ++ (List.range 25).map V) (len36 T V) (blkCells (by rw [show z.drop (0 + 36) = [] from List.drop_eq_nil_of_le (by omega), List.take_zero, List.nil_append, List.append_nil] at hb6; exact hb6))) rfl ?_
      have U6 : Upd [w.heap.size + 2] wr w6 := Upd.ofGrown hg6 (by intro b e; cases e; simp)
      refine ⟨V, rfl, fun i hi => ?_, hS.out.bel.trans (U6.below _ (by simp) hS.out.bel.size)⟩
      exact ownsRow_upd (hS.out.bld.own i hi) U6 (fun g hg => by simp; exact own_ne (hS.out.bld.own i hi) hzh.out (rowT_ne i).1 g hg)
end Go.Proofs.Qxb6609507a
