import Derived.Test.Qxb6612599aLaw3
namespace Go.Proofs.Qxb6612599a
set_option linter.unusedVariables false
open Go.ChangeShapes Go.WideShapes Go.ChangeAt Go.RowKit
open Go.Extern.Stop (cell)

set_option maxHeartbeats 8000000 in
theorem law3 (a : Option Addr) (ids : List (List UInt8)) (cap : Nat) (i : Int) (id : List UInt8) (hid : id.length = 20) (w : World) (hids : ∀ x ∈ ids, x.length = 20) (hin : CameIn w a ids) (hm : ids.length ≤ maxLen) :
    Calls Try.prog 3 #[.slice a ids.length cap, .int .i64 i, .agg (id.map cell).toArray] w fun e w' => Good w e w' := by
  have hm' := hm
  unfold maxLen at hm'
  have hb0 : Below w.heap.size w (w.alloc (.cells (id.map cell).toArray 23)) := (Below.refl _ _).alloc (Nat.le_refl _) _
  have hd0 : IdIn (w.alloc (.cells (id.map cell).toArray 23)) w.heap.size id := fun j v hv => by
    rw [Nat.zero_add, World.cell?_alloc_at _ _ _ _ rfl]; simpa using hv
  by_cases hgo : ids.length ≤ 32768 ∧ 0 ≤ i ∧ i ≤ ids.length
  · obtain ⟨hle, hi0, hi1⟩ := hgo
    obtain ⟨cut, rfl⟩ := Int.eq_ofNat_of_zero_le hi0
    have hcut : cut ≤ ids.length := by omega
    obtain ⟨i0, hi, hz0, hz1, hz2⟩ := info_parts info23
    have hneq := neq_nil22
    have hil : ids.length * 20 ≤ 655360 := by omega
    rcases hin with ⟨ha, hnil⟩ | ⟨x, rfl, hcs⟩
    · have hneqa : ∀ w : World, (binOp .neq 22 (.slice a ids.length cap) (.slice none 0 0)).run Try.prog w = .ok (.bool false) w := fun w => by
        rw [ha]; simp [binOp, run_equal_slice_nil w 22 23 none _ cap Try.underlying22]
      have hcapt : ids.length ≤ cap := by rw [hnil]; exact Nat.zero_le _
      have hvac : ∀ w, IdsIn w a ids := fun w k hk => by rw [hnil] at hk; simp at hk
      have HL0 : Hid (ids.length = 0) := by unfold Hid; rw [hnil]; rfl
      clear ha hnil
      go_enter Try.func3, Try.ntmps3
      go_wp2_with (first
        | ((with_reducible refine gd_load 23 (.tmp 5) ?_); refine wpl_load rfl agg23 size23 (id.map cell) (by simp [hid]) (by exact hd0) ?_)
        | (go_at_call 5; refine (bytes5_any _ _ _ _ _ _ hm).mono ?_; rintro e wt ⟨⟨bb, rfl⟩, hl1⟩; have hzwt := hb0.trans (hl1.mono hb0.size); have hdwt := hd0.below hl1 (hd0.lt hid); have hiwt := hvac wt))
      · go_ret
        exact ⟨rfl, hzwt⟩
      · clear hd0 hb0 hl1
        have hC4 : Below wt.heap.size wt wt.drew := (Below.refl _ _).drew
        refine region_anyC (fun w' => Below wt.heap.size wt w') mixed ?_
        refine anyC_take 0 39 (.slice a ids.length cap) rfl rfl (by kernel_rfl) (by kernel_rfl) (by kernel_rfl) (stays_ok rfl fun _ _ => rfl) #[true, false, false, false, false] rfl ?_
        simp only [Act.put, List.setIfInBounds_toArray, List.set_cons_succ, List.set_cons_zero]
        refine anyC_take 2 41 (.agg (id.map cell).toArray) rfl rfl (by kernel_rfl) (by kernel_rfl) (by kernel_rfl) (stays_load rfl agg23 size23 (id.map cell) (by simp [hid]) (fun w' hw' => by exact hdwt.below hw' (hdwt.lt hid))) #[true, false, true, false, false] rfl ?_
        simp only [Act.put, List.setIfInBounds_toArray, List.set_cons_succ, List.set_cons_zero]
        refine anyC_only 1 rfl (by kernel_rfl) hC4 rfl #[true, true, true, false, false] rfl ?_
        refine wp_call 40 plain7 [.slice a ids.length cap] rfl (fun e w' => ∃ s, e = .returned (.pointer (some ⟨s, 0, none⟩)) ∧ SwarmAt w' s (ids) ∧ Below wt.drew.heap.size wt.drew w') (newSwarm_any ids hids a cap wt.drew (hiwt.below hC4 hids) hle) ?_
        rintro e waa ⟨s4, rfl, hs4, hl4a⟩
        refine ⟨_, rfl, ?_⟩
        simp only [Act.put, List.setIfInBounds_toArray, List.set_cons_succ, List.set_cons_zero]
        have hC4a := hC4.trans (hl4a.mono hC4.size)
        refine anyC_only 3 rfl (by kernel_rfl) hC4a rfl #[true, true, true, true, false] rfl ?_
        refine wp_call 42 plain6 [.pointer (some ⟨s4, 0, none⟩), .agg (id.map cell).toArray] rfl _ (provIndex_any (ids) hids id hid s4 waa hs4 hle) ?_
        rintro e wa ⟨rfl, hl4b⟩
        refine ⟨_, rfl, ?_⟩
        simp only [Act.put, List.setIfInBounds_toArray, List.set_cons_succ, List.set_cons_zero]
        have hC4b := hC4a.trans (hl4b.mono hC4a.size)
        refine anyC_take 4 8 (.int .i64 (idx (ids) id)) rfl rfl (by kernel_rfl) (by kernel_rfl) (by kernel_rfl) (stays_ok rfl fun _ _ => rfl) #[true, true, true, true, true] rfl ?_
        simp only [Act.put, List.setIfInBounds_toArray, List.set_cons_succ, List.set_cons_zero]
        refine anyC_done (by kernel_rfl) hC4b ?_
        have hiwa := hiwt.below hC4b hids
        have hdwa := hdwt.below hC4b (hdwt.lt hid)
        have hzwa := hzwt.trans (hC4b.mono hzwt.size)
        clear hC4 hC4a hl4a hl4b hs4 hC4b hiwt hdwt hzwt
        go_wp2_with fail
        have hC5 : Below wa.heap.size wa wa.drew := (Below.refl _ _).drew
        refine region_anyC (fun w' => Below wa.heap.size wa w') mixed ?_
        refine anyC_take 0 43 (.slice a ids.length cap) rfl rfl (by kernel_rfl) (by kernel_rfl) (by kernel_rfl) (stays_ok rfl fun _ _ => rfl) #[true, false, false, false, false, false, false] rfl ?_
        simp only [Act.put, List.setIfInBounds_toArray, List.set_cons_succ, List.set_cons_zero]
        refine anyC_take 1 44 (.int .i64 cut) rfl rfl (by kernel_rfl) (by kernel_rfl) (by kernel_rfl) (stays_ok rfl fun _ _ => rfl) #[true, true, false, false, false, false, false] rfl ?_
        simp only [Act.put, List.setIfInBounds_toArray, List.set_cons_succ, List.set_cons_zero]
        refine anyC_take 2 45 (.slice a cut cap) rfl rfl (by kernel_rfl) (by kernel_rfl) (by kernel_rfl) (stays_to a ids.length cap cut rfl rfl (by omega)) #[true, true, true, false, false, false, false] rfl ?_
        simp only [Act.put, List.setIfInBounds_toArray, List.set_cons_succ, List.set_cons_zero]
        refine anyC_take 4 47 (.agg (id.map cell).toArray) rfl rfl (by kernel_rfl) (by kernel_rfl) (by kernel_rfl) (stays_load rfl agg23 size23 (id.map cell) (by simp [hid]) (fun w' hw' => by exact hdwa.below hw' (hdwa.lt hid))) #[true, true, true, false, true, false, false] rfl ?_
        simp only [Act.put, List.setIfInBounds_toArray, List.set_cons_succ, List.set_cons_zero]
        refine anyC_only 3 rfl (by kernel_rfl) hC5 rfl #[true, true, true, true, true, false, false] rfl ?_
        refine wp_call 46 plain7 [.slice a cut cap] rfl (fun e w' => ∃ s, e = .returned (.pointer (some ⟨s, 0, none⟩)) ∧ SwarmAt w' s ((ids.take cut)) ∧ Below wa.drew.heap.size wa.drew w') (by have := newSwarm_any (ids.take cut) (fun x hx => hids x (List.mem_of_mem_take hx)) a cap wa.drew (idsIn_take (hiwa.below hC5 hids) cut) (by simp; omega); rw [show ((ids.take cut)).length = cut by simp <;> omega] at this; exact this) ?_
        rintro e wba ⟨s5, rfl, hs5, hl5a⟩
        refine ⟨_, rfl, ?_⟩
        simp only [Act.put, List.setIfInBounds_toArray, List.set_cons_succ, List.set_cons_zero]
        have hC5a := hC5.trans (hl5a.mono hC5.size)
        refine anyC_only 5 rfl (by kernel_rfl) hC5a rfl #[true, true, true, true, true, true, false] rfl ?_
        refine wp_call 48 plain6 [.pointer (some ⟨s5, 0, none⟩), .agg (id.map cell).toArray] rfl _ (provIndex_any ((ids.take cut)) (fun x hx => hids x (List.mem_of_mem_take hx)) id hid s5 wba hs5 (by simp; omega)) ?_
        rintro e wb ⟨rfl, hl5b⟩
        refine ⟨_, rfl, ?_⟩
        simp only [Act.put, List.setIfInBounds_toArray, List.set_cons_succ, List.set_cons_zero]
        have hC5b := hC5a.trans (hl5b.mono hC5a.size)
        refine anyC_take 6 9 (.int .i64 (idx ((ids.take cut)) id)) rfl rfl (by kernel_rfl) (by kernel_rfl) (by kernel_rfl) (stays_ok rfl fun _ _ => rfl) #[true, true, true, true, true, true, true] rfl ?_
        simp only [Act.put, List.setIfInBounds_toArray, List.set_cons_succ, List.set_cons_zero]
        refine anyC_done (by kernel_rfl) hC5b ?_
        have hiwb := hiwa.below hC5b hids
        have hdwb := hdwa.below hC5b (hdwa.lt hid)
        have hzwb := hzwa.trans (hC5b.mono hzwa.size)
        clear hC5 hC5a hl5a hl5b hs5 hC5b hiwa hdwa hzwa
        go_wp2_with fail
        obtain ⟨ao2, HAO⟩ : ∃ ao2 : Option Addr, Hid (ao2 = if cap = cut then a else (a : Option Addr).map (·.add (cut * 20))) := ⟨_, rfl⟩
        have hC6 : Below wb.heap.size wb wb.drew := (Below.refl _ _).drew
        refine region_anyC (fun w' => Below wb.heap.size wb w') mixed ?_
        refine anyC_take 0 49 (.slice a ids.length cap) rfl rfl (by kernel_rfl) (by kernel_rfl) (by kernel_rfl) (stays_ok rfl fun _ _ => rfl) #[true, false, false, false, false, false, false] rfl ?_
        simp only [Act.put, List.setIfInBounds_toArray, List.set_cons_succ, List.set_cons_zero]
        refine anyC_take 1 50 (.int .i64 cut) rfl rfl (by kernel_rfl) (by kernel_rfl) (by kernel_rfl) (stays_ok rfl fun _ _ => rfl) #[true, true, false, false, false, false, false] rfl ?_
        simp only [Act.put, List.setIfInBounds_toArray, List.set_cons_succ, List.set_cons_zero]
        refine anyC_take 2 51 (.slice ao2 (ids.length - cut) (cap - cut)) rfl rfl (by kernel_rfl) (by kernel_rfl) (by kernel_rfl) (stays_from a ids.length cap cut ao2 HAO rfl rfl (by omega)) #[true, true, true, false, false, false, false] rfl ?_
        simp only [Act.put, List.setIfInBounds_toArray, List.set_cons_succ, List.set_cons_zero]
        refine anyC_take 4 53 (.agg (id.map cell).toArray) rfl rfl (by kernel_rfl) (by kernel_rfl) (by kernel_rfl) (stays_load rfl agg23 size23 (id.map cell) (by simp [hid]) (fun w' hw' => by exact hdwb.below hw' (hdwb.lt hid))) #[true, true, true, false, true, false, false] rfl ?_
        simp only [Act.put, List.setIfInBounds_toArray, List.set_cons_succ, List.set_cons_zero]
        refine anyC_only 3 rfl (by kernel_rfl) hC6 rfl #[true, true, true, true, true, false, false] rfl ?_
        refine wp_call 52 plain7 [.slice ao2 (ids.length - cut) (cap - cut)] rfl (fun e w' => ∃ s, e = .returned (.pointer (some ⟨s, 0, none⟩)) ∧ SwarmAt w' s ((ids.drop cut)) ∧ Below wb.drew.heap.size wb.drew w') (by have := newSwarm_any (ids.drop cut) (fun x hx => hids x (List.mem_of_mem_drop hx)) ao2 (cap - cut) wb.drew (idsIn_drop (hiwb.below hC6 hids) cut cap hcapt ao2 HAO) (by simp; omega); rw [show ((ids.drop cut)).length = (ids.length - cut) by simp <;> omega] at this; exact this) ?_
        rintro e wca ⟨s6, rfl, hs6, hl6a⟩
        refine ⟨_, rfl, ?_⟩
        simp only [Act.put, List.setIfInBounds_toArray, List.set_cons_succ, List.set_cons_zero]
        have hC6a := hC6.trans (hl6a.mono hC6.size)
        refine anyC_only 5 rfl (by kernel_rfl) hC6a rfl #[true, true, true, true, true, true, false] rfl ?_
        refine wp_call 54 plain6 [.pointer (some ⟨s6, 0, none⟩), .agg (id.map cell).toArray] rfl _ (provIndex_any ((ids.drop cut)) (fun x hx => hids x (List.mem_of_mem_drop hx)) id hid s6 wca hs6 (by simp; omega)) ?_
        rintro e wc ⟨rfl, hl6b⟩
        refine ⟨_, rfl, ?_⟩
        simp only [Act.put, List.setIfInBounds_toArray, List.set_cons_succ, List.set_cons_zero]
        have hC6b := hC6a.trans (hl6b.mono hC6a.size)
        refine anyC_take 6 10 (.int .i64 (idx ((ids.drop cut)) id)) rfl rfl (by kernel_rfl) (by kernel_rfl) (by kernel_rfl) (stays_ok rfl fun _ _ => rfl) #[true, true, true, true, true, true, true] rfl ?_
        simp only [Act.put, List.setIfInBounds_toArray, List.set_cons_succ, List.set_cons_zero]
        refine anyC_done (by kernel_rfl) hC6b ?_
        have hiwc := hiwb.below hC6b hids
        have hdwc := hdwb.below hC6b (hdwb.lt hid)
        have hzwc := hzwb.trans (hC6b.mono hzwb.size)
        clear hC6 hC6a hl6a hl6b hs6 hC6b hiwb hdwb hzwb
        go_wp2_with fail
        have heq := eq23
        go_loopw [11, 12] (fun pr i wr => ∃ k : Nat, k ≤ ids.length ∧ i = .int .i64 k ∧ pr = .bool ((ids.take k).any (· == id)) ∧ ∃ n, wr = wc.drewN n) (fun _ i _ => ids.length - (intOf i).toNat)
        case atStart => exact ⟨0, Nat.zero_le _, rfl, rfl, 0, rfl⟩
        case round =>
          obtain ⟨k, hk, rfl, rfl, nw, rfl⟩ := hrel
          by_cases hlt : k < ids.length
          · exact absurd hlt (by have := HL0.out; omega)
          · have hke : k = ids.length := by omega
            have HPR : Hid ((ids.take k).any (· == id) = decide (0 ≤ idx ids id)) := by unfold Hid; rw [hke, List.take_length]; exact idx_present ids id
            have HCUT := hide (idx_cut ids id cut hcut)
            have b1 := idx_lt (ids.take cut) id
            have b2 := idx_lt (ids.drop cut) id
            have l1 : (ids.take cut).length = cut := by simp; omega
            have l2 : (ids.drop cut).length = ids.length - cut := by simp
            rw [l1] at b1; rw [l2] at b2; clear l1 l2
            have HN1 := hide (idx_names ids id)
            have HN2 := hide (idx_names (ids.take cut) id)
            have HN3 := hide (idx_names (ids.drop cut) id)
            generalize (ids.take k).any (· == id) = pr0 at *
            generalize hW : idx ids id = W at *
            generalize hL : idx (ids.take cut) id = L at *
            generalize hR : idx (ids.drop cut) id = R at *
            have HW := hide hW; have HL := hide hL; have HR := hide hR; clear hW hL hR hke
            obtain ⟨Z, hZ1, hZ2⟩ : ∃ Z : Int, W = Z ∧ Z = (if 0 ≤ L then L else if 0 ≤ R then (cut : Int) + R else -1) := ⟨_, HCUT.out, rfl⟩
            rcases (show (0 ≤ L) ∨ (¬ 0 ≤ L ∧ 0 ≤ R) ∨ (¬ 0 ≤ L ∧ ¬ 0 ≤ R) by omega) with c1 | ⟨c1, c2⟩ | ⟨c1, c2⟩
            all_goals
              first | rw [if_pos c1] at hZ2 | rw [if_neg c1, if_pos c2] at hZ2 | rw [if_neg c1, if_neg c2] at hZ2
              have HZ := hide (hZ1.trans hZ2)
              clear hZ1 hZ2 HCUT
              clear Z
              go_wp2_with fail
              have hC7 : Below (wc.drewN nw).heap.size (wc.drewN nw) (wc.drewN nw).drew := (Below.refl _ _).drew
              have hic : IdsIn (wc.drewN nw) a ids := hiwc
              have hdc : IdIn (wc.drewN nw) w.heap.size id := hdwc
              refine region_quietC (fun w' => Below (wc.drewN nw).heap.size (wc.drewN nw) w') mixed (by kernel_rfl) hC7 ?_
              refine wq_v 75 (.slice a ids.length cap) rfl (fun _ _ => rfl) ?_
              simp only [Act.put, List.setIfInBounds_toArray, List.set_cons_succ, List.set_cons_zero]
              refine wq_v 76 (.int .i64 W) rfl (fun _ _ => rfl) ?_
              simp only [Act.put, List.setIfInBounds_toArray, List.set_cons_succ, List.set_cons_zero]
              refine wq_v 77 (.agg (id.map cell).toArray) rfl (fun w' hw' => exec_load rfl hid (hdc.below hw' (hdc.lt hid))) ?_
              simp only [Act.put, List.setIfInBounds_toArray, List.set_cons_succ, List.set_cons_zero]
              refine wq_call 78 (.bool true) rfl plain8 [.slice a ids.length cap, .int .i64 W, .agg (id.map cell).toArray] rfl (fun w' hw' => (names_any ids hids id hid a cap W w' (hic.below hw' hids) hle (HW.out ▸ HN1.out)).mono fun e w'' hh => ⟨hh.1, hw'.trans (hh.2.mono hw'.size)⟩) ?_
              simp only [Act.put, List.setIfInBounds_toArray, List.set_cons_succ, List.set_cons_zero]
              refine wq_v 79 (.bool true) rfl (fun _ _ => rfl) ?_
              simp only [Act.put, List.setIfInBounds_toArray, List.set_cons_succ, List.set_cons_zero]
              refine wq_v 80 (.slice a ids.length cap) rfl (fun _ _ => rfl) ?_
              simp only [Act.put, List.setIfInBounds_toArray, List.set_cons_succ, List.set_cons_zero]
              refine wq_v 81 (.int .i64 cut) rfl (fun _ _ => rfl) ?_
              simp only [Act.put, List.setIfInBounds_toArray, List.set_cons_succ, List.set_cons_zero]
              refine wq_v 82 (.slice a cut cap) rfl (fun w' _ => exec_to a ids.length cap cut rfl rfl (by omega) w') ?_
              simp only [Act.put, List.setIfInBounds_toArray, List.set_cons_succ, List.set_cons_zero]
              refine wq_v 83 (.int .i64 L) rfl (fun _ _ => rfl) ?_
              simp only [Act.put, List.setIfInBounds_toArray, List.set_cons_succ, List.set_cons_zero]
              refine wq_v 84 (.agg (id.map cell).toArray) rfl (fun w' hw' => exec_load rfl hid (hdc.below hw' (hdc.lt hid))) ?_
              simp only [Act.put, List.setIfInBounds_toArray, List.set_cons_succ, List.set_cons_zero]
              refine wq_call 85 (.bool true) rfl plain8 [.slice a cut cap, .int .i64 L, .agg (id.map cell).toArray] rfl (fun w' hw' => by have := names_any (ids.take cut) (fun x hx => hids x (List.mem_of_mem_take hx)) id hid a cap L w' (idsIn_take (hic.below hw' hids) cut) (by simp; omega) (HL.out ▸ HN2.out); rw [show ((ids.take cut)).length = cut by simp <;> omega] at this; exact this.mono fun e w'' hh => ⟨hh.1, hw'.trans (hh.2.mono hw'.size)⟩) ?_
              simp only [Act.put, List.setIfInBounds_toArray, List.set_cons_succ, List.set_cons_zero]
              refine wq_v 86 (.bool true) rfl (fun _ _ => rfl) ?_
              simp only [Act.put, List.setIfInBounds_toArray, List.set_cons_succ, List.set_cons_zero]
              refine wq_v 87 (.bool true) rfl (fun _ _ => rfl) ?_
              simp only [Act.put, List.setIfInBounds_toArray, List.set_cons_succ, List.set_cons_zero]
              refine wq_v 88 (.slice a ids.length cap) rfl (fun _ _ => rfl) ?_
              simp only [Act.put, List.setIfInBounds_toArray, List.set_cons_succ, List.set_cons_zero]
              refine wq_v 89 (.int .i64 cut) rfl (fun _ _ => rfl) ?_
              simp only [Act.put, List.setIfInBounds_toArray, List.set_cons_succ, List.set_cons_zero]
              refine wq_v 90 (.slice ao2 (ids.length - cut) (cap - cut)) rfl (fun w' _ => exec_from a ids.length cap cut ao2 HAO rfl rfl (by omega) w') ?_
              simp only [Act.put, List.setIfInBounds_toArray, List.set_cons_succ, List.set_cons_zero]
              refine wq_v 91 (.int .i64 R) rfl (fun _ _ => rfl) ?_
              simp only [Act.put, List.setIfInBounds_toArray, List.set_cons_succ, List.set_cons_zero]
              refine wq_v 92 (.agg (id.map cell).toArray) rfl (fun w' hw' => exec_load rfl hid (hdc.below hw' (hdc.lt hid))) ?_
              simp only [Act.put, List.setIfInBounds_toArray, List.set_cons_succ, List.set_cons_zero]
              refine wq_call 93 (.bool true) rfl plain8 [.slice ao2 (ids.length - cut) (cap - cut), .int .i64 R, .agg (id.map cell).toArray] rfl (fun w' hw' => by have := names_any (ids.drop cut) (fun x hx => hids x (List.mem_of_mem_drop hx)) id hid ao2 (cap - cut) R w' (idsIn_drop (hic.below hw' hids) cut cap hcapt ao2 HAO) (by simp; omega) (HR.out ▸ HN3.out); rw [show ((ids.drop cut)).length = (ids.length - cut) by simp <;> omega] at this; exact this.mono fun e w'' hh => ⟨hh.1, hw'.trans (hh.2.mono hw'.size)⟩) ?_
              simp only [Act.put, List.setIfInBounds_toArray, List.set_cons_succ, List.set_cons_zero]
              refine wq_v 94 (.bool true) rfl (fun _ _ => rfl) ?_
              simp only [Act.put, List.setIfInBounds_toArray, List.set_cons_succ, List.set_cons_zero]
              refine wq_v 95 (.bool true) rfl (fun _ _ => rfl) ?_
              simp only [Act.put, List.setIfInBounds_toArray, List.set_cons_succ, List.set_cons_zero]
              refine wq_v 96 (.int .i64 W) rfl (fun _ _ => rfl) ?_
              simp only [Act.put, List.setIfInBounds_toArray, List.set_cons_succ, List.set_cons_zero]
              refine wq_v 97 _ rfl (fun _ _ => rfl) ?_
              simp only [Act.put, List.setIfInBounds_toArray, List.set_cons_succ, List.set_cons_zero]
              refine wq_v 98 (.bool true) rfl (fun w' _ => exec_eqi rfl rfl HZ.out w') ?_
              simp only [Act.put, List.setIfInBounds_toArray, List.set_cons_succ, List.set_cons_zero]
              refine wq_v 99 (.bool true) rfl (fun _ _ => rfl) ?_
              simp only [Act.put, List.setIfInBounds_toArray, List.set_cons_succ, List.set_cons_zero]
              refine wq_v 100 (.bool true) rfl (fun _ _ => rfl) ?_
              simp only [Act.put, List.setIfInBounds_toArray, List.set_cons_succ, List.set_cons_zero]
              refine wq_v 101 (.bool pr0) rfl (fun _ _ => rfl) ?_
              simp only [Act.put, List.setIfInBounds_toArray, List.set_cons_succ, List.set_cons_zero]
              refine wq_v 102 (.int .i64 W) rfl (fun _ _ => rfl) ?_
              simp only [Act.put, List.setIfInBounds_toArray, List.set_cons_succ, List.set_cons_zero]
              refine wq_v 103 (.bool (decide (0 ≤ W))) rfl (fun w' _ => exec_geq0 rfl w') ?_
              simp only [Act.put, List.setIfInBounds_toArray, List.set_cons_succ, List.set_cons_zero]
              refine wq_v 104 (.bool true) rfl (fun w' _ => exec_eqb rfl rfl (by simp [HPR.out]) w') ?_
              simp only [Act.put, List.setIfInBounds_toArray, List.set_cons_succ, List.set_cons_zero]
              refine wq_v 105 (.bool true) rfl (fun _ _ => rfl) ?_
              simp only [Act.put, List.setIfInBounds_toArray, List.set_cons_succ, List.set_cons_zero]
              refine wq_v 6 (.bool true) rfl (fun _ _ => rfl) ?_
              simp only [Act.put, List.setIfInBounds_toArray, List.set_cons_succ, List.set_cons_zero]
              refine wpQuiet_nil ?_
              intro w' hw'
              go_wp2
              go_ret
              have hzc : Below w.heap.size w (wc.drewN nw) := hzwc.trans ⟨rfl, rfl, rfl, Nat.le_refl _, fun _ _ => rfl⟩
              exact good_of_below (hzc.trans (hw'.mono hzc.size))
    · have HC := hide hcs
      clear hcs
      go_enter Try.func3, Try.ntmps3
      go_wp2_with (first
        | ((with_reducible refine gd_load 23 (.tmp 5) ?_); refine wpl_load rfl agg23 size23 (id.map cell) (by simp [hid]) (by exact hd0) ?_)
        | (go_at_call 5; refine (bytes5_any _ _ _ _ _ _ hm).mono ?_; rintro e w1 ⟨⟨bb, rfl⟩, hl1⟩; have hl01 := hb0.trans (hl1.mono hb0.size); have hd1 := hd0.below hl1 (hd0.lt hid); have hB1 := hl01.size)
        | (at_make; refine wpList_make_full _ rfl _ _ 22 rfl w1.heap.size 23 i0 _ 20 Try.underlying22 hi hz0 hz1 _ _ _ _ ids.length rfl rfl rfl rfl (by rw [hz2]; omega) (by unfold maxLen; omega) (by exact Nat.le_refl _) ?_; intro w2 hown hgrow; have hb2 := made23 hown; have hl2 : Below w1.heap.size w1 w2 := (Below.refl _ _).grown hgrow (Nat.le_refl _) (fun k hk => by cases hk); clear hown hgrow)
        | ((with_reducible refine gd_copy ?_); refine wpl_copy rfl rfl Try.underlying22 size23 _ (ids.flatMap idc) hb2 (flat23_length ids hids) (made23_length _) (came_below HC.out (hl01.trans (hl2.mono hB1))) (idc_one ids) ?_; intro wt hb3 hg3; have hl3 : Below w1.heap.size w1 wt := hl2.grown hg3 hl2.size (fun k hk => by cases hk; exact Nat.le_refl _); have hiwt := idsIn_mk hids hb3; have hdwt := hd1.below hl3 (hd1.lt hid); have hzwt := hl01.trans (hl3.mono hB1); clear hg3 hb2 hl2 hl3))
      · go_ret
        exact ⟨rfl, hl01⟩
      · have hcapt : ids.length ≤ ids.length := Nat.le_refl _
        clear hb3 hd1 hl1 hl01 hd0 hb0
        have hC4 : Below wt.heap.size wt wt.drew := (Below.refl _ _).drew
        refine region_anyC (fun w' => Below wt.heap.size wt w') mixed ?_
        refine anyC_take 0 39 (.slice (some ⟨w1.heap.size, 0, none⟩) ids.length ids.length) rfl rfl (by kernel_rfl) (by kernel_rfl) (by kernel_rfl) (stays_ok rfl fun _ _ => rfl) #[true, false, false, false, false] rfl ?_
        simp only [Act.put, List.setIfInBounds_toArray, List.set_cons_succ, List.set_cons_zero]
        refine anyC_take 2 41 (.agg (id.map cell).toArray) rfl rfl (by kernel_rfl) (by kernel_rfl) (by kernel_rfl) (stays_load rfl agg23 size23 (id.map cell) (by simp [hid]) (fun w' hw' => by exact hdwt.below hw' (hdwt.lt hid))) #[true, false, true, false, false] rfl ?_
        simp only [Act.put, List.setIfInBounds_toArray, List.set_cons_succ, List.set_cons_zero]
        refine anyC_only 1 rfl (by kernel_rfl) hC4 rfl #[true, true, true, false, false] rfl ?_
        refine wp_call 40 plain7 [.slice (some ⟨w1.heap.size, 0, none⟩) ids.length ids.length] rfl (fun e w' => ∃ s, e = .returned (.pointer (some ⟨s, 0, none⟩)) ∧ SwarmAt w' s (ids) ∧ Below wt.drew.heap.size wt.drew w') (newSwarm_any ids hids (some ⟨w1.heap.size, 0, none⟩) ids.length wt.drew (hiwt.below hC4 hids) hle) ?_
        rintro e waa ⟨s4, rfl, hs4, hl4a⟩
        refine ⟨_, rfl, ?_⟩
        simp only [Act.put, List.setIfInBounds_toArray, List.set_cons_succ, List.set_cons_zero]
        have hC4a := hC4.trans (hl4a.mono hC4.size)
        refine anyC_only 3 rfl (by kernel_rfl) hC4a rfl #[true, true, true, true, false] rfl ?_
        refine wp_call 42 plain6 [.pointer (some ⟨s4, 0, none⟩), .agg (id.map cell).toArray] rfl _ (provIndex_any (ids) hids id hid s4 waa hs4 hle) ?_
        rintro e wa ⟨rfl, hl4b⟩
        refine ⟨_, rfl, ?_⟩
        simp only [Act.put, List.setIfInBounds_toArray, List.set_cons_succ, List.set_cons_zero]
        have hC4b := hC4a.trans (hl4b.mono hC4a.size)
        refine anyC_take 4 8 (.int .i64 (idx (ids) id)) rfl rfl (by kernel_rfl) (by kernel_rfl) (by kernel_rfl) (stays_ok rfl fun _ _ => rfl) #[true, true, true, true, true] rfl ?_
        simp only [Act.put, List.setIfInBounds_toArray, List.set_cons_succ, List.set_cons_zero]
        refine anyC_done (by kernel_rfl) hC4b ?_
        have hiwa := hiwt.below hC4b hids
        have hdwa := hdwt.below hC4b (hdwt.lt hid)
        have hzwa := hzwt.trans (hC4b.mono hzwt.size)
        clear hC4 hC4a hl4a hl4b hs4 hC4b hiwt hdwt hzwt
        go_wp2_with fail
        have hC5 : Below wa.heap.size wa wa.drew := (Below.refl _ _).drew
        refine region_anyC (fun w' => Below wa.heap.size wa w') mixed ?_
        refine anyC_take 0 43 (.slice (some ⟨w1.heap.size, 0, none⟩) ids.length ids.length) rfl rfl (by kernel_rfl) (by kernel_rfl) (by kernel_rfl) (stays_ok rfl fun _ _ => rfl) #[true, false, false, false, false, false, false] rfl ?_
        simp only [Act.put, List.setIfInBounds_toArray, List.set_cons_succ, List.set_cons_zero]
        refine anyC_take 1 44 (.int .i64 cut) rfl rfl (by kernel_rfl) (by kernel_rfl) (by kernel_rfl) (stays_ok rfl fun _ _ => rfl) #[true, true, false, false, false, false, false] rfl ?_
        simp only [Act.put, List.setIfInBounds_toArray, List.set_cons_succ, List.set_cons_zero]
        refine anyC_take 2 45 (.slice (some ⟨w1.heap.size, 0, none⟩) cut ids.length) rfl rfl (by kernel_rfl) (by kernel_rfl) (by kernel_rfl) (stays_to (some ⟨w1.heap.size, 0, none⟩) ids.length ids.length cut rfl rfl (by omega)) #[true, true, true, false, false, false, false] rfl ?_
        simp only [Act.put, List.setIfInBounds_toArray, List.set_cons_succ, List.set_cons_zero]
        refine anyC_take 4 47 (.agg (id.map cell).toArray) rfl rfl (by kernel_rfl) (by kernel_rfl) (by kernel_rfl) (stays_load rfl agg23 size23 (id.map cell) (by simp [hid]) (fun w' hw' => by exact hdwa.below hw' (hdwa.lt hid))) #[true, true, true, false, true, false, false] rfl ?_
        simp only [Act.put, List.setIfInBounds_toArray, List.set_cons_succ, List.set_cons_zero]
        refine anyC_only 3 rfl (by kernel_rfl) hC5 rfl #[true, true, true, true, true, false, false] rfl ?_
        refine wp_call 46 plain7 [.slice (some ⟨w1.heap.size, 0, none⟩) cut ids.length] rfl (fun e w' => ∃ s, e = .returned (.pointer (some ⟨s, 0, none⟩)) ∧ SwarmAt w' s ((ids.take cut)) ∧ Below wa.drew.heap.size wa.drew w') (by have := newSwarm_any (ids.take cut) (fun x hx => hids x (List.mem_of_mem_take hx)) (some ⟨w1.heap.size, 0, none⟩) ids.length wa.drew (idsIn_take (hiwa.below hC5 hids) cut) (by simp; omega); rw [show ((ids.take cut)).length = cut by simp <;> omega] at this; exact this) ?_
        rintro e wba ⟨s5, rfl, hs5, hl5a⟩
        refine ⟨_, rfl, ?_⟩
        simp only [Act.put, List.setIfInBounds_toArray, List.set_cons_succ, List.set_cons_zero]
        have hC5a := hC5.trans (hl5a.mono hC5.size)
        refine anyC_only 5 rfl (by kernel_rfl) hC5a rfl #[true, true, true, true, true, true, false] rfl ?_
        refine wp_call 48 plain6 [.pointer (some ⟨s5, 0, none⟩), .agg (id.map cell).toArray] rfl _ (provIndex_any ((ids.take cut)) (fun x hx => hids x (List.mem_of_mem_take hx)) id hid s5 wba hs5 (by simp; omega)) ?_
        rintro e wb ⟨rfl, hl5b⟩
        refine ⟨_, rfl, ?_⟩
        simp only [Act.put, List.setIfInBounds_toArray, List.set_cons_succ, List.set_cons_zero]
        have hC5b := hC5a.trans (hl5b.mono hC5a.size)
        refine anyC_take 6 9 (.int .i64 (idx ((ids.take cut)) id)) rfl rfl (by kernel_rfl) (by kernel_rfl) (by kernel_rfl) (stays_ok rfl fun _ _ => rfl) #[true, true, true, true, true, true, true] rfl ?_
        simp only [Act.put, List.setIfInBounds_toArray, List.set_cons_succ, List.set_cons_zero]
        refine anyC_done (by kernel_rfl) hC5b ?_
        have hiwb := hiwa.below hC5b hids
        have hdwb := hdwa.below hC5b (hdwa.lt hid)
        have hzwb := hzwa.trans (hC5b.mono hzwa.size)
        clear hC5 hC5a hl5a hl5b hs5 hC5b hiwa hdwa hzwa
        go_wp2_with fail
        obtain ⟨ao2, HAO⟩ : ∃ ao2 : Option Addr, Hid (ao2 = if ids.length = cut then (some ⟨w1.heap.size, 0, none⟩) else ((some ⟨w1.heap.size, 0, none⟩) : Option Addr).map (·.add (cut * 20))) := ⟨_, rfl⟩
        have hC6 : Below wb.heap.size wb wb.drew := (Below.refl _ _).drew
        refine region_anyC (fun w' => Below wb.heap.size wb w') mixed ?_
        refine anyC_take 0 49 (.slice (some ⟨w1.heap.size, 0, none⟩) ids.length ids.length) rfl rfl (by kernel_rfl) (by kernel_rfl) (by kernel_rfl) (stays_ok rfl fun _ _ => rfl) #[true, false, false, false, false, false, false] rfl ?_
        simp only [Act.put, List.setIfInBounds_toArray, List.set_cons_succ, List.set_cons_zero]
        refine anyC_take 1 50 (.int .i64 cut) rfl rfl (by kernel_rfl) (by kernel_rfl) (by kernel_rfl) (stays_ok rfl fun _ _ => rfl) #[true, true, false, false, false, false, false] rfl ?_
        simp only [Act.put, List.setIfInBounds_toArray, List.set_cons_succ, List.set_cons_zero]
        refine anyC_take 2 51 (.slice ao2 (ids.length - cut) (ids.length - cut)) rfl rfl (by kernel_rfl) (by kernel_rfl) (by kernel_rfl) (stays_from (some ⟨w1.heap.size, 0, none⟩) ids.length ids.length cut ao2 HAO rfl rfl (by omega)) #[true, true, true, false, false, false, false] rfl ?_
        simp only [Act.put, List.setIfInBounds_toArray, List.set_cons_succ, List.set_cons_zero]
        refine anyC_take 4 53 (.agg (id.map cell).toArray) rfl rfl (by kernel_rfl) (by kernel_rfl) (by kernel_rfl) (stays_load rfl agg23 size23 (id.map cell) (by simp [hid]) (fun w' hw' => by exact hdwb.below hw' (hdwb.lt hid))) #[true, true, true, false, true, false, false] rfl ?_
        simp only [Act.put, List.setIfInBounds_toArray, List.set_cons_succ, List.set_cons_zero]
        refine anyC_only 3 rfl (by kernel_rfl) hC6 rfl #[true, true, true, true, true, false, false] rfl ?_
        refine wp_call 52 plain7 [.slice ao2 (ids.length - cut) (ids.length - cut)] rfl (fun e w' => ∃ s, e = .returned (.pointer (some ⟨s, 0, none⟩)) ∧ SwarmAt w' s ((ids.drop cut)) ∧ Below wb.drew.heap.size wb.drew w') (by have := newSwarm_any (ids.drop cut) (fun x hx => hids x (List.mem_of_mem_drop hx)) ao2 (ids.length - cut) wb.drew (idsIn_drop (hiwb.below hC6 hids) cut ids.length hcapt ao2 HAO) (by simp; omega); rw [show ((ids.drop cut)).length = (ids.length - cut) by simp <;> omega] at this; exact this) ?_
        rintro e wca ⟨s6, rfl, hs6, hl6a⟩
        refine ⟨_, rfl, ?_⟩
        simp only [Act.put, List.setIfInBounds_toArray, List.set_cons_succ, List.set_cons_zero]
        have hC6a := hC6.trans (hl6a.mono hC6.size)
        refine anyC_only 5 rfl (by kernel_rfl) hC6a rfl #[true, true, true, true, true, true, false] rfl ?_
        refine wp_call 54 plain6 [.pointer (some ⟨s6, 0, none⟩), .agg (id.map cell).toArray] rfl _ (provIndex_any ((ids.drop cut)) (fun x hx => hids x (List.mem_of_mem_drop hx)) id hid s6 wca hs6 (by simp; omega)) ?_
        rintro e wc ⟨rfl, hl6b⟩
        refine ⟨_, rfl, ?_⟩
        simp only [Act.put, List.setIfInBounds_toArray, List.set_cons_succ, List.set_cons_zero]
        have hC6b := hC6a.trans (hl6b.mono hC6a.size)
        refine anyC_take 6 10 (.int .i64 (idx ((ids.drop cut)) id)) rfl rfl (by kernel_rfl) (by kernel_rfl) (by kernel_rfl) (stays_ok rfl fun _ _ => rfl) #[true, true, true, true, true, true, true] rfl ?_
        simp only [Act.put, List.setIfInBounds_toArray, List.set_cons_succ, List.set_cons_zero]
        refine anyC_done (by kernel_rfl) hC6b ?_
        have hiwc := hiwb.below hC6b hids
        have hdwc := hdwb.below hC6b (hdwb.lt hid)
        have hzwc := hzwb.trans (hC6b.mono hzwb.size)
        clear hC6 hC6a hl6a hl6b hs6 hC6b hiwb hdwb hzwb
        go_wp2_with fail
        have heq := eq23
        go_loopw [11, 12] (fun pr i wr => ∃ k : Nat, k ≤ ids.length ∧ i = .int .i64 k ∧ pr = .bool ((ids.take k).any (· == id)) ∧ ∃ n, wr = wc.drewN n) (fun _ i _ => ids.length - (intOf i).toNat)
        case atStart => exact ⟨0, Nat.zero_le _, rfl, rfl, 0, rfl⟩
        case round =>
          obtain ⟨k, hk, rfl, rfl, nw, rfl⟩ := hrel
          by_cases hlt : k < ids.length
          · obtain ⟨b, o, hAT, hcs⟩ := hiwc k hlt
            have hkl : (ids[k]).length = 20 := hids _ (List.getElem_mem hlt)
            cases hAT
            have H1 := hide (fun (j : Nat) (v : Value) (hv : (ids[k].map cell)[j]? = some v) => hcs j v hv)
            clear hcs
            have HP := hide (any_take_succ ids id k hlt)
            generalize (ids.take k).any (· == id) = pr0 at *
            cases hke : (ids[k] == id)
            all_goals
              go_wp2_with fail
              refine wp_region_quiet_lit (by kernel_rfl) (by kernel_rfl) ?_
              repeat (first
                | ((with_reducible refine gq_load 23 (.tmp 63) ?_); refine wq_load rfl agg23 size23 (ids[k].map cell) (by simp [hkl]) (fun w ⟨n, hn⟩ => by subst hn; simpa using H1.out) ?_)
                | ((with_reducible refine gq_load 23 (.tmp 5) ?_); refine wq_load rfl agg23 size23 (id.map cell) (by simp [hid]) (fun w ⟨n, hn⟩ => by subst hn; exact hdwc) ?_)
                | quiet_step (fail))
              refine wpQuiet_nil ?_
              rintro _ ⟨nq, rfl⟩
              go_wp2
              go_roundw
              case rel => exact ⟨k + 1, by omega, by go_num, by rw [HP.out, hke]; simp, nw + nq, rfl⟩
              case measure => simp [intOf]; omega
          · have hke : k = ids.length := by omega
            have HPR : Hid ((ids.take k).any (· == id) = decide (0 ≤ idx ids id)) := by unfold Hid; rw [hke, List.take_length]; exact idx_present ids id
            have HCUT := hide (idx_cut ids id cut hcut)
            have b1 := idx_lt (ids.take cut) id
            have b2 := idx_lt (ids.drop cut) id
            have l1 : (ids.take cut).length = cut := by simp; omega
            have l2 : (ids.drop cut).length = ids.length - cut := by simp
            rw [l1] at b1; rw [l2] at b2; clear l1 l2
            have HN1 := hide (idx_names ids id)
            have HN2 := hide (idx_names (ids.take cut) id)
            have HN3 := hide (idx_names (ids.drop cut) id)
            generalize (ids.take k).any (· == id) = pr0 at *
            generalize hW : idx ids id = W at *
            generalize hL : idx (ids.take cut) id = L at *
            generalize hR : idx (ids.drop cut) id = R at *
            have HW := hide hW; have HL := hide hL; have HR := hide hR; clear hW hL hR hke
            obtain ⟨Z, hZ1, hZ2⟩ : ∃ Z : Int, W = Z ∧ Z = (if 0 ≤ L then L else if 0 ≤ R then (cut : Int) + R else -1) := ⟨_, HCUT.out, rfl⟩
            rcases (show (0 ≤ L) ∨ (¬ 0 ≤ L ∧ 0 ≤ R) ∨ (¬ 0 ≤ L ∧ ¬ 0 ≤ R) by omega) with c1 | ⟨c1, c2⟩ | ⟨c1, c2⟩
            all_goals
              first | rw [if_pos c1] at hZ2 | rw [if_neg c1, if_pos c2] at hZ2 | rw [if_neg c1, if_neg c2] at hZ2
              have HZ := hide (hZ1.trans hZ2)
              clear hZ1 hZ2 HCUT
              clear Z
              go_wp2_with fail
              have hC7 : Below (wc.drewN nw).heap.size (wc.drewN nw) (wc.drewN nw).drew := (Below.refl _ _).drew
              have hic : IdsIn (wc.drewN nw) (some ⟨w1.heap.size, 0, none⟩) ids := hiwc
              have hdc : IdIn (wc.drewN nw) w.heap.size id := hdwc
              refine region_quietC (fun w' => Below (wc.drewN nw).heap.size (wc.drewN nw) w') mixed (by kernel_rfl) hC7 ?_
              refine wq_v 75 (.slice (some ⟨w1.heap.size, 0, none⟩) ids.length ids.length) rfl (fun _ _ => rfl) ?_
              simp only [Act.put, List.setIfInBounds_toArray, List.set_cons_succ, List.set_cons_zero]
              refine wq_v 76 (.int .i64 W) rfl (fun _ _ => rfl) ?_
              simp only [Act.put, List.setIfInBounds_toArray, List.set_cons_succ, List.set_cons_zero]
              refine wq_v 77 (.agg (id.map cell).toArray) rfl (fun w' hw' => exec_load rfl hid (hdc.below hw' (hdc.lt hid))) ?_
              simp only [Act.put, List.setIfInBounds_toArray, List.set_cons_succ, List.set_cons_zero]
              refine wq_call 78 (.bool true) rfl plain8 [.slice (some ⟨w1.heap.size, 0, none⟩) ids.length ids.length, .int .i64 W, .agg (id.map cell).toArray] rfl (fun w' hw' => (names_any ids hids id hid (some ⟨w1.heap.size, 0, none⟩) ids.length W w' (hic.below hw' hids) hle (HW.out ▸ HN1.out)).mono fun e w'' hh => ⟨hh.1, hw'.trans (hh.2.mono hw'.size)⟩) ?_
              simp only [Act.put, List.setIfInBounds_toArray, List.set_cons_succ, List.set_cons_zero]
              refine wq_v 79 (.bool true) rfl (fun _ _ => rfl) ?_
              simp only [Act.put, List.setIfInBounds_toArray, List.set_cons_succ, List.set_cons_zero]
              refine wq_v 80 (.slice (some ⟨w1.heap.size, 0, none⟩) ids.length ids.length) rfl (fun _ _ => rfl) ?_
              simp only [Act.put, List.setIfInBounds_toArray, List.set_cons_succ, List.set_cons_zero]
              refine wq_v 81 (.int .i64 cut) rfl (fun _ _ => rfl) ?_
              simp only [Act.put, List.setIfInBounds_toArray, List.set_cons_succ, List.set_cons_zero]
              refine wq_v 82 (.slice (some ⟨w1.heap.size, 0, none⟩) cut ids.length) rfl (fun w' _ => exec_to (some ⟨w1.heap.size, 0, none⟩) ids.length ids.length cut rfl rfl (by omega) w') ?_
              simp only [Act.put, List.setIfInBounds_toArray, List.set_cons_succ, List.set_cons_zero]
              refine wq_v 83 (.int .i64 L) rfl (fun _ _ => rfl) ?_
              simp only [Act.put, List.setIfInBounds_toArray, List.set_cons_succ, List.set_cons_zero]
              refine wq_v 84 (.agg (id.map cell).toArray) rfl (fun w' hw' => exec_load rfl hid (hdc.below hw' (hdc.lt hid))) ?_
              simp only [Act.put, List.setIfInBounds_toArray, List.set_cons_succ, List.set_cons_zero]
              refine wq_call 85 (.bool true) rfl plain8 [.slice (some ⟨w1.heap.size, 0, none⟩) cut ids.length, .int .i64 L, .agg (id.map cell).toArray] rfl (fun w' hw' => by have := names_any (ids.take cut) (fun x hx => hids x (List.mem_of_mem_take hx)) id hid (some ⟨w1.heap.size, 0, none⟩) ids.length L w' (idsIn_take (hic.below hw' hids) cut) (by simp; omega) (HL.out ▸ HN2.out); rw [show ((ids.take cut)).length = cut by simp <;> omega] at this; exact this.mono fun e w'' hh => ⟨hh.1, hw'.trans (hh.2.mono hw'.size)⟩) ?_
              simp only [Act.put, List.setIfInBounds_toArray, List.set_cons_succ, List.set_cons_zero]
              refine wq_v 86 (.bool true) rfl (fun _ _ => rfl) ?_
              simp only [Act.put, List.setIfInBounds_toArray, List.set_cons_succ, List.set_cons_zero]
              refine wq_v 87 (.bool true) rfl (fun _ _ => rfl) ?_
              simp only [Act.put, List.setIfInBounds_toArray, List.set_cons_succ, List.set_cons_zero]
              refine wq_v 88 (.slice (some ⟨w1.heap.size, 0, none⟩) ids.length ids.length) rfl (fun _ _ => rfl) ?_
              simp only [Act.put, List.setIfInBounds_toArray, List.set_cons_succ, List.set_cons_zero]
              refine wq_v 89 (.int .i64 cut) rfl (fun _ _ => rfl) ?_
              simp only [Act.put, List.setIfInBounds_toArray, List.set_cons_succ, List.set_cons_zero]
              refine wq_v 90 (.slice ao2 (ids.length - cut) (ids.length - cut)) rfl (fun w' _ => exec_from (some ⟨w1.heap.size, 0, none⟩) ids.length ids.length cut ao2 HAO rfl rfl (by omega) w') ?_
              simp only [Act.put, List.setIfInBounds_toArray, List.set_cons_succ, List.set_cons_zero]
              refine wq_v 91 (.int .i64 R) rfl (fun _ _ => rfl) ?_
              simp only [Act.put, List.setIfInBounds_toArray, List.set_cons_succ, List.set_cons_zero]
              refine wq_v 92 (.agg (id.map cell).toArray) rfl (fun w' hw' => exec_load rfl hid (hdc.below hw' (hdc.lt hid))) ?_
              simp only [Act.put, List.setIfInBounds_toArray, List.set_cons_succ, List.set_cons_zero]
              refine wq_call 93 (.bool true) rfl plain8 [.slice ao2 (ids.length - cut) (ids.length - cut), .int .i64 R, .agg (id.map cell).toArray] rfl (fun w' hw' => by have := names_any (ids.drop cut) (fun x hx => hids x (List.mem_of_mem_drop hx)) id hid ao2 (ids.length - cut) R w' (idsIn_drop (hic.below hw' hids) cut ids.length hcapt ao2 HAO) (by simp; omega) (HR.out ▸ HN3.out); rw [show ((ids.drop cut)).length = (ids.length - cut) by simp <;> omega] at this; exact this.mono fun e w'' hh => ⟨hh.1, hw'.trans (hh.2.mono hw'.size)⟩) ?_
              simp only [Act.put, List.setIfInBounds_toArray, List.set_cons_succ, List.set_cons_zero]
              refine wq_v 94 (.bool true) rfl (fun _ _ => rfl) ?_
              simp only [Act.put, List.setIfInBounds_toArray, List.set_cons_succ, List.set_cons_zero]
              refine wq_v 95 (.bool true) rfl (fun _ _ => rfl) ?_
              simp only [Act.put, List.setIfInBounds_toArray, List.set_cons_succ, List.set_cons_zero]
              refine wq_v 96 (.int .i64 W) rfl (fun _ _ => rfl) ?_
              simp only [Act.put, List.setIfInBounds_toArray, List.set_cons_succ, List.set_cons_zero]
              refine wq_v 97 _ rfl (fun _ _ => rfl) ?_
              simp only [Act.put, List.setIfInBounds_toArray, List.set_cons_succ, List.set_cons_zero]
              refine wq_v 98 (.bool true) rfl (fun w' _ => exec_eqi rfl rfl HZ.out w') ?_
              simp only [Act.put, List.setIfInBounds_toArray, List.set_cons_succ, List.set_cons_zero]
              refine wq_v 99 (.bool true) rfl (fun _ _ => rfl) ?_
              simp only [Act.put, List.setIfInBounds_toArray, List.set_cons_succ, List.set_cons_zero]
              refine wq_v 100 (.bool true) rfl (fun _ _ => rfl) ?_
              simp only [Act.put, List.setIfInBounds_toArray, List.set_cons_succ, List.set_cons_zero]
              refine wq_v 101 (.bool pr0) rfl (fun _ _ => rfl) ?_
              simp only [Act.put, List.setIfInBounds_toArray, List.set_cons_succ, List.set_cons_zero]
              refine wq_v 102 (.int .i64 W) rfl (fun _ _ => rfl) ?_
              simp only [Act.put, List.setIfInBounds_toArray, List.set_cons_succ, List.set_cons_zero]
              refine wq_v 103 (.bool (decide (0 ≤ W))) rfl (fun w' _ => exec_geq0 rfl w') ?_
              simp only [Act.put, List.setIfInBounds_toArray, List.set_cons_succ, List.set_cons_zero]
              refine wq_v 104 (.bool true) rfl (fun w' _ => exec_eqb rfl rfl (by simp [HPR.out]) w') ?_
              simp only [Act.put, List.setIfInBounds_toArray, List.set_cons_succ, List.set_cons_zero]
              refine wq_v 105 (.bool true) rfl (fun _ _ => rfl) ?_
              simp only [Act.put, List.setIfInBounds_toArray, List.set_cons_succ, List.set_cons_zero]
              refine wq_v 6 (.bool true) rfl (fun _ _ => rfl) ?_
              simp only [Act.put, List.setIfInBounds_toArray, List.set_cons_succ, List.set_cons_zero]
              refine wpQuiet_nil ?_
              intro w' hw'
              go_wp2
              go_ret
              have hzc : Below w.heap.size w (wc.drewN nw) := hzwc.trans ⟨rfl, rfl, rfl, Nat.le_refl _, fun _ _ => rfl⟩
              exact good_of_below (hzc.trans (hw'.mono hzc.size))
  · have hno : 32768 < ids.length ∨ (ids.length ≤ 32768 ∧ i < 0) ∨ (ids.length ≤ 32768 ∧ 0 ≤ i ∧ (ids.length : Int) < i) := by omega
    clear hgo
    rcases hno with h1 | ⟨h1, h2⟩ | ⟨h1, h2, h3⟩
    all_goals
      go_enter Try.func3, Try.ntmps3
      go_wp2_with (first
        | ((with_reducible refine gd_load 23 (.tmp 5) ?_); refine wpl_load rfl agg23 size23 (id.map cell) (by simp [hid]) (by exact hd0) ?_)
        | (go_at_call 5; refine (bytes5_any _ _ _ _ _ _ hm).mono ?_; rintro e w1 ⟨⟨bb, rfl⟩, hl1⟩))
      all_goals
        go_ret
        exact ⟨rfl, hb0.trans (hl1.mono hb0.size)⟩
end Go.Proofs.Qxb6612599a
