import Derived.Test.Qxb6609507aChk3
namespace Go.Proofs.Qxb6609507a
set_option linter.unusedVariables false
set_option linter.unusedSimpArgs false
open Go.ChangeShapes Go.WideShapes Go.ChangeAt Go.RowKit
set_option maxRecDepth 100000 in
set_option maxHeartbeats 4000000 in
/-- zzCheckForest (13). -/
theorem check_any (T : Topo) (tl : List Nat) (hT : T.Ok) (hTl : Tops T tl) (h1 : tl.length ≤ 65536) (linked : Bool) (fb lkb : Nat) (lv lk : Nat → Nat) (ra ua : Option Addr) (rc uc mB : Nat) (ad : Nat → Option Addr) (cp : Nat → Nat) (a : Option Addr) (cap : Nat) (w : World)
    (hin : TopsIn w a (tl.map (fun t : Nat => (t : Int)))) (hF : FR T tl linked fb lkb lv lk ra ua rc uc w) (hL : Lay3 T tl mB ad cp w) :
    Calls Try.prog 13 #[.pointer (some ⟨fb, 0, none⟩), .pointer (some ⟨mB, 0, none⟩), .slice a tl.length cap, .bool linked] w fun e w' => e = .returned (.bool true) ∧ Upd [] w w' := by
  replace hT := hide hT; replace hTl := hide hTl; replace hin := hide hin; replace hF := hide hF; replace hL := hide hL
  go_enter Try.func13, Try.ntmps13
  go_wp2_with (fail)
  go_loopw [9] (fun lv wi => ∃ l : Nat, l ≤ 5 ∧ lv = .int .i64 l ∧ Hid (Upd [] w wi)) (fun lv _ => 5 - (intOf lv).toNat)
  case atStart => exact ⟨0, by omega, rfl, Upd.refl _ _⟩
  case round =>
    obtain ⟨l, hl, rfl, hU⟩ := hrel
    by_cases hl5 : l < 5
    · have hFu := hF.out.upd hU.out
      have hLu := hL.out.upd hU.out
      have h36 := hide (sizeAt_d hl5 (hFu.size l hl5))
      have h29 := hide (fanout_d (show l < 6 by omega) (hFu.fan l (by omega)))
      have hc1 := hLu.sz l hl5
      have hc2 := hLu.fan l (by omega)
      have hb1 := hT.out.sz_le l
      have hb2 := hT.out.fan_le l
      replace hFu := hide hFu; replace hLu := hide hLu
      go_wp2_with (fail)
      go_big_quiet (first | (with_reducible exact h36.out _) | (with_reducible exact h29.out _))
      go_wp2_with (fail)
      go_roundw
      case rel => exact ⟨l + 1, by omega, by simp, hU.out.trans (Upd.drewN _ _ _)⟩
      case measure => simp [intOf]; omega
    · obtain rfl : l = 5 := by omega
      simp only [show ((5 : Nat) : Int) = 5 from rfl]
      clear hl hl5
      have h29 := fanout_any fb 5 wr _ (by omega) ((hF.out.upd hU.out).fan 5 (by omega))
      rw [show ((5 : Nat) : Int) = 5 from rfl, show T.fan 5 = 0 from rfl] at h29
      replace h29 := hide h29
      go_wp2_with (first
        | (go_at_call 29
           refine h29.out.mono ?_
           rintro e w1 ⟨rfl, hw⟩
           obtain rfl := hw.symm))
      clear h29
      go_loopw [10] (fun lv wi => ∃ l : Nat, l ≤ 5 ∧ lv = .int .i64 l ∧ Hid (Upd [] w wi)) (fun lv _ => 5 - (intOf lv).toNat)
      case atStart => exact ⟨0, by omega, rfl, hU⟩
      case round =>
        clear hU
        obtain ⟨l, hl, rfl, hU⟩ := hrel
        by_cases hl5 : l < 5
        · have hf0 := (hL.out.upd hU.out).f l hl5
          have hlv := hide ((hF.out.upd hU.out).levels l hl5)
          have hNl := Nof_le hTl.out l
          go_wp2_with (first
            | (go_at_call 26
               refine (levelLen_any fb l wr _ _ _ hl5 hlv.out).mono ?_
               rintro e w1 ⟨rfl, hw⟩
               obtain rfl := hw.symm))
          clear hf0 hlv
          obtain ⟨S, hSd⟩ : ∃ S, S = inJ T tl tl.length l := ⟨_, rfl⟩
          replace hSd := hide hSd
          go_loopw [12, 13] (fun cv iv wi => ∃ i : Nat, i ≤ Nof T tl l ∧ iv = .int .i64 i ∧ cv = .int .i64 (i - cntB S i : Nat) ∧ Hid (Upd [] w wi)) (fun _ iv _ => Nof T tl l - (intOf iv).toNat)
          case atStart => exact ⟨0, by omega, rfl, rfl, hU⟩
          case round =>
            clear hU
            obtain ⟨i, hi, rfl, rfl, hU⟩ := hrel
            have hcb := cntB_le S i
            by_cases hil : i < Nof T tl l
            · have hFu := hF.out.upd hU.out
              have hlv := hide (hFu.levels l hl5)
              have h37 := hide (cell37_any (lv l) (i * 6) _ _ _ _ _ _ wr (hFu.cel l hl5 i hil 0 (by omega)) (hFu.cel l hl5 i hil 1 (by omega)) (hFu.cel l hl5 i hil 2 (by omega)) (hFu.cel l hl5 i hil 3 (by omega)) (hFu.cel l hl5 i hil 4 (by omega)) (hFu.cel l hl5 i hil 5 (by omega)))
              obtain ⟨c, hcd⟩ : ∃ c : Nat, c = i - cntB S i := ⟨_, rfl⟩
              rw [← hcd]
              have hcl : c ≤ i := by omega
              have hs := cntB_succ S i
              rw [← hSd.out] at h37
              replace hFu := hide hFu; replace hcd := hide hcd; replace hs := hide hs
              cases hSi : S i with
              | true =>
                rw [hSi] at h37 hs
                go_wp2_with (first
                  | (go_at_call 30
                     refine (cellAt_any fb l wr _ _ _ i hl5 hlv.out hil).mono ?_
                     rintro e w1 ⟨rfl, hw⟩
                     obtain rfl := hw.symm)
                  | (go_at_call 37
                     refine h37.out.mono ?_
                     rintro e w2 ⟨rfl, m2, hw2⟩
                     have hU2 : Hid (Upd [] w w2) := (by rw [hw2]; exact hU.out.trans (Upd.drewN _ _ _))
                     clear hw2
                     have hLu := hL.out.upd hU2.out
                     have ht0 := hLu.t l hl5
                     obtain ⟨g, hg, htc⟩ := hLu.tc l hl5 i hil
                     rw [hg] at ht0
                     rw [← hSd.out, hSi] at htc
                     clear hg
                     replace hLu := hide hLu))
                go_roundw
                case rel => exact ⟨i + 1, by omega, by simp, by have := hs.out; have := hcd.out; simp at *; omega, hU2⟩
                case measure => simp [intOf]; omega
              | false =>
                rw [hSi] at h37 hs
                go_wp2_with (first
                  | (go_at_call 30
                     refine (cellAt_any fb l wr _ _ _ i hl5 hlv.out hil).mono ?_
                     rintro e w1 ⟨rfl, hw⟩
                     obtain rfl := hw.symm)
                  | (go_at_call 37
                     refine h37.out.mono ?_
                     rintro e w2 ⟨rfl, m2, hw2⟩
                     have hU2 : Hid (Upd [] w w2) := (by rw [hw2]; exact hU.out.trans (Upd.drewN _ _ _))
                     clear hw2
                     have hLu := hL.out.upd hU2.out
                     have ht0 := hLu.t l hl5
                     obtain ⟨g, hg, htc⟩ := hLu.tc l hl5 i hil
                     rw [hg] at ht0
                     rw [← hSd.out, hSi] at htc
                     clear hg
                     replace hLu := hide hLu))
                go_roundw
                case rel => exact ⟨i + 1, by omega, by simp, by have := hs.out; have := hcd.out; simp at *; omega, hU2⟩
                case measure => simp [intOf]; omega
            · obtain rfl : i = Nof T tl l := by omega
              have hie := inner_eq T tl hTl.out.le l
              rw [← hSd.out] at hie
              have hin0 := (hF.out.upd hU.out).inner l hl5
              obtain ⟨q, hq⟩ : ∃ q, q = Nof T tl (l + 1) * T.fan (l + 1) := ⟨_, rfl⟩
              rw [← hq] at hie hin0
              have hqe : Nof T tl l - cntB S (Nof T tl l) = q := by omega
              have hql : q ≤ 65536 := by omega
              rw [hqe]
              replace hqe := hide hqe; replace hq := hide hq; replace hie := hide hie; replace hin0 := hide hin0
              go_wp2_with (first
                | (go_at_call 28
                   refine (inner_any fb l wr _ hl5 hin0.out).mono ?_
                   rintro e w1 ⟨rfl, hw⟩
                   obtain rfl := hw.symm))
              go_roundw
              case rel => exact ⟨l + 1, by omega, by simp, hU⟩
              case measure => simp [intOf]; omega
        · obtain rfl : l = 5 := by omega
          simp only [show ((5 : Nat) : Int) = 5 from rfl]
          clear hl hl5
          have hr0 := hide ((hF.out.upd hU.out).rts)
          go_wp2_with (first
            | (go_at_call 38
               refine (rootsLen_any fb wr _ _ _ hr0.out).mono ?_
               rintro e w1 ⟨rfl, hw⟩
               obtain rfl := hw.symm))
          clear hr0
          go_loopw [20] (fun jv wi => ∃ j : Nat, j ≤ tl.length ∧ jv = .int .i64 j ∧ Hid (Upd [] w wi)) (fun jv _ => tl.length - (intOf jv).toNat)
          case atStart => exact ⟨0, by omega, rfl, hU⟩
          case round =>
            clear hU
            obtain ⟨j, hj, rfl, hU⟩ := hrel
            by_cases hjt : j < tl.length
            · have ht5 : tl[j] < 5 := by have := hTl.out.le _ (List.getElem_mem hjt); omega
              obtain ⟨tb, to, rfl, htc, _, _, _⟩ := hin.out j (by simpa using hjt)
              have htc' : wr.cell? ⟨tb, to + j, none⟩ = some (.int .i8 (tl[j] : Nat)) := by
                refine cell_upd ?_ hU.out (by simp)
                rw [htc]; simp
              clear htc
              have hFu := hF.out.upd hU.out
              have hLu := hL.out.upd hU.out
              obtain ⟨gr, hgr, hrc⟩ := hFu.rtc j hjt
              rw [getD_at hjt] at hrc
              have hr0 := hFu.rts
              rw [hgr] at hr0
              obtain ⟨go, hgo, hoc⟩ := hLu.oc j hjt
              have ho0 := hLu.o
              rw [hgo] at ho0
              have hol : ordJ T tl j < Nof T tl tl[j] := by rw [← getD_at hjt]; exact ordJ_lt hjt
              have hNl := Nof_le hTl.out tl[j]
              obtain ⟨q, hq⟩ : ∃ q, q = ordJ T tl j := ⟨_, rfl⟩
              obtain ⟨t, ht⟩ : ∃ t, t = tl[j] := ⟨_, rfl⟩
              rw [← hq] at hol hoc hrc
              rw [← ht] at hol htc' hrc hNl ht5
              have h39 := hide (root_d hr0 hjt hrc)
              have h30 := hide (cellAt_d ht5 (hFu.levels t ht5) hol)
              have hneq : ∀ W : World, (binOp .neq 62 (.pointer (some ⟨lv t, q * 6, none⟩)) (.pointer (some ⟨lv t, q * 6, none⟩))).run Try.prog W = .ok (.bool false) W := fun W => run_neq_ptr _ W
              replace hFu := hide hFu; replace hLu := hide hLu; replace hq := hide hq; replace ht := hide ht; replace hrc := hide hrc; replace hr0 := hide hr0
              clear hgr hgo
              go_wp2_with (fail)
              go_big_quiet (first | (with_reducible exact h39.out _) | (with_reducible exact h30.out _))
              go_wp2_with (fail)
              go_roundw
              case rel => exact ⟨j + 1, by omega, by simp, hU.out.trans (Upd.drewN _ _ _)⟩
              case measure => simp [intOf]; omega
            · obtain rfl : j = tl.length := by omega
              clear hjt hj
              obtain ⟨R, hR⟩ : ∃ R, R = runsJ T tl tl.length := ⟨_, rfl⟩
              have hRl : R.length ≤ tl.length := by rw [hR]; exact runsJ_len T tl tl.length
              have hn0 := (hF.out.upd hU.out).rns
              have hm0 := (hL.out.upd hU.out).r0
              rw [← hR] at hn0 hm0
              have h40 := hide (runsLen_d hn0)
              replace hn0 := hide hn0; replace hR := hide hR
              go_wp2_with (fail)
              go_big_quiet (with_reducible exact h40.out _)
              have hU1 : Hid (Upd [] w (wr.drewN nq)) := hU.out.trans (Upd.drewN _ _ _)
              obtain ⟨W1, hW1⟩ : ∃ x, x = wr.drewN nq := ⟨_, rfl⟩
              rw [← hW1] at hU1
              rw [← hW1]
              clear hW1 hn0 hm0 h40 hU
              go_wp2_with (fail)
              go_loopw [21] (fun kv wi => ∃ k : Nat, k ≤ R.length ∧ kv = .int .i64 k ∧ Hid (Upd [] w wi)) (fun kv _ => R.length - (intOf kv).toNat)
              case atStart => exact ⟨0, by omega, rfl, hU1⟩
              case round =>
                clear hU1
                obtain ⟨k, hk, rfl, hU⟩ := hrel
                have hm0 := (hL.out.upd hU.out).r0
                rw [← hR.out] at hm0
                by_cases hkr : k < R.length
                · obtain ⟨r, hr⟩ : ∃ r, R[k]? = some r := ⟨_, List.getElem?_eq_getElem hkr⟩
                  rw [hR.out] at hr
                  have hFu := hF.out.upd hU.out
                  obtain ⟨gu, hgu, hrc⟩ := hFu.rnc k r hr
                  have hn0 := hFu.rns
                  rw [hgu, ← hR.out] at hn0
                  have h41 := hide (run41_any fb gu _ _ k _ _ _ _ wr hn0 hkr (hrc 0 (by omega)) (hrc 1 (by omega)) (hrc 2 (by omega)) (hrc 3 (by omega)))
                  replace hFu := hide hFu; replace hr := hide hr; replace hrc := hide hrc; replace hn0 := hide hn0
                  clear hgu
                  go_wp2_with (first
                    | (go_at_call 41
                       refine h41.out.mono ?_
                       rintro e w2 ⟨rfl, m2, hw2⟩
                       have hU2 : Hid (Upd [] w w2) := (by rw [hw2]; exact hU.out.trans (Upd.drewN _ _ _))
                       clear hw2
                       have hLu := hL.out.upd hU2.out
                       have ha0 := hLu.r0
                       have ha1 := hLu.r1
                       have ha2 := hLu.r2
                       have ha3 := hLu.r3
                       obtain ⟨g0, hg0, hb0⟩ := hLu.c0 k r hr.out
                       obtain ⟨g1, hg1, hb1⟩ := hLu.c1 k r hr.out
                       obtain ⟨g2, hg2, hb2⟩ := hLu.c2 k r hr.out
                       obtain ⟨g3, hg3, hb3⟩ := hLu.c3 k r hr.out
                       rw [hg0, ← hR.out] at ha0
                       rw [hg1, ← hR.out] at ha1
                       rw [hg2, ← hR.out] at ha2
                       rw [hg3, ← hR.out] at ha3
                       clear hg0 hg1 hg2 hg3
                       replace hLu := hide hLu))
                  go_roundw
                  case rel => exact ⟨k + 1, by omega, by simp, hU2⟩
                  case measure => simp [intOf]; omega
                · obtain rfl : k = R.length := by omega
                  clear hkr hk
                  have hlk0 := (hF.out.upd hU.out).lnk
                  cases linked with
                  | false =>
                    simp only [Bool.false_eq_true, if_false] at hlk0
                    replace hlk0 := hide hlk0
                    go_wp2_with (first
                      | (go_at_call 25
                         refine (links_any fb wr _ hlk0.out).mono ?_
                         rintro e w1 ⟨rfl, hw⟩
                         obtain rfl := hw.symm)
                      | (go_at_call 42
                         refine (room_any fb wr _ ((hF.out.upd hU.out).room)).mono ?_
                         rintro e w1 ⟨rfl, hw⟩
                         obtain rfl := hw.symm))
                    go_ret
                    exact ⟨rfl, hU.out⟩
                  | true =>
                    simp only [if_true] at hlk0
                    replace hlk0 := hide hlk0
                    go_wp2_with (first
                      | (go_at_call 25
                         refine (links_any fb wr _ hlk0.out).mono ?_
                         rintro e w1 ⟨rfl, hw⟩
                         obtain rfl := hw.symm))
                    clear hlk0 hm0
                    go_loopw [26] (fun lv wi => ∃ l : Nat, l ≤ 5 ∧ lv = .int .i64 l ∧ Hid (Upd [] w wi)) (fun lv _ => 5 - (intOf lv).toNat)
                    case atStart => exact ⟨0, by omega, rfl, hU⟩
                    case round =>
                      clear hU
                      obtain ⟨l, hl, rfl, hU⟩ := hrel
                      by_cases hl5 : l < 5
                      · have hf0 := (hL.out.upd hU.out).f l hl5
                        have hlk0 := (hF.out.upd hU.out).lnk
                        simp only [if_true] at hlk0
                        have hlk1 := hide ((hF.out.upd hU.out).lks rfl l hl5)
                        replace hlk0 := hide hlk0
                        have hNl := Nof_le hTl.out l
                        go_wp2_with (first
                          | (go_at_call 27
                             refine (linkLen_any fb l wr lkb _ _ _ hl5 hlk0.out hlk1.out).mono ?_
                             rintro e w1 ⟨rfl, hw⟩
                             obtain rfl := hw.symm))
                        clear hf0 hlk0 hlk1
                        go_loopw [28] (fun iv wi => ∃ i : Nat, i ≤ Nof T tl l ∧ iv = .int .i64 i ∧ Hid (Upd [] w wi)) (fun iv _ => Nof T tl l - (intOf iv).toNat)
                        case atStart => exact ⟨0, by omega, rfl, hU⟩
                        case round =>
                          clear hU
                          obtain ⟨i, hi, rfl, hU⟩ := hrel
                          by_cases hil : i < Nof T tl l
                          · have hFu := hF.out.upd hU.out
                            have hkl : ((stJ T tl tl.length).k l).length = Nof T tl l := by rw [(stJ_len T tl l tl.length (Nat.le_refl _)).2, cntSum_all]
                            obtain ⟨x, hx⟩ : ∃ x, ((stJ T tl tl.length).k l)[i]? = some x := ⟨_, List.getElem?_eq_getElem (by omega)⟩
                            have hlk0 := hFu.lnk
                            simp only [if_true] at hlk0
                            have h34 := hide (link_any fb l lkb (lk l) _ _ i _ _ _ wr hl5 hlk0 (hFu.lks rfl l hl5) hil (hFu.lnc rfl l hl5 i x hx 0 (by omega)) (hFu.lnc rfl l hl5 i x hx 1 (by omega)) (hFu.lnc rfl l hl5 i x hx 2 (by omega)))
                            replace hFu := hide hFu; replace hx := hide hx; replace hlk0 := hide hlk0; replace hkl := hide hkl
                            go_wp2_with (first
                              | (go_at_call 34
                                 refine h34.out.mono ?_
                                 rintro e w2 ⟨rfl, m2, hw2⟩
                                 have hU2 : Hid (Upd [] w w2) := (by rw [hw2]; exact hU.out.trans (Upd.drewN _ _ _))
                                 clear hw2
                                 have hLu := hL.out.upd hU2.out
                                 have ha0 := hLu.f l hl5
                                 have ha1 := hLu.p l hl5
                                 have ha2 := hLu.c l hl5
                                 obtain ⟨g0, hg0, hb0⟩ := hLu.fc l hl5 i x hx.out
                                 obtain ⟨g1, hg1, hb1⟩ := hLu.pc l hl5 i x hx.out
                                 obtain ⟨g2, hg2, hb2⟩ := hLu.cc l hl5 i x hx.out
                                 rw [hg0] at ha0
                                 rw [hg1] at ha1
                                 rw [hg2] at ha2
                                 clear hg0 hg1 hg2
                                 replace hLu := hide hLu))
                            go_roundw
                            case rel => exact ⟨i + 1, by omega, by simp, hU2⟩
                            case measure => simp [intOf]; omega
                          · obtain rfl : i = Nof T tl l := by omega
                            go_wp2_with (fail)
                            go_roundw
                            case rel => exact ⟨l + 1, by omega, by simp, hU⟩
                            case measure => simp [intOf]; omega
                      · obtain rfl : l = 5 := by omega
                        simp only [show ((5 : Nat) : Int) = 5 from rfl]
                        go_wp2_with (first
                          | (go_at_call 42
                             refine (room_any fb wr _ ((hF.out.upd hU.out).room)).mono ?_
                             rintro e w1 ⟨rfl, hw⟩
                             obtain rfl := hw.symm))
                        go_ret
                        exact ⟨rfl, hU.out⟩
end Go.Proofs.Qxb6609507a
