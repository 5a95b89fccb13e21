import Derived.Test.Qxb6609507aSet2
namespace Go.Proofs.Qxb6609507a
set_option linter.unusedVariables false
set_option linter.unusedSimpArgs false
open Go.ChangeShapes Go.WideShapes Go.ChangeAt Go.RowKit
def lenK (rs : List (List Nat)) (k : Nat) : Nat := match rs[k]? with | some r => r.length | none => 1
def prevK (rs : List (List Nat)) (k : Nat) : Nat := match k with | 0 => 0 | k + 1 => lenK rs k
theorem lenK_some {rs : List (List Nat)} {k : Nat} {r : List Nat} (h : rs[k]? = some r) : lenK rs k = r.length := by unfold lenK; rw [h]
theorem lenK_zero (nn : Nat) (S : Nat → Bool) : lenK (setRows nn S) 0 = max ((nn + 63) / 64) 1 := by
  obtain ⟨nk, Sk, h1, h2, h3, h4⟩ := setRows_level nn S 0 (setRows_pos nn S)
  obtain ⟨rfl, rfl⟩ := h2 rfl
  rw [lenK_some h1, rowOfSet_len]
theorem lenK_succ {nn : Nat} {S : Nat → Bool} {k : Nat} (hk : k < (setRows nn S).length) : lenK (setRows nn S) (k + 1) = (lenK (setRows nn S) k + 63) / 64 := by
  obtain ⟨nk, Sk, h1, h2, h3, h4⟩ := setRows_level nn S k hk
  rw [lenK_some h1]
  by_cases hl : k + 1 = (setRows nn S).length
  · rw [h4.1 hl]
    unfold lenK
    rw [List.getElem?_eq_none (by omega)]
  · obtain ⟨nk', Sk', g1, g2, g3, g4⟩ := setRows_level nn S (k + 1) (by omega)
    rw [lenK_some g1, rowOfSet_len, (g3 k _ rfl h1).1]
    have : 1 ≤ (rowOfSet nk Sk).length := by rw [rowOfSet_len]; omega
    omega
/-- What zzSetMatches reads of row k. -/
structure LevelF (w : World) (ob b0 nn : Nat) (S : Nat → Bool) (k : Nat) (T : Nat → Bool) (b : Nat) : Prop where
  c : w.cell? ⟨ob, k, none⟩ = some (.slice (some ⟨b, 0, none⟩) (lenK (setRows nn S) k) (lenK (setRows nn S) k))
  ws : ∀ j, j < lenK (setRows nn S) k → w.cell? ⟨b, j, none⟩ = some (.int .u64 (wordOf T j : Nat))
  last : k + 1 = (setRows nn S).length ↔ lenK (setRows nn S) k = 1
  zero : k = 0 → b = b0 ∧ ∀ i, T i = (decide (i < nn) && S i)
  out : ∀ k', k = k' + 1 → ∀ i, ¬ i < prevK (setRows nn S) k → T i = false
  inn : ∀ k', k = k' + 1 → ∀ i, i < prevK (setRows nn S) k → ∃ b' x : Nat, w.cell? ⟨ob, k', none⟩ = some (.slice (some ⟨b', 0, none⟩) (prevK (setRows nn S) k) (prevK (setRows nn S) k)) ∧ w.cell? ⟨b', i, none⟩ = some (.int .u64 x) ∧ T i = decide (x ≠ 0)
theorem level_facts {fb l nn cnt : Nat} {S : Nat → Bool} {ob cap b0 : Nat} {bs : List Nat} {w : World} (h : SetR fb l nn cnt S ob cap b0 bs w) {k : Nat} (hk : k < (setRows nn S).length) :
    ∃ T b, LevelF w ob b0 nn S k T b := by
  obtain ⟨nk, Sk, h1, h2, h3, h4⟩ := setRows_level nn S k hk
  obtain ⟨b, hb, hc, hw⟩ := h.row h1
  have e := lenK_some h1
  rw [rowOfSet_len] at e
  refine ⟨fun i => decide (i < nk) && Sk i, b, ⟨by rw [e]; exact hc, fun j hj => hw j (by rw [e] at hj; exact hj), by rw [h4, lenK_some h1], ?_, ?_, ?_⟩⟩
  · intro h0
    obtain ⟨rfl, rfl⟩ := h2 h0
    subst h0
    have := h.hd
    rw [this] at hb
    exact ⟨(Option.some.inj hb).symm, fun i => rfl⟩
  · rintro k' rfl i hi
    obtain ⟨nk', Sk', g1, g2, g3, g4⟩ := setRows_level nn S k' (by omega)
    have := (h3 k' _ rfl g1).1
    have e2 : prevK (setRows nn S) (k' + 1) = nk := by show lenK _ k' = nk; rw [lenK_some g1, this]
    rw [e2] at hi
    simp [hi]
  · rintro k' rfl i hi
    obtain ⟨nk', Sk', g1, g2, g3, g4⟩ := setRows_level nn S k' (by omega)
    have hq := h3 k' _ rfl g1
    have e2 : prevK (setRows nn S) (k' + 1) = nk := by show lenK _ k' = nk; rw [lenK_some g1, hq.1]
    obtain ⟨b', hb', hc', hw'⟩ := h.row g1
    rw [e2] at hi ⊢
    have e3 : max ((nk' + 63) / 64) 1 = nk := by rw [hq.1, rowOfSet_len]
    rw [e3] at hc' hw'
    refine ⟨b', _, hc', hw' i hi, ?_⟩
    simp only [hi, decide_true, Bool.true_and]
    rw [hq.2 i hi, rowOfSet_get (by omega)]
theorem word_at (fb l : Nat) (w : World) (ob d cap k b n c j : Nat) (v : Value) (kI jI : Int) (hkI : kI = (k : Nat)) (hjI : jI = (j : Nat)) (hl : l < 5) (h0 : w.cell? ⟨fb, 7 + l * 3, none⟩ = some (.slice (some ⟨ob, 0, none⟩) d cap)) (hk : k < d) (h1 : w.cell? ⟨ob, k, none⟩ = some (.slice (some ⟨b, 0, none⟩) n c)) (hj : j < n) (hc : w.cell? ⟨b, j, none⟩ = some v) :
    Calls Try.prog 21 #[.pointer (some ⟨fb, 0, none⟩), .int .i64 l, .int .i64 kI, .int .i64 jI] w fun e w' => e = .returned v ∧ w' = w := by
  subst hkI; subst hjI; exact word_any fb l w ob d cap k b n c j v hl h0 hk h1 hj hc
set_option maxRecDepth 100000 in
set_option maxHeartbeats 4000000 in
/-- zzSetMatches (22). -/
theorem setMatches_any (fb l nn : Nat) (S : Nat → Bool) (ob cap b0 : Nat) (bs : List Nat) (a : Option Addr) (wc : Nat) (w : World) (hl : l < 5) (hnn : nn ≤ 65536) (hR : SetR fb l nn (cntB S nn) S ob cap b0 bs w) (hW : Wants w a nn S) :
    Calls Try.prog 22 #[.pointer (some ⟨fb, 0, none⟩), .int .i64 l, .slice a nn wc] w fun e w' => e = .returned (.bool true) ∧ w' = w := by
  obtain ⟨d, hd⟩ : ∃ d, d = (setRows nn S).length := ⟨_, rfl⟩
  have hd1 : 1 ≤ d := by rw [hd]; exact setRows_pos _ _
  have hd8 : d ≤ 8 := by rw [hd, setRows_len]; have := emptyRows_len nn (by omega); omega
  have hwd := hR.wd
  rw [← hd] at hwd
  have hwd' := hide hwd
  clear hwd
  obtain ⟨LK, hLK⟩ : ∃ LK : Nat → Nat, LK = lenK (setRows nn S) := ⟨_, rfl⟩
  obtain ⟨PK, hPK⟩ : ∃ PK : Nat → Nat, PK = prevK (setRows nn S) := ⟨_, rfl⟩
  have hlk0 : LK 0 = max ((nn + 63) / 64) 1 := by rw [hLK]; exact lenK_zero nn S
  have hlks : ∀ k, k < d → LK (k + 1) = (LK k + 63) / 64 := by intro k hk; rw [hLK]; exact lenK_succ (by omega)
  have hpk0 : PK 0 = 0 := by rw [hPK]; rfl
  have hpks : ∀ k, PK (k + 1) = LK k := by intro k; rw [hPK, hLK]; rfl
  replace hd := hide hd; replace hR := hide hR; replace hW := hide hW; replace hLK := hide hLK; replace hPK := hide hPK
  replace hlk0 := hide hlk0; replace hlks := hide hlks; replace hpk0 := hide hpk0; replace hpks := hide hpks
  obtain ⟨E, hE⟩ : ∃ E, E = (nn + 63) / 64 := ⟨_, rfl⟩
  have hEi : ((nn : Int) + 63) / 64 = (E : Int) := by rw [hE]; omega
  have hEb : E ≤ 1024 := by omega
  replace hEi := hide hEi; replace hE := hide hE
  have hnm := hR.out.nm
  rw [← hE.out] at hnm
  have hnm' := hide hnm
  clear hnm
  go_enter Try.func22, Try.ntmps22
  go_wp2_with (fail)
  go_loopw [8, 9] (fun cv iv wi => ∃ i : Nat, i ≤ nn ∧ iv = .int .i64 i ∧ cv = .int .i64 (cntB S i) ∧ wi = w) (fun _ iv _ => nn - (intOf iv).toNat)
  case atStart => exact ⟨0, by omega, rfl, rfl, rfl⟩
  case round =>
    obtain ⟨i, hi, rfl, rfl, hwr⟩ := hrel
    obtain rfl := hwr.symm
    have hcb := cntB_le S i
    by_cases hin : i < nn
    · obtain ⟨b, o, rfl, hc⟩ := hW.out i hin
      cases hS : S i with
      | true =>
        rw [hS] at hc
        have hs := hide (cntB_succ S i)
        rw [hS] at hs
        go_wp2_with (fail)
        go_roundw
        case rel => exact ⟨i + 1, by omega, by simp, by rw [hs.out]; simp, trivial⟩
        case measure => simp [intOf]; omega
      | false =>
        rw [hS] at hc
        have hs := hide (cntB_succ S i)
        rw [hS] at hs
        go_wp2_with (fail)
        go_roundw
        case rel => exact ⟨i + 1, by omega, by simp, by rw [hs.out]; simp, trivial⟩
        case measure => simp [intOf]; omega
    · obtain rfl : nn = i := by omega
      clear hwr hi hin
      by_cases hz : E < 1
      · have hmx : max E 1 = 1 := by omega
        rw [hmx] at hnm'
        have hl0 : LK 0 = 1 := by rw [hlk0.out, ← hE.out]; exact hmx
        have hq : decide (((nn : Int) + 63) / 64 < 1) = true := by rw [hEi.out]; exact decide_eq_true (by omega)
        replace hz := hide hz
        replace hl0 := hide hl0
        go_wp2_with (first
          | (go_at_call 19
             refine (freeN_any fb l w _ hl hR.out.n).mono ?_
             rintro e w1 ⟨rfl, hw⟩
             obtain rfl := hw.symm)
          | (go_at_call 18
             refine (freeDepth_any fb l w _ _ _ hl hwd'.out).mono ?_
             rintro e w1 ⟨rfl, hw⟩
             obtain rfl := hw.symm)
          | (go_at_call 44
             refine (numbersLen_any fb l w _ _ _ hl hnm'.out).mono ?_
             rintro e w1 ⟨rfl, hw⟩
             obtain rfl := hw.symm))
        clear hq
        go_loopw [11, 12, 13] (fun ev pv kv wi => ∃ k : Nat, k ≤ d ∧ LK k ≤ 1024 ∧ PK k ≤ 1024 ∧ kv = .int .i64 k ∧ pv = .int .i64 (PK k : Nat) ∧ ev = .int .i64 (LK k : Nat) ∧ wi = w) (fun _ _ kv _ => d - (intOf kv).toNat)
        case atStart => exact ⟨0, by omega, by rw [hl0.out]; omega, by rw [hpk0.out]; omega, rfl, by rw [hpk0.out]; rfl, by rw [hl0.out]; first | rfl | rw [hEi.out], rfl⟩
        case round =>
          obtain ⟨k, hk, hLb, hPb, rfl, rfl, rfl, hwr⟩ := hrel
          obtain rfl := hwr.symm
          clear hwr
          by_cases hkd : k < d
          · obtain ⟨T, bk, hF⟩ := level_facts hR.out (k := k) (by rw [← hd.out]; exact hkd)
            have hlast := hF.last
            rw [← hd.out, ← hLK.out] at hlast
            have hcc := hF.c
            rw [← hLK.out] at hcc
            have hws := hF.ws
            rw [← hLK.out] at hws
            have hout := hF.out
            have hinn := hF.inn
            rw [← hPK.out] at hout hinn
            have hzero := hF.zero
            replace hcc := hide hcc; replace hws := hide hws; replace hout := hide hout; replace hinn := hide hinn; replace hzero := hide hzero
            clear hF
            have hT : (!(((k : Int) == (d : Int) - 1) == (((LK k : Nat) : Int) == 1))) = false := by
              by_cases h1 : LK k = 1
              · have h2 := hlast.2 h1
                have e1 : ((k : Int) == (d : Int) - 1) = true := by simp; omega
                have e2 : (((LK k : Nat) : Int) == 1) = true := by simp; omega
                rw [e1, e2]; rfl
              · have h2 : ¬ (k + 1 = d) := fun h => h1 (hlast.1 h)
                have e1 : ((k : Int) == (d : Int) - 1) = false := by simp; omega
                have e2 : (((LK k : Nat) : Int) == 1) = false := by simp; omega
                rw [e1, e2]; rfl
            replace hlast := hide hlast
            go_wp2_with (first
              | (go_at_call 20
                 refine (wordsLen_any fb l w ob d cap k _ _ _ hl hwd'.out hkd hcc.out).mono ?_
                 rintro e w1 ⟨rfl, hw⟩
                 obtain rfl := hw.symm))
            go_loopw [15] (fun jv wi => ∃ j : Nat, j ≤ LK k ∧ jv = .int .i64 j ∧ wi = w) (fun jv _ => LK k - (intOf jv).toNat)
            case atStart => exact ⟨0, by omega, rfl, rfl⟩
            case round =>
              obtain ⟨j, hj, rfl, hwr⟩ := hrel
              obtain rfl := hwr.symm
              clear hwr
              by_cases hjn : j < LK k
              · go_wp2_with (fail)
                go_loopw [16, 17] (fun xv bv wi => ∃ b : Nat, b ≤ 64 ∧ bv = .int .i64 b ∧ xv = .int .u64 (expW T j b : Nat) ∧ wi = w) (fun _ bv _ => 64 - (intOf bv).toNat)
                case atStart => exact ⟨0, by omega, rfl, rfl, rfl⟩
                case round =>
                  obtain ⟨b, hb, rfl, rfl, hwr⟩ := hrel
                  obtain rfl := hwr.symm
                  clear hwr
                  have hxl := expW_lt T j b hb
                  by_cases hb64 : b < 64
                  · have hsu := hide (expW_succ T j b)
                    have hbm : b % 64 = b := Nat.mod_eq_of_lt hb64
                    have hor := or_word (expW T j b) b hxl
                    rw [hbm] at hor
                    have hix : j * 64 + b < 70000 := by omega
                    by_cases hk0 : k = 0
                    · have hk0b : ((k : Int) == 0) = true := by simp; omega
                      have hTi := (hzero.out hk0).2 (j * 64 + b)
                      replace hk0 := hide hk0
                      by_cases hlt : j * 64 + b < nn
                      · have hltb : decide ((j : Int) * 64 + (b : Int) < (nn : Int)) = true := decide_eq_true (by omega)
                        rw [decide_eq_true hlt, Bool.true_and] at hTi
                        obtain ⟨ab, ao, rfl, hac⟩ := hW.out (j * 64 + b) hlt
                        have hac' : w.cell? ⟨ab, ao + (j * 64 + b), none⟩ = some (.bool (S (j * 64 + b))) := hac
                        clear hac
                        have hti : ((j : Int) * 64 + (b : Int)).toNat = j * 64 + b := by omega
                        cases hS : S (j * 64 + b) with
                        | true =>
                          rw [hS] at hac' hTi
                          rw [hTi] at hsu
                          replace hTi := hide hTi
                          go_wp2_with (fail)
                          go_roundw
                          case rel => exact ⟨b + 1, by omega, by simp, by rw [hsu.out]; simp, trivial⟩
                          case measure => simp [intOf]; omega
                        | false =>
                          rw [hS] at hac' hTi
                          rw [hTi] at hsu
                          replace hTi := hide hTi
                          go_wp2_with (fail)
                          go_roundw
                          case rel => exact ⟨b + 1, by omega, by simp, by rw [hsu.out]; simp, trivial⟩
                          case measure => simp [intOf]; omega
                      · have hltb : decide ((j : Int) * 64 + (b : Int) < (nn : Int)) = false := decide_eq_false (by omega)
                        rw [decide_eq_false hlt, Bool.false_and] at hTi
                        rw [hTi] at hsu
                        replace hTi := hide hTi
                        go_wp2_with (fail)
                        go_roundw
                        case rel => exact ⟨b + 1, by omega, by simp, by rw [hsu.out]; simp, trivial⟩
                        case measure => simp [intOf]; omega
                    · have hk0b : ((k : Int) == 0) = false := by simp; omega
                      obtain ⟨k', hkk⟩ : ∃ k', k = k' + 1 := ⟨k - 1, by omega⟩
                      have hkm := hide (show (k : Int) - 1 = (k' : Nat) by omega)
                      have hti := hide (show ((j : Int) * 64 + (b : Int)) = ((j * 64 + b : Nat) : Int) by omega)
                      by_cases hlt : j * 64 + b < PK k
                      · obtain ⟨b', x, hc1, hx, hTi⟩ := hinn.out k' hkk (j * 64 + b) hlt
                        have hltb : decide ((j : Int) * 64 + (b : Int) < ((PK k : Nat) : Int)) = true := decide_eq_true (by omega)
                        replace hc1 := hide hc1; replace hx := hide hx; replace hkk := hide hkk
                        by_cases hx0 : x = 0
                        · have hxb : ((x : Int) != 0) = false := by simp [hx0]
                          rw [decide_eq_false (by simp [hx0])] at hTi
                          rw [hTi] at hsu
                          replace hTi := hide hTi; replace hx0 := hide hx0
                          go_wp2_with (first
                            | (go_at_call 21
                               refine (word_at fb l w ob d cap k' b' _ _ (j * 64 + b) _ _ _ hkm.out hti.out hl hwd'.out (by have := hkk.out; omega) hc1.out hlt hx.out).mono ?_
                               rintro e w1 ⟨rfl, hw⟩
                               obtain rfl := hw.symm))
                          go_roundw
                          case rel => exact ⟨b + 1, by omega, by simp, by rw [hsu.out]; simp, trivial⟩
                          case measure => simp [intOf]; omega
                        · have hxb : ((x : Int) != 0) = true := by simp [hx0]
                          rw [decide_eq_true hx0] at hTi
                          rw [hTi] at hsu
                          replace hTi := hide hTi; replace hx0 := hide hx0
                          go_wp2_with (first
                            | (go_at_call 21
                               refine (word_at fb l w ob d cap k' b' _ _ (j * 64 + b) _ _ _ hkm.out hti.out hl hwd'.out (by have := hkk.out; omega) hc1.out hlt hx.out).mono ?_
                               rintro e w1 ⟨rfl, hw⟩
                               obtain rfl := hw.symm))
                          go_roundw
                          case rel => exact ⟨b + 1, by omega, by simp, by rw [hsu.out]; simp, trivial⟩
                          case measure => simp [intOf]; omega
                      · have hTi := hout.out k' hkk (j * 64 + b) hlt
                        have hltb : decide ((j : Int) * 64 + (b : Int) < ((PK k : Nat) : Int)) = false := decide_eq_false (by omega)
                        replace hkk := hide hkk
                        rw [hTi] at hsu
                        replace hTi := hide hTi
                        go_wp2_with (fail)
                        go_roundw
                        case rel => exact ⟨b + 1, by omega, by simp, by rw [hsu.out]; simp, trivial⟩
                        case measure => simp [intOf]; omega
                  · obtain rfl : b = 64 := by omega
                    simp only [show ((64 : Nat) : Int) = 64 from rfl]
                    have hwj := hide (hws.out j hjn)
                    have hea := expW_all T j
                    rw [hea]
                    replace hea := hide hea
                    by_cases hk0 : k = 0
                    · have hk0b : ((k : Int) == 0) = true := by simp; omega
                      have hb0 := (hzero.out hk0).1
                      have hl00 : j < 1 := by have := hl0.out; rw [hk0] at hjn; omega
                      replace hk0 := hide hk0; replace hb0 := hide hb0
                      go_wp2_with (first
                        | (go_at_call 21
                           refine (word_any fb l w ob d cap k bk _ _ j _ hl hwd'.out hkd hcc.out hjn hwj.out).mono ?_
                           rintro e w1 ⟨rfl, hw⟩
                           obtain rfl := hw.symm)
                        | (go_at_call 45
                           refine (number_any fb l w b0 _ _ j _ hl hnm'.out hl00 (by rw [← hb0.out]; exact hwj.out)).mono ?_
                           rintro e w1 ⟨rfl, hw⟩
                           obtain rfl := hw.symm))
                      go_roundw
                      case rel => exact ⟨j + 1, by omega, by simp, trivial⟩
                      case measure => simp [intOf]; omega
                    · have hk0b : ((k : Int) == 0) = false := by simp; omega
                      replace hk0 := hide hk0
                      go_wp2_with (first
                        | (go_at_call 21
                           refine (word_any fb l w ob d cap k bk _ _ j _ hl hwd'.out hkd hcc.out hjn hwj.out).mono ?_
                           rintro e w1 ⟨rfl, hw⟩
                           obtain rfl := hw.symm))
                      go_roundw
                      case rel => exact ⟨j + 1, by omega, by simp, trivial⟩
                      case measure => simp [intOf]; omega
              · obtain rfl : j = LK k := by omega
                have hsk := hlks.out k hkd
                have hskb : LK (k + 1) ≤ 1024 := by omega
                have hpk := hpks.out k
                replace hsk := hide hsk; replace hpk := hide hpk
                go_wp2_with (fail)
                go_roundw
                case rel => exact ⟨k + 1, by omega, hskb, by rw [hpk.out]; exact hLb, by simp, by rw [hpk.out], by rw [hsk.out]; simp, trivial⟩
                case measure => simp [intOf]; omega
          · obtain rfl : k = d := by omega
            go_wp2_with (fail)
            go_ret
            exact ⟨rfl, rfl⟩
      · have hmx : max E 1 = E := by omega
        rw [hmx] at hnm'
        have hl0 : LK 0 = E := by rw [hlk0.out, ← hE.out]; exact hmx
        have hq : decide (((nn : Int) + 63) / 64 < 1) = false := by rw [hEi.out]; exact decide_eq_false (by omega)
        have hq2 : ((E : Int) != ((nn : Int) + 63) / 64) = false := by rw [hEi.out]; simp
        replace hz := hide hz
        replace hl0 := hide hl0
        go_wp2_with (first
          | (go_at_call 19
             refine (freeN_any fb l w _ hl hR.out.n).mono ?_
             rintro e w1 ⟨rfl, hw⟩
             obtain rfl := hw.symm)
          | (go_at_call 18
             refine (freeDepth_any fb l w _ _ _ hl hwd'.out).mono ?_
             rintro e w1 ⟨rfl, hw⟩
             obtain rfl := hw.symm)
          | (go_at_call 44
             refine (numbersLen_any fb l w _ _ _ hl hnm'.out).mono ?_
             rintro e w1 ⟨rfl, hw⟩
             obtain rfl := hw.symm))
        clear hq
        go_loopw [11, 12, 13] (fun ev pv kv wi => ∃ k : Nat, k ≤ d ∧ LK k ≤ 1024 ∧ PK k ≤ 1024 ∧ kv = .int .i64 k ∧ pv = .int .i64 (PK k : Nat) ∧ ev = .int .i64 (LK k : Nat) ∧ wi = w) (fun _ _ kv _ => d - (intOf kv).toNat)
        case atStart => exact ⟨0, by omega, by rw [hl0.out]; omega, by rw [hpk0.out]; omega, rfl, by rw [hpk0.out]; rfl, by rw [hl0.out]; first | rfl | rw [hEi.out], rfl⟩
        case round =>
          obtain ⟨k, hk, hLb, hPb, rfl, rfl, rfl, hwr⟩ := hrel
          obtain rfl := hwr.symm
          clear hwr
          by_cases hkd : k < d
          · obtain ⟨T, bk, hF⟩ := level_facts hR.out (k := k) (by rw [← hd.out]; exact hkd)
            have hlast := hF.last
            rw [← hd.out, ← hLK.out] at hlast
            have hcc := hF.c
            rw [← hLK.out] at hcc
            have hws := hF.ws
            rw [← hLK.out] at hws
            have hout := hF.out
            have hinn := hF.inn
            rw [← hPK.out] at hout hinn
            have hzero := hF.zero
            replace hcc := hide hcc; replace hws := hide hws; replace hout := hide hout; replace hinn := hide hinn; replace hzero := hide hzero
            clear hF
            have hT : (!(((k : Int) == (d : Int) - 1) == (((LK k : Nat) : Int) == 1))) = false := by
              by_cases h1 : LK k = 1
              · have h2 := hlast.2 h1
                have e1 : ((k : Int) == (d : Int) - 1) = true := by simp; omega
                have e2 : (((LK k : Nat) : Int) == 1) = true := by simp; omega
                rw [e1, e2]; rfl
              · have h2 : ¬ (k + 1 = d) := fun h => h1 (hlast.1 h)
                have e1 : ((k : Int) == (d : Int) - 1) = false := by simp; omega
                have e2 : (((LK k : Nat) : Int) == 1) = false := by simp; omega
                rw [e1, e2]; rfl
            replace hlast := hide hlast
            go_wp2_with (first
              | (go_at_call 20
                 refine (wordsLen_any fb l w ob d cap k _ _ _ hl hwd'.out hkd hcc.out).mono ?_
                 rintro e w1 ⟨rfl, hw⟩
                 obtain rfl := hw.symm))
            go_loopw [15] (fun jv wi => ∃ j : Nat, j ≤ LK k ∧ jv = .int .i64 j ∧ wi = w) (fun jv _ => LK k - (intOf jv).toNat)
            case atStart => exact ⟨0, by omega, rfl, rfl⟩
            case round =>
              obtain ⟨j, hj, rfl, hwr⟩ := hrel
              obtain rfl := hwr.symm
              clear hwr
              by_cases hjn : j < LK k
              · go_wp2_with (fail)
                go_loopw [16, 17] (fun xv bv wi => ∃ b : Nat, b ≤ 64 ∧ bv = .int .i64 b ∧ xv = .int .u64 (expW T j b : Nat) ∧ wi = w) (fun _ bv _ => 64 - (intOf bv).toNat)
                case atStart => exact ⟨0, by omega, rfl, rfl, rfl⟩
                case round =>
                  obtain ⟨b, hb, rfl, rfl, hwr⟩ := hrel
                  obtain rfl := hwr.symm
                  clear hwr
                  have hxl := expW_lt T j b hb
                  by_cases hb64 : b < 64
                  · have hsu := hide (expW_succ T j b)
                    have hbm : b % 64 = b := Nat.mod_eq_of_lt hb64
                    have hor := or_word (expW T j b) b hxl
                    rw [hbm] at hor
                    have hix : j * 64 + b < 70000 := by omega
                    by_cases hk0 : k = 0
                    · have hk0b : ((k : Int) == 0) = true := by simp; omega
                      have hTi := (hzero.out hk0).2 (j * 64 + b)
                      replace hk0 := hide hk0
                      by_cases hlt : j * 64 + b < nn
                      · have hltb : decide ((j : Int) * 64 + (b : Int) < (nn : Int)) = true := decide_eq_true (by omega)
                        rw [decide_eq_true hlt, Bool.true_and] at hTi
                        obtain ⟨ab, ao, rfl, hac⟩ := hW.out (j * 64 + b) hlt
                        have hac' : w.cell? ⟨ab, ao + (j * 64 + b), none⟩ = some (.bool (S (j * 64 + b))) := hac
                        clear hac
                        have hti : ((j : Int) * 64 + (b : Int)).toNat = j * 64 + b := by omega
                        cases hS : S (j * 64 + b) with
                        | true =>
                          rw [hS] at hac' hTi
                          rw [hTi] at hsu
                          replace hTi := hide hTi
                          go_wp2_with (fail)
                          go_roundw
                          case rel => exact ⟨b + 1, by omega, by simp, by rw [hsu.out]; simp, trivial⟩
                          case measure => simp [intOf]; omega
                        | false =>
                          rw [hS] at hac' hTi
                          rw [hTi] at hsu
                          replace hTi := hide hTi
                          go_wp2_with (fail)
                          go_roundw
                          case rel => exact ⟨b + 1, by omega, by simp, by rw [hsu.out]; simp, trivial⟩
                          case measure => simp [intOf]; omega
                      · have hltb : decide ((j : Int) * 64 + (b : Int) < (nn : Int)) = false := decide_eq_false (by omega)
                        rw [decide_eq_false hlt, Bool.false_and] at hTi
                        rw [hTi] at hsu
                        replace hTi := hide hTi
                        go_wp2_with (fail)
                        go_roundw
                        case rel => exact ⟨b + 1, by omega, by simp, by rw [hsu.out]; simp, trivial⟩
                        case measure => simp [intOf]; omega
                    · have hk0b : ((k : Int) == 0) = false := by simp; omega
                      obtain ⟨k', hkk⟩ : ∃ k', k = k' + 1 := ⟨k - 1, by omega⟩
                      have hkm := hide (show (k : Int) - 1 = (k' : Nat) by omega)
                      have hti := hide (show ((j : Int) * 64 + (b : Int)) = ((j * 64 + b : Nat) : Int) by omega)
                      by_cases hlt : j * 64 + b < PK k
                      · obtain ⟨b', x, hc1, hx, hTi⟩ := hinn.out k' hkk (j * 64 + b) hlt
                        have hltb : decide ((j : Int) * 64 + (b : Int) < ((PK k : Nat) : Int)) = true := decide_eq_true (by omega)
                        replace hc1 := hide hc1; replace hx := hide hx; replace hkk := hide hkk
                        by_cases hx0 : x = 0
                        · have hxb : ((x : Int) != 0) = false := by simp [hx0]
                          rw [decide_eq_false (by simp [hx0])] at hTi
                          rw [hTi] at hsu
                          replace hTi := hide hTi; replace hx0 := hide hx0
                          go_wp2_with (first
                            | (go_at_call 21
                               refine (word_at fb l w ob d cap k' b' _ _ (j * 64 + b) _ _ _ hkm.out hti.out hl hwd'.out (by have := hkk.out; omega) hc1.out hlt hx.out).mono ?_
                               rintro e w1 ⟨rfl, hw⟩
                               obtain rfl := hw.symm))
                          go_roundw
                          case rel => exact ⟨b + 1, by omega, by simp, by rw [hsu.out]; simp, trivial⟩
                          case measure => simp [intOf]; omega
                        · have hxb : ((x : Int) != 0) = true := by simp [hx0]
                          rw [decide_eq_true hx0] at hTi
                          rw [hTi] at hsu
                          replace hTi := hide hTi; replace hx0 := hide hx0
                          go_wp2_with (first
                            | (go_at_call 21
                               refine (word_at fb l w ob d cap k' b' _ _ (j * 64 + b) _ _ _ hkm.out hti.out hl hwd'.out (by have := hkk.out; omega) hc1.out hlt hx.out).mono ?_
                               rintro e w1 ⟨rfl, hw⟩
                               obtain rfl := hw.symm))
                          go_roundw
                          case rel => exact ⟨b + 1, by omega, by simp, by rw [hsu.out]; simp, trivial⟩
                          case measure => simp [intOf]; omega
                      · have hTi := hout.out k' hkk (j * 64 + b) hlt
                        have hltb : decide ((j : Int) * 64 + (b : Int) < ((PK k : Nat) : Int)) = false := decide_eq_false (by omega)
                        replace hkk := hide hkk
                        rw [hTi] at hsu
                        replace hTi := hide hTi
                        go_wp2_with (fail)
                        go_roundw
                        case rel => exact ⟨b + 1, by omega, by simp, by rw [hsu.out]; simp, trivial⟩
                        case measure => simp [intOf]; omega
                  · obtain rfl : b = 64 := by omega
                    simp only [show ((64 : Nat) : Int) = 64 from rfl]
                    have hwj := hide (hws.out j hjn)
                    have hea := expW_all T j
                    rw [hea]
                    replace hea := hide hea
                    by_cases hk0 : k = 0
                    · have hk0b : ((k : Int) == 0) = true := by simp; omega
                      have hb0 := (hzero.out hk0).1
                      have hl00 : j < E := by have := hl0.out; rw [hk0] at hjn; omega
                      replace hk0 := hide hk0; replace hb0 := hide hb0
                      go_wp2_with (first
                        | (go_at_call 21
                           refine (word_any fb l w ob d cap k bk _ _ j _ hl hwd'.out hkd hcc.out hjn hwj.out).mono ?_
                           rintro e w1 ⟨rfl, hw⟩
                           obtain rfl := hw.symm)
                        | (go_at_call 45
                           refine (number_any fb l w b0 _ _ j _ hl hnm'.out hl00 (by rw [← hb0.out]; exact hwj.out)).mono ?_
                           rintro e w1 ⟨rfl, hw⟩
                           obtain rfl := hw.symm))
                      go_roundw
                      case rel => exact ⟨j + 1, by omega, by simp, trivial⟩
                      case measure => simp [intOf]; omega
                    · have hk0b : ((k : Int) == 0) = false := by simp; omega
                      replace hk0 := hide hk0
                      go_wp2_with (first
                        | (go_at_call 21
                           refine (word_any fb l w ob d cap k bk _ _ j _ hl hwd'.out hkd hcc.out hjn hwj.out).mono ?_
                           rintro e w1 ⟨rfl, hw⟩
                           obtain rfl := hw.symm))
                      go_roundw
                      case rel => exact ⟨j + 1, by omega, by simp, trivial⟩
                      case measure => simp [intOf]; omega
              · obtain rfl : j = LK k := by omega
                have hsk := hlks.out k hkd
                have hskb : LK (k + 1) ≤ 1024 := by omega
                have hpk := hpks.out k
                replace hsk := hide hsk; replace hpk := hide hpk
                go_wp2_with (fail)
                go_roundw
                case rel => exact ⟨k + 1, by omega, hskb, by rw [hpk.out]; exact hLb, by simp, by rw [hpk.out], by rw [hsk.out]; simp, trivial⟩
                case measure => simp [intOf]; omega
          · obtain rfl : k = d := by omega
            go_wp2_with (fail)
            go_ret
            exact ⟨rfl, rfl⟩
end Go.Proofs.Qxb6609507a
