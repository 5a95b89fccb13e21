import Derived.Test.Qxb6609507aSet3
import Derived.Test.Qxb6609507aFlag
import Derived.Test.Qxb6609507aOps6
namespace Go.Proofs.Qxb6609507a
set_option linter.unusedVariables false
set_option linter.unusedSimpArgs false
open Go.ChangeShapes Go.WideShapes Go.ChangeAt Go.RowKit
theorem SetR.upd {fb l nn cnt : Nat} {S : Nat → Bool} {ob cap b0 : Nat} {bs : List Nat} {w w' : World} (h : SetR fb l nn cnt S ob cap b0 bs w) (hu : Upd [] w w') : SetR fb l nn cnt S ob cap b0 bs w' :=
  ⟨cell_upd h.wd hu (by simp), cell_upd h.nm hu (by simp), cell_upd h.n hu (by simp), h.rows.upd hu (by simp) (by simp), h.hd⟩
/-- The layout's rows of flags. -/
structure TopR (N : Nat → Nat) (S : Nat → Nat → Bool) (mB : Nat) (ad : Nat → Option Addr) (cp : Nat → Nat) (w : World) : Prop where
  t : ∀ l, l < 5 → w.cell? ⟨mB, 26 + l, none⟩ = some (.slice (ad l) (N l) (cp l))
  tc : ∀ l, l < 5 → ∀ i, i < N l → ∃ g, ad l = some ⟨g, 0, none⟩ ∧ w.cell? ⟨g, i, none⟩ = some (.bool (S l i))
theorem TopR.upd {N : Nat → Nat} {S : Nat → Nat → Bool} {mB : Nat} {ad : Nat → Option Addr} {cp : Nat → Nat} {w w' : World} (h : TopR N S mB ad cp w) (hu : Upd [] w w') : TopR N S mB ad cp w' := by
  have k : ∀ {b o v}, w.cell? ⟨b, o, none⟩ = some v → w'.cell? ⟨b, o, none⟩ = some v := fun h => cell_upd h hu (by simp)
  refine ⟨fun l hl => k (h.t l hl), fun l hl i hi => ?_⟩
  obtain ⟨g, e, hc⟩ := h.tc l hl i hi; exact ⟨g, e, k hc⟩
def wantV (S : Nat → Bool) (n i : Nat) : List Value := (List.range n).map fun k => .bool (decide (k < i) && S k)
theorem wantV_zero (S : Nat → Bool) (n : Nat) : wantV S n 0 = List.replicate n (.bool false) := by
  unfold wantV
  apply List.ext_getElem (by simp)
  intro k h1 h2
  simp
theorem wantV_set (S : Nat → Bool) (n i : Nat) (hi : i < n) : (wantV S n i).set i (.bool (S i)) = wantV S n (i + 1) := by
  unfold wantV
  apply List.ext_getElem (by simp)
  intro k h1 h2
  rw [List.getElem_set]
  simp only [List.getElem_map, List.getElem_range]
  by_cases e : i = k
  · subst e; simp
  · have : decide (k < i + 1) = decide (k < i) := by simp; omega
    rw [if_neg e, this]
theorem wantV_get (S : Nat → Bool) (n i : Nat) (hi : i < n) : (wantV S n i)[i]? = some (.bool false) := by
  unfold wantV; simp [hi]
theorem wants_of {S : Nat → Bool} {n b : Nat} {w : World} (h : Blk w b (wantV S n n) 4) : Wants w (some ⟨b, 0, none⟩) n S := by
  intro i hi
  refine ⟨b, 0, rfl, ?_⟩
  rw [h.cell]
  unfold wantV
  simp [hi]
set_option maxRecDepth 100000 in
set_option maxHeartbeats 1000000 in
/-- zzFreeMatches (14), with no cell to skip. -/
theorem freeMatches_any (fb mB : Nat) (N : Nat → Nat) (S : Nat → Nat → Bool) (ob cap b0 : Nat → Nat) (bs : Nat → List Nat) (ad : Nat → Option Addr) (cp : Nat → Nat) (w : World) (hN : ∀ l, N l ≤ 65536)
    (hR : ∀ l, l < 5 → SetR fb l (N l) (cntB (S l) (N l)) (S l) (ob l) (cap l) (b0 l) (bs l) w) (hM : TopR N S mB ad cp w) :
    Calls Try.prog 14 #[.pointer (some ⟨fb, 0, none⟩), .pointer (some ⟨mB, 0, none⟩), .int .i64 (-1), .int .i32 0] w fun e w' => e = .returned (.bool true) ∧ Upd [] w w' := by
  obtain ⟨i0, hi, hz0, hz1, hz2⟩ := info_parts info4
  replace hR := hide hR; replace hM := hide hM; replace hN := hide hN
  go_enter Try.func14, Try.ntmps14
  go_wp2_with (fail)
  go_loopw [9] (fun lv wr => ∃ l : Nat, l ≤ 5 ∧ lv = .int .i64 l ∧ Upd [] w wr) (fun lv _ => 5 - (intOf lv).toNat)
  case atStart => exact ⟨0, by omega, rfl, Upd.refl _ _⟩
  case round =>
    obtain ⟨l, hl, rfl, hu⟩ := hrel
    obtain ⟨wo, hwo⟩ : ∃ x : World, x = wr := ⟨_, rfl⟩
    subst hwo
    by_cases hlt : l < 5
    · have hM1 := hM.out.upd hu
      have hN1 := hN.out l
      have hcm := hM1.t l hlt
      replace hM1 := hide hM1
      replace hu := hide hu
      go_wp2_with (at_make; refine wpList_make_full _ rfl _ _ 30 rfl wo.heap.size 4 i0 _ 1 Try.underlying30 hi hz0 hz1 _ _ _ _ (N l) rfl rfl rfl rfl (by rw [hz2]; omega) (by unfold maxLen; omega) (Nat.le_refl _) ?_; intro w1 hown hgrow)
      have hb0 : Blk w1 wo.heap.size (wantV (S l) (N l) 0) 4 := by
        have := ownsRow_blk hown
        rw [show (Value.bool false).cells = #[Value.bool false] from rfl, Nat.mul_one, toList_madeCells_one] at this
        rw [wantV_zero]; exact this
      have hl1 : Below wo.heap.size wo w1 := (Below.refl _ _).grown hgrow (Nat.le_refl _) (fun k hk => by cases hk)
      clear hown hgrow
      replace hb0 := hide hb0; replace hl1 := hide hl1
      go_loopw [12] (fun iv wi => ∃ i : Nat, i ≤ N l ∧ iv = .int .i64 i ∧ Blk wi wo.heap.size (wantV (S l) (N l) i) 4 ∧ Below wo.heap.size wo wi) (fun iv _ => N l - (intOf iv).toNat)
      case atStart => exact ⟨0, Nat.zero_le _, rfl, hb0.out, hl1.out⟩
      case round =>
        clear hb0 hl1
        obtain ⟨i, hi, rfl, hb, hbel⟩ := hrel
        have hub := Upd.ofBelow hbel
        have hM2 := hM1.out.upd hub
        by_cases hin : i < N l
        · obtain ⟨g, hg, hgc⟩ := hM2.tc l hlt i hin
          have hcm2 := hM2.t l hlt
          rw [hg] at hcm2
          have hcy : wr.cell? ⟨wo.heap.size, i, none⟩ = some (.bool false) := by rw [hb.cell]; exact wantV_get _ _ _ hin
          have hzy := hb.frozen i
          have hb' := hide (hb.setCell i (.bool (S l i)))
          rw [wantV_set _ _ _ hin] at hb'
          have hbel' := hide (hbel.setCell (p := ⟨wo.heap.size, i, none⟩) (Nat.le_refl _) (.bool (S l i)))
          have hls : ((l : Int) == -1) = false := by simp
          replace hb := hide hb; replace hbel := hide hbel; replace hub := hide hub; replace hM2 := hide hM2; replace hg := hide hg
          cases hS : S l i with
          | true =>
            rw [hS] at hb' hbel' hgc
            go_wp2_with (fail)
            go_roundw
            case rel => exact ⟨i + 1, by omega, by simp, hb'.out, hbel'.out⟩
            case measure => simp [intOf]; omega
          | false =>
            rw [hS] at hb' hbel' hgc
            go_wp2_with (fail)
            go_roundw
            case rel => exact ⟨i + 1, by omega, by simp, hb'.out, hbel'.out⟩
            case measure => simp [intOf]; omega
        · obtain rfl : i = N l := by omega
          have hR2 := (hR.out l hlt).upd (hu.out.trans hub)
          have hW2 := wants_of hb
          replace hR2 := hide hR2; replace hW2 := hide hW2
          replace hb := hide hb; replace hbel := hide hbel; replace hub := hide hub; replace hM2 := hide hM2
          go_wp2_with (first
            | (go_at_call 22
               refine (setMatches_any fb l (N l) (S l) _ _ _ _ _ _ _ hlt hN1 hR2.out hW2.out).mono ?_
               rintro e w2 ⟨rfl, hw⟩
               obtain rfl := hw.symm))
          go_roundw
          case rel => exact ⟨l + 1, by omega, by simp, hu.out.trans hub.out⟩
          case measure => simp [intOf]; omega
    · obtain rfl : l = 5 := by omega
      simp only [show ((5 : Nat) : Int) = 5 from rfl]
      go_wp2_with (fail)
      go_ret
      exact ⟨rfl, hu⟩
end Go.Proofs.Qxb6609507a
