import Derived.Test.Qxb6609507aBits4
import Derived.Test.Qxb6609507aClosed
namespace Go.Proofs.Qxb6609507a
set_option linter.unusedVariables false
set_option linter.unusedSimpArgs false
theorem inJ_lt {T : Topo} {tl : List Nat} {j k i : Nat} (hj : j ≤ tl.length) (h : inJ T tl j k i = true) : i < cntSum T tl k j := by
  unfold inJ at h
  rw [List.any_eq_true] at h
  obtain ⟨m, hm, he⟩ := h
  have hmj := List.mem_range.1 hm
  simp only [Bool.and_eq_true, decide_eq_true_eq] at he
  obtain ⟨h1, h2⟩ := he
  have hml : m < tl.length := by omega
  have h3 := cntSum_mono T tl k j (m + 1) (by omega) hj
  rw [cntSum_succ T tl _ m hml, ← h1, getD_at hml, cntT_self] at h3
  have h4 := ordJ_eq (T := T) (tl := tl) hml
  rw [getD_at hml] at h4
  rw [← h1, getD_at hml]
  omega
/-- The cells of the forest: each with its number, its level and whether it is a root. -/
theorem cells_flag (T : Topo) (tl : List Nat) (ht : ∀ t ∈ tl, t ≤ 4) : ∀ j, j ≤ tl.length → ∀ k i, i < cntSum T tl k j → ((stJ T tl j).c k)[i]? = some ⟨i, k, inJ T tl j k i⟩
  | 0, _, k, i, h => by simp [cntSum] at h
  | j + 1, hj, k, i, h => by
    have hjl : j < tl.length := by omega
    have ih := cells_flag T tl ht j (by omega) k i
    have hlen := (stJ_len T tl k j (by omega)).1
    have hc := (growP_closed T (tl.getD j 0) (by rw [getD_at hjl]; exact ht _ (List.getElem_mem hjl)) (offJ T tl j) (-1) (stJ T tl j) k).1
    rw [stJ, hc, inJ_succ]
    have ho := ordJ_eq (T := T) (tl := tl) hjl
    by_cases hi : i < cntSum T tl k j
    · rw [List.getElem?_append_left (by rw [hlen]; exact hi), ih hi]
      have : (decide (tl.getD j 0 = k) && decide (ordJ T tl j = i)) = false := by
        by_cases e : tl.getD j 0 = k
        · rw [e] at ho
          have : ¬ (ordJ T tl j = i) := by omega
          simp [this]
        · rw [decide_eq_false e]; rfl
      rw [this, Bool.or_false]
    · rw [List.getElem?_append_right (by rw [hlen]; omega), hlen]
      rw [cntSum_succ T tl k j hjl, ← getD_at hjl] at h
      have hlt : i - cntSum T tl k j < cntT T (tl.getD j 0) k := by omega
      have hn : inJ T tl j k i = false := by
        cases hq : inJ T tl j k i with
        | false => rfl
        | true => exact absurd (inJ_lt (by omega) hq) hi
      rw [hn, Bool.false_or]
      simp only [List.getElem?_map, List.getElem?_range hlt, Option.map_some, cellG, lens, hlen, Option.some.injEq, CellE.mk.injEq, true_and]
      refine ⟨by omega, ?_⟩
      by_cases e : k = tl.getD j 0
      · rw [if_pos e, decide_eq_true e.symm]
        rw [← e, cntT_self] at hlt
        rw [← e] at ho
        have : ordJ T tl j = i := by omega
        simp [this]
      · rw [if_neg e, decide_eq_false (fun x => e x.symm)]; rfl
theorem cells_all (T : Topo) (tl : List Nat) (ht : ∀ t ∈ tl, t ≤ 4) (k : Nat) : (stJ T tl tl.length).c k = (List.range (Nof T tl k)).map fun i => ⟨i, k, inJ T tl tl.length k i⟩ := by
  have hlen := (stJ_len T tl k tl.length (Nat.le_refl _)).1
  rw [cntSum_all] at hlen
  apply List.ext_getElem?
  intro i
  by_cases hi : i < Nof T tl k
  · rw [cells_flag T tl ht tl.length (Nat.le_refl _) k i (by rw [cntSum_all]; exact hi)]
    simp [hi]
  · rw [List.getElem?_eq_none (by omega), List.getElem?_eq_none (by simp; omega)]
end Go.Proofs.Qxb6609507a
