import Derived.Test.Qxb6609507aClosed
namespace Go.Proofs.Qxb6609507a
set_option linter.unusedVariables false
set_option linter.unusedSimpArgs false
/-! ### Trees given largest first -/
def Desc (tl : List Nat) : Prop := ∀ i (h : i + 1 < tl.length), tl[i + 1] ≤ tl[i]
theorem Desc.le {tl : List Nat} (h : Desc tl) : ∀ (j i : Nat) (hj : j < tl.length) (hi : i ≤ j), tl[j] ≤ tl[i]
  | 0, i, hj, hi => by obtain rfl : i = 0 := by omega
                       exact Nat.le_refl _
  | j + 1, i, hj, hi => by
    by_cases e : i = j + 1
    · subst e; exact Nat.le_refl _
    · exact Nat.le_trans (h j hj) (h.le j i (by omega) (by omega))
theorem Desc.take {tl : List Nat} (h : Desc tl) {j : Nat} (hj : j < tl.length) : ∀ t ∈ tl.take j, tl[j] ≤ t := by
  intro t ht
  obtain ⟨i, hi, rfl⟩ := List.getElem_of_mem ht
  rw [List.getElem_take]
  have : i < j := by simp at hi; omega
  exact h.le j i hj (by omega)
theorem sum_sz (T : Topo) (l : Nat) : ∀ (ts : List Nat), (∀ t ∈ ts, l ≤ t ∧ t ≤ 4) → (ts.map T.sz).sum = (ts.map fun t => cntT T t l).sum * T.sz l
  | [], _ => by simp
  | t :: ts, h => by
    have ih := sum_sz T l ts (fun x hx => h x (List.mem_cons_of_mem _ hx))
    have ht := h t (by simp)
    simp only [List.map_cons, List.sum_cons, Nat.add_mul, ih, cntT_sz T t l ht.2 ht.1]
theorem sum_step (T : Topo) (l : Nat) : ∀ (ts : List Nat), (∀ t ∈ ts, l + 1 ≤ t) → (ts.map fun t => cntT T t l).sum = (ts.map fun t => cntT T t (l + 1)).sum * T.fan (l + 1)
  | [], _ => by simp
  | t :: ts, h => by
    have ih := sum_step T l ts (fun x hx => h x (List.mem_cons_of_mem _ hx))
    simp only [List.map_cons, List.sum_cons, Nat.add_mul, ih, cntT_step T t l (h t (by simp))]
theorem cntSum_inner (T : Topo) (tl : List Nat) (l j : Nat) : cntSum T tl (l + 1) j * T.fan (l + 1) ≤ cntSum T tl l j := inner_le T (tl.take j) l
/-- A level's links where the trees are given largest first. -/
def linkD (T : Topo) (B : Nat → Nat) (l i : Nat) : LinkE := ⟨i * T.sz l, if i < B (l + 1) * T.fan (l + 1) then ((i / T.fan (l + 1) : Nat) : Int) else -1, if l = 0 then -1 else ((i * T.fan l : Nat) : Int)⟩
theorem stJ_desc (T : Topo) (tl : List Nat) (ht : ∀ t ∈ tl, t ≤ 4) (hd : Desc tl) : ∀ j, j ≤ tl.length → ∀ l, (stJ T tl j).k l = (List.range (cntSum T tl l j)).map (linkD T (fun m => cntSum T tl m j) l)
  | 0, _, l => by simp [stJ, st0, cntSum]
  | j + 1, hj, l => by
    have ih := stJ_desc T tl ht hd j (by omega) l
    have hjl : j < tl.length := by omega
    have htj : tl[j] ≤ 4 := ht _ (List.getElem_mem hjl)
    have hall : ∀ t ∈ tl.take j, tl[j] ≤ t ∧ t ≤ 4 := fun t h => ⟨hd.take hjl t h, ht t (List.mem_of_mem_take h)⟩
    have hB : ∀ m, lens (stJ T tl j) m = cntSum T tl m j := fun m => (stJ_len T tl m j (by omega)).1
    have hs : ∀ m, cntSum T tl m (j + 1) = cntSum T tl m j + cntT T tl[j] m := fun m => cntSum_succ T tl m j hjl
    have hc := (growP_closed T tl[j] htj (offJ T tl j) (-1) (stJ T tl j) l).2
    rw [stJ, getD_at hjl, hc, ih, hs l, List.range_add, List.map_append, List.map_map]
    by_cases hl : l ≤ tl[j]
    · have hoff : offJ T tl j = cntSum T tl l j * T.sz l := sum_sz T l _ (fun t h => ⟨Nat.le_trans hl (hall t h).1, (hall t h).2⟩)
      congr 1
      · apply List.map_congr_left
        intro i hi
        have hi' := List.mem_range.1 hi
        simp only [linkD, LinkE.mk.injEq, true_and, and_true]
        by_cases h2 : l + 1 ≤ tl[j]
        · have hst : cntSum T tl l j = cntSum T tl (l + 1) j * T.fan (l + 1) := sum_step T l _ (fun t h => Nat.le_trans h2 (hall t h).1)
          rw [if_pos (by omega), if_pos (by rw [hs, Nat.add_mul]; omega)]
        · have : cntT T tl[j] (l + 1) = 0 := cntT_above T _ _ (by omega)
          have e : cntSum T tl (l + 1) (j + 1) = cntSum T tl (l + 1) j := by rw [hs, this, Nat.add_zero]
          simp only [e]
      · apply List.map_congr_left
        intro i hi
        have hi' := List.mem_range.1 hi
        simp only [Function.comp, linkD, linkG, LinkE.mk.injEq, hB]
        refine ⟨by rw [hoff, Nat.add_mul], ?_, ?_⟩
        · by_cases h2 : l = tl[j]
          · rw [if_pos h2, if_neg]
            have : cntT T tl[j] (l + 1) = 0 := cntT_above T _ _ (by omega)
            have hin := cntSum_inner T tl l j
            rw [hs, this, Nat.add_zero]; omega
          · have hst : cntSum T tl l j = cntSum T tl (l + 1) j * T.fan (l + 1) := sum_step T l _ (fun t h => by have := (hall t h).1; omega)
            have hcs := cntT_step T tl[j] l (by omega)
            have hf : 0 < T.fan (l + 1) := by
              rcases Nat.eq_zero_or_pos (T.fan (l + 1)) with h | h
              · rw [hcs, h, Nat.mul_zero] at hi'; omega
              · exact h
            rw [if_neg h2, if_pos (by rw [hs, Nat.add_mul, ← hcs, ← hst]; omega), hst, Nat.add_comm (cntSum T tl (l + 1) j * T.fan (l + 1)), Nat.add_mul_div_right _ _ hf, Nat.add_comm]
        · by_cases h0 : l = 0
          · rw [if_pos h0, if_pos h0]
          · rw [if_neg h0, if_neg h0]
            have hst : cntSum T tl (l - 1) j = cntSum T tl (l - 1 + 1) j * T.fan (l - 1 + 1) := sum_step T (l - 1) _ (fun t h => by have := (hall t h).1; omega)
            rw [show l - 1 + 1 = l by omega] at hst
            rw [hst, Nat.add_mul]
    · have h0 : cntT T tl[j] l = 0 := cntT_above T _ _ (by omega)
      have h1 : cntT T tl[j] (l + 1) = 0 := cntT_above T _ _ (by omega)
      rw [h0]
      simp only [List.range_zero, List.map_nil, List.append_nil]
      apply List.map_congr_left
      intro i hi
      have e : cntSum T tl (l + 1) (j + 1) = cntSum T tl (l + 1) j := by rw [hs, h1, Nat.add_zero]
      simp only [linkD, LinkE.mk.injEq, true_and, and_true, e]
/-- The last state's links, level by level. -/
theorem links_desc (T : Topo) (tl : List Nat) (ht : ∀ t ∈ tl, t ≤ 4) (hd : Desc tl) (l i : Nat) (hi : i < Nof T tl l) : ∃ h : i < ((stJ T tl tl.length).k l).length, ((stJ T tl tl.length).k l)[i] = linkD T (Nof T tl) l i := by
  have h := stJ_desc T tl ht hd tl.length (Nat.le_refl _) l
  have hB : (fun m => cntSum T tl m tl.length) = Nof T tl := by funext m; exact cntSum_all T tl m
  rw [hB, cntSum_all] at h
  refine ⟨by rw [h]; simpa using hi, ?_⟩
  simp [h]
theorem parent_lt {T : Topo} {tl : List Nat} {l i : Nat} (h : i < Nof T tl (l + 1) * T.fan (l + 1)) : 1 ≤ T.fan (l + 1) ∧ i / T.fan (l + 1) < Nof T tl (l + 1) := by
  have hf : 0 < T.fan (l + 1) := by
    rcases Nat.eq_zero_or_pos (T.fan (l + 1)) with h' | h'
    · rw [h', Nat.mul_zero] at h; omega
    · exact h'
  exact ⟨hf, (Nat.div_lt_iff_lt_mul hf).2 h⟩
end Go.Proofs.Qxb6609507a
