import Derived.Test.Qxb6609507aForest
namespace Go.Proofs.Qxb6609507a
set_option linter.unusedVariables false
/-! ### Plain facts of the sets and of the counts -/
theorem inRows_empty (n : Nat) : ∀ i, i < n → InRows (emptyRows n) i := by
  induction n using Nat.strongRecOn with
  | ind n ih =>
    intro i hi
    rw [emptyRows]
    split
    · rename_i h
      exact ⟨by simp; omega, trivial⟩
    · rename_i h
      exact ⟨by simp; omega, ih _ (div_lt_of h) (i / 64) (by omega)⟩
theorem emptyRows_words (n : Nat) : ∀ ws ∈ emptyRows n, ∀ x ∈ ws, x = 0 := by
  induction n using Nat.strongRecOn with
  | ind n ih =>
    rw [emptyRows]
    split
    · intro ws hws x hx
      obtain rfl : ws = _ := by simpa using hws
      exact List.eq_of_mem_replicate hx
    · rename_i h
      intro ws hws x hx
      rcases List.mem_cons.1 hws with rfl | hws
      · exact List.eq_of_mem_replicate hx
      · exact ih _ (div_lt_of h) ws hws x hx
theorem emptyRows_len (n : Nat) (hn : n ≤ 262144) : (emptyRows n).length ≤ 3 := by
  rw [emptyRows]
  split
  · simp
  · rw [List.length_cons, emptyRows]
    split
    · simp
    · rw [List.length_cons, emptyRows]
      split
      · simp
      · omega
/-- The shape of the rows abides. -/
theorem addRows_shape : ∀ (rs : List (List Nat)) (i : Nat), (addRows rs i).map List.length = rs.map List.length
  | [], _ => rfl
  | ws :: rest, i => by
    unfold addRows
    rw [List.map_cons, List.map_cons, List.length_set]
    split
    · rfl
    · rw [addRows_shape rest]
theorem inRows_shape : ∀ (rs rs' : List (List Nat)) (i : Nat), rs'.map List.length = rs.map List.length → InRows rs i → InRows rs' i
  | [], [], _, _, _ => trivial
  | [], _ :: _, _, h, _ => by simp at h
  | _ :: _, [], _, h, _ => by simp at h
  | ws :: rest, ws' :: rest', i, h, hi => by
    simp only [List.map_cons, List.cons.injEq] at h
    exact ⟨by rw [h.1]; exact hi.1, inRows_shape rest rest' (i / 64) h.2 hi.2⟩
theorem addRows_small : ∀ (rs : List (List Nat)) (i : Nat), (∀ ws ∈ rs, ∀ x ∈ ws, x < 2 ^ 64) → ∀ ws ∈ addRows rs i, ∀ x ∈ ws, x < 2 ^ 64
  | [], _, _ => by simp [addRows]
  | ws :: rest, i, h => by
    unfold addRows
    intro ys hys x hx
    have hm : (2 : Nat) ^ (i % 64) < 2 ^ 64 := Nat.pow_lt_pow_right (by omega) (Nat.mod_lt _ (by omega))
    rcases List.mem_cons.1 hys with rfl | hys
    · rcases List.mem_or_eq_of_mem_set hx with h1 | rfl
      · exact h ws (by simp) x h1
      · refine Nat.or_lt_two_pow ?_ hm
        by_cases hl : i / 64 < ws.length
        · have : ws.getD (i / 64) 0 = ws[i / 64] := by simp [List.getD, hl]
          rw [this]; exact h ws (by simp) _ (List.getElem_mem hl)
        · have : ws.getD (i / 64) 0 = 0 := by simp [List.getD, List.getElem?_eq_none (Nat.le_of_not_lt hl)]
          rw [this]; exact Nat.pow_pos (by omega)
    · split at hys
      · exact h ys (List.mem_cons_of_mem _ hys) x hx
      · exact addRows_small rest (i / 64) (fun ws' h' => h ws' (List.mem_cons_of_mem _ h')) ys hys x hx

/-- A tree's cells of a level, by sizes. -/
theorem cntT_sz (T : Topo) : ∀ (t l : Nat), t ≤ 4 → l ≤ t → cntT T t l * T.sz l = T.sz t
  | 0, l, _, h => by
    obtain rfl : l = 0 := by omega
    simp [cntT]
  | t + 1, l, ht, h => by
    by_cases hl : l = t + 1
    · subst hl; rw [cntT_self]; omega
    · unfold cntT
      rw [if_neg hl, Nat.mul_assoc, cntT_sz T t l (by omega) (by omega), T.sz_succ t (by omega), Nat.mul_comm]
theorem cntT_div (T : Topo) (t l : Nat) (ht : t ≤ 4) (hl : l ≤ t) (hp : 1 ≤ T.sz l) : T.sz t / T.sz l = cntT T t l := by
  rw [← cntT_sz T t l ht hl, Nat.mul_div_cancel _ (by omega)]
theorem sz_pos_of {T : Topo} {t l : Nat} (ht : t ≤ 4) (hl : l ≤ t) (hp : 1 ≤ T.sz t) : 1 ≤ T.sz l := by
  have := cntT_sz T t l ht hl
  rcases Nat.eq_zero_or_pos (T.sz l) with h0 | h0
  · rw [h0, Nat.mul_zero] at this; omega
  · exact h0
/-- How many cells a level of the forest has. -/
def Nof (T : Topo) (tl : List Nat) (l : Nat) : Nat := (tl.map fun t => cntT T t l).sum
theorem Nof_le {T : Topo} {tl : List Nat} (h : Tops T tl) (l : Nat) : Nof T tl l ≤ 65536 := by
  refine Nat.le_trans ?_ h.sum
  unfold Nof
  have : ∀ t ∈ tl, cntT T t l ≤ T.sz t := by
    intro t ht
    by_cases hl : l ≤ t
    · have h1 := cntT_sz T t l (h.le t ht) hl
      have h2 := sz_pos_of (h.le t ht) hl (h.pos t ht)
      rw [← h1]; exact Nat.le_mul_of_pos_right _ h2
    · rw [cntT_above T t l (by omega)]; exact Nat.zero_le _
  clear h
  induction tl with
  | nil => simp
  | cons t tl ih =>
    simp only [List.map_cons, List.sum_cons]
    have h1 := this t (by simp)
    have h2 := ih (fun x hx => this x (List.mem_cons_of_mem _ hx))
    omega
end Go.Proofs.Qxb6609507a
