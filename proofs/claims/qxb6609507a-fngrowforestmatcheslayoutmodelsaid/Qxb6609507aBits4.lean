import Derived.Test.Qxb6609507aSet2
namespace Go.Proofs.Qxb6609507a
set_option linter.unusedVariables false
set_option linter.unusedSimpArgs false
theorem cntB_ext {S S' : Nat → Bool} : ∀ {n : Nat}, (∀ i, i < n → S i = S' i) → cntB S n = cntB S' n
  | 0, _ => rfl
  | n + 1, h => by rw [cntB_succ, cntB_succ, cntB_ext (fun i hi => h i (by omega)), h n (by omega)]
theorem cntB_add {S : Nat → Bool} {i : Nat} (hS : S i = false) : ∀ {n : Nat}, i < n → cntB (fun k => S k || decide (k = i)) n = cntB S n + 1
  | 0, h => by omega
  | n + 1, h => by
    rw [cntB_succ, cntB_succ]
    by_cases e : i = n
    · subst e
      rw [cntB_ext (S := fun k => S k || decide (k = i)) (S' := S) (fun k hk => by
        have : ¬ (k = i) := by omega
        simp [this])]
      simp [hS]
    · rw [cntB_add hS (by omega)]
      have : ¬ (n = i) := fun x => e x.symm
      simp [this]; omega
theorem cntSum_mono (T : Topo) (tl : List Nat) (k : Nat) : ∀ (j m : Nat), m ≤ j → j ≤ tl.length → cntSum T tl k m ≤ cntSum T tl k j
  | 0, m, h, _ => by rw [show m = 0 by omega]; exact Nat.le_refl _
  | j + 1, m, h, hj => by
    by_cases e : m = j + 1
    · rw [e]; exact Nat.le_refl _
    · rw [cntSum_succ T tl k j (by omega)]
      exact Nat.le_trans (cntSum_mono T tl k j m (by omega) (by omega)) (by omega)
theorem ordJ_eq {T : Topo} {tl : List Nat} {j : Nat} (hj : j < tl.length) : ordJ T tl j = cntSum T tl (tl.getD j 0) j := by
  unfold ordJ; exact (stJ_len T tl _ j (by omega)).1
theorem inJ_new {T : Topo} {tl : List Nat} {j : Nat} (hj : j < tl.length) : inJ T tl j (tl.getD j 0) (ordJ T tl j) = false := by
  unfold inJ
  rw [List.any_eq_false]
  intro m hm
  have hmj := List.mem_range.1 hm
  by_cases e : tl.getD m 0 = tl.getD j 0
  · have h1 := cntSum_mono T tl (tl.getD j 0) j (m + 1) (by omega) (by omega)
    have hml : m < tl.length := by omega
    rw [cntSum_succ T tl _ m hml, ← e, getD_at hml, cntT_self] at h1
    have h2 := ordJ_eq (T := T) (tl := tl) hml
    have h3 := ordJ_eq (T := T) (tl := tl) hj
    rw [← e, getD_at hml] at h3
    rw [getD_at hml] at h2
    have : ¬ (ordJ T tl m = ordJ T tl j) := by omega
    simp [this]
  · rw [decide_eq_false e]; simp
theorem cnJ_cnt (T : Topo) (tl : List Nat) : ∀ j, j ≤ tl.length → ∀ k, cnJ tl j k = cntB (inJ T tl j k) (Nof T tl k)
  | 0, _, k => by
    have : cntB (inJ T tl 0 k) (Nof T tl k) = cntB (fun _ => false) (Nof T tl k) := cntB_ext (fun i _ => by simp [inJ])
    have h0 : ∀ n, cntB (fun _ => false) n = 0 := by
      intro n
      induction n with
      | zero => rfl
      | succ n ih => rw [cntB_succ, ih]; rfl
    rw [this, h0]; rfl
  | j + 1, hj, k => by
    have ih := cnJ_cnt T tl j (by omega)
    rw [cnJ]
    split
    · rename_i h
      subst h
      rw [ih, ← cntB_add (inJ_new (by omega)) (ordJ_lt (by omega))]
      apply cntB_ext
      intro i _
      rw [inJ_succ]
      simp [eq_comm]
    · rename_i h
      rw [ih]
      apply cntB_ext
      intro i _
      have hd : decide (tl.getD j 0 = k) = false := decide_eq_false (fun e => h e.symm)
      rw [inJ_succ, hd, Bool.false_and, Bool.or_false]
end Go.Proofs.Qxb6609507a
