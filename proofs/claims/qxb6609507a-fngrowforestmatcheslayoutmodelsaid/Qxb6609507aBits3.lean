import Derived.Test.Qxb6609507aBits2
import Derived.Test.Qxb6609507aForest6
namespace Go.Proofs.Qxb6609507a
set_option linter.unusedVariables false
set_option linter.unusedSimpArgs false
theorem setRows_len (n : Nat) : ∀ (S : Nat → Bool), (setRows n S).length = (emptyRows n).length := by
  induction n using Nat.strongRecOn with
  | ind n ih =>
    intro S
    rw [setRows, emptyRows]
    split
    · rfl
    · rename_i h
      rw [List.length_cons, List.length_cons, ih _ (div_lt_of h)]
/-- The roots of level k among the first j trees. -/
def inJ (T : Topo) (tl : List Nat) (j k i : Nat) : Bool := (List.range j).any fun m => decide (tl.getD m 0 = k) && decide (ordJ T tl m = i)
theorem inJ_succ (T : Topo) (tl : List Nat) (j k i : Nat) : inJ T tl (j + 1) k i = (inJ T tl j k i || (decide (tl.getD j 0 = k) && decide (ordJ T tl j = i))) := by
  unfold inJ; rw [List.range_succ, List.any_append]; simp
theorem ordJ_lt {T : Topo} {tl : List Nat} {j : Nat} (hj : j < tl.length) : ordJ T tl j < Nof T tl (tl.getD j 0) := by
  rw [getD_at hj]
  have h1 := cntSum_le T tl tl[j] (j + 1)
  rw [cntSum_succ T tl _ j hj, cntT_self] at h1
  unfold ordJ; rw [getD_at hj, (stJ_len T tl _ j (by omega)).1]; omega
theorem rowsJ_set (T : Topo) (tl : List Nat) : ∀ j, j ≤ tl.length → ∀ k, rowsJ T tl j k = setRows (Nof T tl k) (inJ T tl j k)
  | 0, _, k => by
    rw [rowsJ, setRows_empty]
    apply setRows_ext
    intro i _
    simp [inJ]
  | j + 1, hj, k => by
    have ih := rowsJ_set T tl j (by omega)
    rw [rowsJ]
    split
    · rename_i h
      subst h
      rw [ih, addRows_set _ _ _ (ordJ_lt (by omega))]
      apply setRows_ext
      intro i _
      rw [inJ_succ]
      simp [eq_comm]
    · rename_i h
      rw [ih]
      apply setRows_ext
      intro i _
      rw [inJ_succ]
      have hd : decide (tl.getD j 0 = k) = false := decide_eq_false (fun e => h e.symm)
      rw [hd, Bool.false_and, Bool.or_false]
end Go.Proofs.Qxb6609507a
