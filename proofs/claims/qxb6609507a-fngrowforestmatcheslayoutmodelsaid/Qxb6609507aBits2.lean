import Derived.Test.Qxb6609507aBits
namespace Go.Proofs.Qxb6609507a
set_option linter.unusedVariables false
set_option linter.unusedSimpArgs false
theorem setRows_pos (n : Nat) (S : Nat → Bool) : 1 ≤ (setRows n S).length := by
  rw [setRows]; split <;> simp
/-- Row by row: row k is the row of a set of numbers below nk: the given set at first, then the words of the row before that are not 0. -/
theorem setRows_level (n : Nat) : ∀ (S : Nat → Bool) (k : Nat), k < (setRows n S).length →
    ∃ nk Sk, (setRows n S)[k]? = some (rowOfSet nk Sk) ∧ (k = 0 → nk = n ∧ Sk = S) ∧
      (∀ k' row, k = k' + 1 → (setRows n S)[k']? = some row → nk = row.length ∧ ∀ i, i < nk → Sk i = decide (row.getD i 0 ≠ 0)) ∧ (k + 1 = (setRows n S).length ↔ (rowOfSet nk Sk).length = 1) := by
  induction n using Nat.strongRecOn with
  | ind n ih =>
    intro S k hk
    by_cases hm : (n + 63) / 64 ≤ 1
    · have e : setRows n S = [rowOfSet n S] := by rw [setRows, dif_pos hm]
      rw [e] at hk ⊢
      obtain rfl : k = 0 := by simpa using hk
      refine ⟨n, S, rfl, fun _ => ⟨rfl, rfl⟩, fun k' row h => by omega, ?_⟩
      rw [rowOfSet_len]; simp; omega
    · have e : setRows n S = rowOfSet n S :: setRows ((n + 63) / 64) (fun k => decide ((rowOfSet n S).getD k 0 ≠ 0)) := by rw [setRows, dif_neg hm]
      have hp := setRows_pos ((n + 63) / 64) (fun k => decide ((rowOfSet n S).getD k 0 ≠ 0))
      rw [e] at hk ⊢
      cases k with
      | zero =>
        refine ⟨n, S, rfl, fun _ => ⟨rfl, rfl⟩, fun k' row h => by omega, ?_⟩
        rw [rowOfSet_len, List.length_cons]; omega
      | succ k =>
        obtain ⟨nk, Sk, h1, h2, h3, h4⟩ := ih _ (div_lt_of hm) (fun k => decide ((rowOfSet n S).getD k 0 ≠ 0)) k (by simpa using hk)
        refine ⟨nk, Sk, by simpa using h1, fun h => by omega, ?_, by rw [List.length_cons]; omega⟩
        intro k' row hk' hrow
        obtain rfl : k' = k := by omega
        cases k' with
        | zero =>
          obtain ⟨rfl, rfl⟩ := h2 rfl
          have hr : rowOfSet n S = row := by simpa using hrow
          subst hr
          exact ⟨by rw [rowOfSet_len]; omega, fun i _ => rfl⟩
        | succ k'' => exact h3 k'' row rfl (by simpa using hrow)
/-- The words of a level, bit by bit. -/
def expW (S : Nat → Bool) (j b : Nat) : Nat := (List.range b).foldl (fun acc b => if S (j * 64 + b) then acc ||| 2 ^ b else acc) 0
theorem expW_zero (S : Nat → Bool) (j : Nat) : expW S j 0 = 0 := rfl
theorem expW_succ (S : Nat → Bool) (j b : Nat) : expW S j (b + 1) = if S (j * 64 + b) then expW S j b ||| 2 ^ b else expW S j b := by
  unfold expW; rw [List.range_succ, List.foldl_append]; rfl
theorem expW_all (S : Nat → Bool) (j : Nat) : expW S j 64 = wordOf S j := rfl
theorem expW_lt (S : Nat → Bool) (j b : Nat) (hb : b ≤ 64) : expW S j b < 2 ^ 64 := by
  apply Nat.lt_pow_two_of_testBit
  intro c hc
  unfold expW
  rw [wordOf_fold]; simp; omega
end Go.Proofs.Qxb6609507a
