import Derived.Test.Qxb6609507aRemove
import Derived.Test.Qxb6609507aPlain
namespace Go.Proofs.Qxb6609507a
set_option linter.unusedVariables false
set_option linter.unusedSimpArgs false
/-! ### The rows of a set of numbers below n -/
/-- Word j of the set S. -/
def wordOf (S : Nat → Bool) (j : Nat) : Nat := (List.range 64).foldl (fun acc b => if S (j * 64 + b) then acc ||| 2 ^ b else acc) 0
theorem wordOf_fold (S : Nat → Bool) (j : Nat) : ∀ (m b : Nat), ((List.range m).foldl (fun acc b => if S (j * 64 + b) then acc ||| 2 ^ b else acc) 0).testBit b = (decide (b < m) && S (j * 64 + b))
  | 0, b => by simp
  | m + 1, b => by
    have ih := wordOf_fold S j m b
    rw [List.range_succ, List.foldl_append]
    simp only [List.foldl_cons, List.foldl_nil]
    by_cases hs : S (j * 64 + m)
    · rw [if_pos hs, Nat.testBit_or, ih, Nat.testBit_two_pow]
      by_cases hb : b = m
      · subst hb; simp [hs]
      · have : (decide (b < m + 1)) = decide (b < m) := by simp; omega
        have h2 : (decide (m = b)) = false := by simp; omega
        rw [this, h2]; simp
    · rw [if_neg hs, ih]
      by_cases hb : b = m
      · subst hb; simp [hs]
      · have : (decide (b < m + 1)) = decide (b < m) := by simp; omega
        rw [this]
theorem wordOf_bit (S : Nat → Bool) (j b : Nat) : (wordOf S j).testBit b = (decide (b < 64) && S (j * 64 + b)) := wordOf_fold S j 64 b
theorem wordOf_ext {S S' : Nat → Bool} {j : Nat} (h : ∀ b, b < 64 → S (j * 64 + b) = S' (j * 64 + b)) : wordOf S j = wordOf S' j := by
  apply Nat.eq_of_testBit_eq
  intro b
  rw [wordOf_bit, wordOf_bit]
  by_cases hb : b < 64
  · rw [h b hb]
  · simp [hb]
theorem wordOf_ne {S : Nat → Bool} {j : Nat} : wordOf S j ≠ 0 ↔ ∃ b, b < 64 ∧ S (j * 64 + b) = true := by
  constructor
  · intro h
    rcases Classical.em (∃ b, b < 64 ∧ S (j * 64 + b) = true) with h' | h'
    · exact h'
    · exfalso
      apply h
      apply Nat.eq_of_testBit_eq
      intro b
      rw [wordOf_bit, Nat.zero_testBit]
      by_cases hb : b < 64
      · cases hs : S (j * 64 + b) with
        | true => exact absurd ⟨b, hb, hs⟩ h'
        | false => simp
      · simp [hb]
  · rintro ⟨b, hb, hs⟩ h0
    have := wordOf_bit S j b
    rw [h0, Nat.zero_testBit, hs] at this
    simp [hb] at this
def rowOfSet (n : Nat) (S : Nat → Bool) : List Nat := (List.range (max ((n + 63) / 64) 1)).map (wordOf fun i => decide (i < n) && S i)
/-- The rows of the set S of numbers below n. -/
def setRows (n : Nat) (S : Nat → Bool) : List (List Nat) :=
  if h : (n + 63) / 64 ≤ 1 then [rowOfSet n S] else rowOfSet n S :: setRows ((n + 63) / 64) (fun k => decide ((rowOfSet n S).getD k 0 ≠ 0))
termination_by n
decreasing_by exact div_lt_of h
theorem rowOfSet_get {n : Nat} {S : Nat → Bool} {k : Nat} (hk : k < max ((n + 63) / 64) 1) : (rowOfSet n S).getD k 0 = wordOf (fun i => decide (i < n) && S i) k := by
  unfold rowOfSet; simp [List.getD, hk]
theorem rowOfSet_len (n : Nat) (S : Nat → Bool) : (rowOfSet n S).length = max ((n + 63) / 64) 1 := by simp [rowOfSet]
theorem rowOfSet_ext {n : Nat} {S S' : Nat → Bool} (h : ∀ i, i < n → S i = S' i) : rowOfSet n S = rowOfSet n S' := by
  unfold rowOfSet
  apply List.map_congr_left
  intro j _
  apply wordOf_ext
  intro b _
  by_cases hb : j * 64 + b < n
  · simp [hb, h _ hb]
  · simp [hb]
theorem setRows_ext (n : Nat) : ∀ (S S' : Nat → Bool), (∀ i, i < n → S i = S' i) → setRows n S = setRows n S' := by
  intro S S' h
  conv => lhs; rw [setRows]
  conv => rhs; rw [setRows]
  rw [rowOfSet_ext h]
theorem setRows_empty (n : Nat) : emptyRows n = setRows n (fun _ => false) := by
  induction n using Nat.strongRecOn with
  | ind n ih =>
    have hrow : rowOfSet n (fun _ => false) = List.replicate (max ((n + 63) / 64) 1) 0 := by
      unfold rowOfSet
      apply List.ext_getElem (by simp)
      intro k h1 h2
      simp only [List.getElem_map, List.getElem_range, List.getElem_replicate]
      apply Nat.eq_of_testBit_eq
      intro b
      rw [wordOf_bit]; simp
    rw [emptyRows, setRows, hrow]
    split
    · rfl
    · rename_i h
      rw [ih _ (div_lt_of h)]
      congr 1
      apply setRows_ext
      intro i hi
      have h0 : (List.replicate (max ((n + 63) / 64) 1) 0).getD i 0 = 0 := by
        rw [List.getD_eq_getElem?_getD, List.getElem?_replicate]; split <;> rfl
      rw [h0]; simp
/-- A row with one number more. -/
theorem row_add {n : Nat} {S : Nat → Bool} {i : Nat} (hi : i < n) : (rowOfSet n S).set (i / 64) ((rowOfSet n S).getD (i / 64) 0 ||| 2 ^ (i % 64)) = rowOfSet n (fun k => S k || decide (k = i)) := by
  have hlt : i / 64 < max ((n + 63) / 64) 1 := by omega
  apply List.ext_getElem (by simp [rowOfSet])
  intro j h1 h2
  have hj : j < max ((n + 63) / 64) 1 := by simpa [rowOfSet] using h2
  rw [List.getElem_set]
  by_cases e : i / 64 = j
  · subst e
    rw [if_pos rfl, rowOfSet_get hlt]
    simp only [rowOfSet, List.getElem_map, List.getElem_range]
    apply Nat.eq_of_testBit_eq
    intro b
    rw [Nat.testBit_or, wordOf_bit, wordOf_bit, Nat.testBit_two_pow]
    by_cases hb : b < 64
    · by_cases hbi : i % 64 = b
      · have : i / 64 * 64 + b = i := by omega
        simp [hb, hbi, this, hi]
      · have : ¬ (i / 64 * 64 + b = i) := by omega
        simp [hb, hbi, this]
    · have : ¬ (i % 64 = b) := by omega
      simp [hb, this]
  · rw [if_neg e]
    simp only [rowOfSet, List.getElem_map, List.getElem_range]
    apply wordOf_ext
    intro b hb
    have : ¬ (j * 64 + b = i) := by omega
    simp [this]
theorem addRows_set (n : Nat) : ∀ (S : Nat → Bool) (i : Nat), i < n → addRows (setRows n S) i = setRows n (fun k => S k || decide (k = i)) := by
  induction n using Nat.strongRecOn with
  | ind n ih =>
    intro S i hi
    have hrow := row_add (S := S) hi
    have hlt : i / 64 < max ((n + 63) / 64) 1 := by omega
    conv => rhs; rw [setRows]
    conv => lhs; rw [setRows]
    by_cases hm : (n + 63) / 64 ≤ 1
    · rw [dif_pos hm, dif_pos hm]
      simp only [addRows]
      rw [hrow]
      split <;> rfl
    · rw [dif_neg hm, dif_neg hm]
      simp only [addRows]
      rw [hrow]
      congr 1
      have hget : ∀ k, k < max ((n + 63) / 64) 1 → (rowOfSet n (fun k => S k || decide (k = i))).getD k 0 = if k = i / 64 then (rowOfSet n S).getD (i / 64) 0 ||| 2 ^ (i % 64) else (rowOfSet n S).getD k 0 := by
        intro k hk
        rw [← hrow, List.getD_eq_getElem?_getD, List.getElem?_set]
        by_cases e : i / 64 = k
        · subst e; rw [if_pos rfl, if_pos (by rw [rowOfSet_len]; exact hk), if_pos rfl]; rfl
        · rw [if_neg e, if_neg (Ne.symm e), List.getD_eq_getElem?_getD]
      have hne : (rowOfSet n S).getD (i / 64) 0 ||| 2 ^ (i % 64) ≠ 0 := by
        intro h0
        have := congrArg (fun x => Nat.testBit x (i % 64)) h0
        simp [Nat.testBit_or, Nat.testBit_two_pow] at this
      by_cases hw : (rowOfSet n S).getD (i / 64) 0 ≠ 0
      · rw [if_pos hw]
        apply setRows_ext
        intro k hk
        rw [hget k (by omega)]
        by_cases e : k = i / 64
        · subst e; rw [if_pos rfl, decide_eq_true hw, decide_eq_true hne]
        · rw [if_neg e]
      · rw [if_neg hw, ih _ (div_lt_of hm) _ _ (by omega)]
        apply setRows_ext
        intro k hk
        rw [hget k (by omega)]
        by_cases e : k = i / 64
        · subst e; rw [if_pos rfl, decide_eq_true hne]; simp
        · rw [if_neg e]; simp [e]
theorem clr_bit (x m b : Nat) (hx : x < 2 ^ 64) (hm : m < 64) : (clr x m).testBit b = (x.testBit b && decide (b ≠ m)) := by
  unfold clr
  rw [BitVec.testBit_toNat, BitVec.getLsbD_and, BitVec.getLsbD_not, BitVec.getLsbD_ofNat, BitVec.getLsbD_ofNat, Nat.testBit_two_pow]
  by_cases hb : b < 64
  · by_cases e : m = b
    · subst e; simp [hb]
    · simp [hb, e, Ne.symm e]
  · have : x.testBit b = false := Nat.testBit_lt_two_pow (Nat.lt_of_lt_of_le hx (Nat.pow_le_pow_right (by omega) (by omega)))
    simp [hb, this]
theorem wordOf_lt (S : Nat → Bool) (j : Nat) : wordOf S j < 2 ^ 64 := by
  apply Nat.lt_pow_two_of_testBit
  intro b hb
  rw [wordOf_bit]; simp; omega
theorem row_rem {n : Nat} {S : Nat → Bool} {i : Nat} (hi : i < n) : (rowOfSet n S).set (i / 64) (clr ((rowOfSet n S).getD (i / 64) 0) (i % 64)) = rowOfSet n (fun k => S k && decide (k ≠ i)) := by
  have hlt : i / 64 < max ((n + 63) / 64) 1 := by omega
  apply List.ext_getElem (by simp [rowOfSet])
  intro j h1 h2
  have hj : j < max ((n + 63) / 64) 1 := by simpa [rowOfSet] using h2
  rw [List.getElem_set]
  by_cases e : i / 64 = j
  · subst e
    rw [if_pos rfl, rowOfSet_get hlt]
    simp only [rowOfSet, List.getElem_map, List.getElem_range]
    apply Nat.eq_of_testBit_eq
    intro b
    rw [clr_bit _ _ _ (wordOf_lt _ _) (by omega), wordOf_bit, wordOf_bit]
    by_cases hb : b < 64
    · by_cases hbi : b = i % 64
      · have : i / 64 * 64 + b = i := by omega
        simp [hb, hbi, this]
        intro _ _
        omega
      · have : ¬ (i / 64 * 64 + b = i) := by omega
        simp [hb, hbi, this]
    · simp [hb]
  · rw [if_neg e]
    simp only [rowOfSet, List.getElem_map, List.getElem_range]
    apply wordOf_ext
    intro b hb
    have : ¬ (j * 64 + b = i) := by omega
    simp [this]
theorem remRows_set (n : Nat) : ∀ (S : Nat → Bool) (i : Nat), i < n → remRows (setRows n S) i = setRows n (fun k => S k && decide (k ≠ i)) := by
  induction n using Nat.strongRecOn with
  | ind n ih =>
    intro S i hi
    have hrow := row_rem (S := S) hi
    have hlt : i / 64 < max ((n + 63) / 64) 1 := by omega
    conv => rhs; rw [setRows]
    conv => lhs; rw [setRows]
    by_cases hm : (n + 63) / 64 ≤ 1
    · rw [dif_pos hm, dif_pos hm]
      simp only [remRows]
      rw [hrow]
      split <;> rfl
    · rw [dif_neg hm, dif_neg hm]
      simp only [remRows]
      rw [hrow]
      congr 1
      have hget : ∀ k, k < max ((n + 63) / 64) 1 → (rowOfSet n (fun k => S k && decide (k ≠ i))).getD k 0 = if k = i / 64 then clr ((rowOfSet n S).getD (i / 64) 0) (i % 64) else (rowOfSet n S).getD k 0 := by
        intro k hk
        rw [← hrow, List.getD_eq_getElem?_getD, List.getElem?_set]
        by_cases e : i / 64 = k
        · subst e; rw [if_pos rfl, if_pos (by rw [rowOfSet_len]; exact hk), if_pos rfl]; rfl
        · rw [if_neg e, if_neg (Ne.symm e), List.getD_eq_getElem?_getD]
      by_cases hw : clr ((rowOfSet n S).getD (i / 64) 0) (i % 64) ≠ 0
      · rw [if_pos hw]
        apply setRows_ext
        intro k hk
        rw [hget k (by omega)]
        by_cases e : k = i / 64
        · subst e
          have hold : (rowOfSet n S).getD (i / 64) 0 ≠ 0 := by
            intro h0
            apply hw
            rw [h0]
            apply Nat.eq_of_testBit_eq
            intro b
            rw [clr_bit _ _ _ (by decide) (by omega)]; simp
          rw [if_pos rfl, decide_eq_true hw, decide_eq_true hold]
        · rw [if_neg e]
      · rw [if_neg hw, ih _ (div_lt_of hm) _ _ (by omega)]
        apply setRows_ext
        intro k hk
        rw [hget k (by omega)]
        by_cases e : k = i / 64
        · subst e; rw [if_pos rfl, decide_eq_false hw]; simp
        · rw [if_neg e]; simp [e]
end Go.Proofs.Qxb6609507a
