import Derived.Test.Qxb6609507aForest6
namespace Go.Proofs.Qxb6609507a
set_option linter.unusedVariables false
set_option linter.unusedSimpArgs false
/-! ### A grown tree in closed form -/
def lens (s : St) (m : Nat) : Nat := (s.c m).length
def linkG (T : Topo) (t first : Nat) (par : Int) (B : Nat → Nat) (m i : Nat) : LinkE := ⟨first + i * T.sz m, if m = t then par else ((B (m + 1) + i / T.fan (m + 1) : Nat) : Int), if m = 0 then -1 else ((B (m - 1) + i * T.fan m : Nat) : Int)⟩
def cellG (t : Nat) (par : Int) (B : Nat → Nat) (m i : Nat) : CellE := ⟨B m + i, m, if m = t then par == -1 else false⟩
theorem range_mul_succ (n c : Nat) : List.range ((n + 1) * c) = List.range (n * c) ++ (List.range c).map (n * c + ·) := by
  rw [Nat.add_mul, Nat.one_mul, List.range_add]
theorem kids_closed (T : Topo) (t first ord : Nat) (ht : t ≤ 4) (s1 : St)
    (ih : ∀ first par s m, (growP T t first par s).c m = s.c m ++ (List.range (cntT T t m)).map (cellG t par (lens s) m) ∧ (growP T t first par s).k m = s.k m ++ (List.range (cntT T t m)).map (linkG T t first par (lens s) m)) :
    ∀ n m, (kids T t first ord s1 n).c m = s1.c m ++ (List.range (n * cntT T t m)).map (fun i => (⟨lens s1 m + i, m, false⟩ : CellE)) ∧ (kids T t first ord s1 n).k m = s1.k m ++ (List.range (n * cntT T t m)).map (linkG T t first ord (lens s1) m)
  | 0, m => by simp [kids]
  | n + 1, m => by
    have hk := kids_closed T t first ord ht s1 ih n m
    have hi := ih (first + n * T.sz t) (ord : Nat) (kids T t first ord s1 n) m
    have hl : ∀ k, lens (kids T t first ord s1 n) k = lens s1 k + n * cntT T t k := fun k => (kids_len T t first ord s1 n k).1
    rw [kids_succ, hi.1, hi.2, hk.1, hk.2, range_mul_succ, List.map_append, List.map_append, List.map_map, List.map_map, List.append_assoc, List.append_assoc]
    refine ⟨?_, ?_⟩
    · congr 2
      apply List.map_congr_left
      intro i hir
      simp only [Function.comp, cellG, hl, CellE.mk.injEq, true_and]
      refine ⟨by omega, ?_⟩
      split
      · have h : ¬ ((ord : Int) = -1) := by omega
        simp [h]
      · rfl
    · congr 2
      apply List.map_congr_left
      intro i hir
      have hic := List.mem_range.1 hir
      have hmt : m ≤ t := by
        rcases Nat.lt_or_ge t m with h | h
        · rw [cntT_above T t m h] at hic; omega
        · exact h
      simp only [Function.comp, linkG, hl, LinkE.mk.injEq]
      refine ⟨?_, ?_, ?_⟩
      · have hz := cntT_sz T t m ht hmt
        rw [Nat.add_mul, Nat.mul_assoc, hz]; omega
      · split
        · rfl
        · rename_i hne
          have hs := cntT_step T t m (by omega)
          have hf : 0 < T.fan (m + 1) := by
            rcases Nat.eq_zero_or_pos (T.fan (m + 1)) with h | h
            · rw [hs, h, Nat.mul_zero] at hic; omega
            · exact h
          have : (n * cntT T t m + i) / T.fan (m + 1) = n * cntT T t (m + 1) + i / T.fan (m + 1) := by
            rw [hs, ← Nat.mul_assoc, Nat.add_comm, Nat.add_mul_div_right _ _ hf, Nat.add_comm]
          rw [this]; congr 1; omega
      · split
        · rfl
        · rename_i hne
          have hs := cntT_step T t (m - 1) (by omega)
          rw [show m - 1 + 1 = m by omega] at hs
          congr 1
          rw [hs, Nat.add_mul, ← Nat.mul_assoc]; omega
theorem growP_closed (T : Topo) : ∀ (t : Nat), t ≤ 4 → ∀ (first : Nat) (par : Int) (s : St) (m : Nat), (growP T t first par s).c m = s.c m ++ (List.range (cntT T t m)).map (cellG t par (lens s) m) ∧ (growP T t first par s).k m = s.k m ++ (List.range (cntT T t m)).map (linkG T t first par (lens s) m)
  | 0, _, first, par, s, m => by
    by_cases h : m = 0
    · subst h
      simp [growP, cntT, St.pushC, St.pushK, cellG, linkG, lens, List.range_succ]
    · simp [growP, cntT, St.pushC, St.pushK, h]
  | t + 1, ht, first, par, s, m => by
    have hk := kids_closed T t first (s.c (t + 1)).length (by omega) (s.pushC (t + 1) ⟨(s.c (t + 1)).length, t + 1, par == -1⟩) (growP_closed T t (by omega)) (T.fan (t + 1)) m
    have hg : growP T (t + 1) first par s = (kids T t first (s.c (t + 1)).length (s.pushC (t + 1) ⟨(s.c (t + 1)).length, t + 1, par == -1⟩) (T.fan (t + 1))).pushK (t + 1) ⟨first, par, (((s.pushC (t + 1) ⟨(s.c (t + 1)).length, t + 1, par == -1⟩).c t).length : Nat)⟩ := by
      unfold growP kids; rfl
    rw [hg]
    by_cases hm : m = t + 1
    · subst hm
      have h0 : cntT T t (t + 1) = 0 := cntT_above T t (t + 1) (by omega)
      rw [h0, Nat.mul_zero] at hk
      rw [cntT_self]
      simp only [St.pushK, if_true]
      rw [hk.1, hk.2]
      simp [St.pushC, cellG, linkG, lens, List.range_succ]
    · have hc : cntT T (t + 1) m = T.fan (t + 1) * cntT T t m := by rw [cntT, if_neg hm]
      rw [hc]
      simp only [St.pushK, if_neg hm]
      rw [hk.1, hk.2]
      have hcm : (s.pushC (t + 1) ⟨(s.c (t + 1)).length, t + 1, par == -1⟩).c m = s.c m := by simp [St.pushC, hm]
      have hkm : (s.pushC (t + 1) ⟨(s.c (t + 1)).length, t + 1, par == -1⟩).k m = s.k m := rfl
      rw [hcm, hkm]
      refine ⟨?_, ?_⟩
      · congr 1
        apply List.map_congr_left
        intro i hi
        simp [cellG, lens, hcm, hm]
      · congr 1
        apply List.map_congr_left
        intro i hi
        have hic := List.mem_range.1 hi
        have hmt : m ≤ t := by
          rcases Nat.lt_or_ge t m with h | h
          · rw [cntT_above T t m h] at hic; omega
          · exact h
        simp only [linkG, LinkE.mk.injEq, if_neg hm, true_and]
        refine ⟨?_, ?_⟩
        · by_cases hmt' : m = t
          · subst hmt'
            rw [if_pos rfl]
            rw [cntT_self, Nat.mul_one] at hic
            rw [Nat.div_eq_of_lt hic]; rfl
          · rw [if_neg hmt']
            have : lens (s.pushC (t + 1) ⟨(s.c (t + 1)).length, t + 1, par == -1⟩) (m + 1) = lens s (m + 1) := by
              unfold lens; simp [St.pushC, hmt']
            rw [this]
        · split
          · rfl
          · have : lens (s.pushC (t + 1) ⟨(s.c (t + 1)).length, t + 1, par == -1⟩) (m - 1) = lens s (m - 1) := by
              unfold lens; simp [St.pushC, show m - 1 ≠ t + 1 by omega]
            rw [this]
/-! ### A tree laid level by level, as zzBuild does it -/
def amt (T : Topo) (t l k m : Nat) : Nat := if m < l then cntT T t m else if m = l then k else 0
def part (T : Topo) (t off : Nat) (s : St) (l k : Nat) : St :=
  ⟨fun m => s.c m ++ (List.range (amt T t l k m)).map (cellG t (-1) (lens s) m), fun m => s.k m ++ (List.range (amt T t l k m)).map (linkG T t off (-1) (lens s) m)⟩
theorem part_zero (T : Topo) (t off : Nat) (s : St) : part T t off s 0 0 = s := by
  have : ∀ m, amt T t 0 0 m = 0 := fun m => by unfold amt; split; omega; split <;> rfl
  unfold part
  simp [this]
theorem part_succ (T : Topo) (t off : Nat) (s : St) (l k : Nat) : part T t off s l (k + 1) = ((part T t off s l k).pushC l (cellG t (-1) (lens s) l k)).pushK l (linkG T t off (-1) (lens s) l k) := by
  unfold part St.pushC St.pushK
  simp only [St.mk.injEq]
  refine ⟨?_, ?_⟩ <;> funext m <;> by_cases h : m = l
  · subst h; simp [amt, List.range_succ]
  · simp [amt, h]
  · subst h; simp [amt, List.range_succ]
  · simp [amt, h]
theorem part_next (T : Topo) (t off : Nat) (s : St) (l : Nat) : part T t off s (l + 1) 0 = part T t off s l (cntT T t l) := by
  have : ∀ m, amt T t (l + 1) 0 m = amt T t l (cntT T t l) m := fun m => by
    unfold amt
    by_cases h1 : m < l
    · rw [if_pos (by omega), if_pos h1]
    · by_cases h2 : m = l
      · subst h2; simp
      · rw [if_neg (by omega), if_neg h1, if_neg h2]; split <;> rfl
  unfold part
  simp only [this]
theorem part_full (T : Topo) (t off : Nat) (ht : t ≤ 4) (s : St) : part T t off s (t + 1) 0 = growP T t off (-1) s := by
  have h := growP_closed T t ht off (-1) s
  have hs : growP T t off (-1) s = ⟨(growP T t off (-1) s).c, (growP T t off (-1) s).k⟩ := rfl
  have : ∀ m, amt T t (t + 1) 0 m = cntT T t m := fun m => by
    unfold amt
    split
    · rfl
    · rw [cntT_above T t m (by omega)]; split <;> rfl
  rw [hs]
  unfold part
  simp only [this, St.mk.injEq]
  exact ⟨by funext m; rw [(h m).1], by funext m; rw [(h m).2]⟩
end Go.Proofs.Qxb6609507a
