import Derived.Test.Qxb6609507aFreeM
namespace Go.Proofs.Qxb6609507a
set_option linter.unusedVariables false
set_option linter.unusedSimpArgs false
open Go.ChangeShapes Go.WideShapes Go.ChangeAt Go.RowKit
/-! ### The free sets while roots are taken out and put back -/
theorem setRows_shape (n : Nat) : ∀ (S : Nat → Bool), (setRows n S).map List.length = (emptyRows n).map List.length := by
  induction n using Nat.strongRecOn with
  | ind n ih =>
    intro S
    rw [setRows, emptyRows]
    split
    · simp [rowOfSet_len]
    · rename_i h
      rw [List.map_cons, List.map_cons, ih _ (div_lt_of h), rowOfSet_len]; simp
theorem rowOfSet_small (n : Nat) (S : Nat → Bool) : ∀ x ∈ rowOfSet n S, x < 2 ^ 64 := by
  intro x hx
  unfold rowOfSet at hx
  obtain ⟨j, _, rfl⟩ := List.mem_map.1 hx
  exact wordOf_lt _ _
theorem setRows_small (n : Nat) : ∀ (S : Nat → Bool), ∀ ws ∈ setRows n S, ∀ x ∈ ws, x < 2 ^ 64 := by
  induction n using Nat.strongRecOn with
  | ind n ih =>
    intro S ws hws
    rw [setRows] at hws
    split at hws
    · obtain rfl : ws = _ := by simpa using hws
      exact rowOfSet_small _ _
    · rename_i h
      rcases List.mem_cons.1 hws with rfl | hws
      · exact rowOfSet_small _ _
      · exact ih _ (div_lt_of h) _ ws hws
theorem cntB_rem {S : Nat → Bool} {i n : Nat} (hS : S i = true) (hi : i < n) : cntB S n = cntB (fun k => S k && decide (k ≠ i)) n + 1 := by
  rw [← cntB_add (S := fun k => S k && decide (k ≠ i)) (i := i) (by simp) hi]
  apply cntB_ext
  intro k _
  by_cases e : k = i
  · subst e; simp [hS]
  · simp [e]
/-- The forest's free sets: those of S. -/
structure FSet (F : FC) (fb : Nat) (N : Nat → Nat) (ob cap b0 : Nat → Nat) (bs : Nat → List Nat) (S : Nat → Nat → Bool) (w : World) : Prop where
  blk : Blk w fb { F with n := fun l => .int .i64 (cntB (S l) (N l) : Nat) }.cells 88
  words : ∀ l, l < 5 → F.words l = .slice (some ⟨ob l, 0, none⟩) (emptyRows (N l)).length (cap l)
  nums : ∀ l, l < 5 → F.nums l = .slice (some ⟨b0 l, 0, none⟩) (max ((N l + 63) / 64) 1) (max ((N l + 63) / 64) 1)
  rows : ∀ l, l < 5 → RowsAt w (ob l) (bs l) (setRows (N l) (S l))
  obt : ∀ l, l < 5 → Typed w (ob l) 54
  hd : ∀ l, l < 5 → (bs l)[0]? = some (b0 l)
  ap : ∀ k, k < 5 → ∀ k', k' < 5 → k' ≠ k → ∀ b ∈ bs k', b ∉ bs k
  small : ∀ l, N l ≤ 65536
section
variable {F : FC} {fb : Nat} {N : Nat → Nat} {ob cap b0 : Nat → Nat} {bs : Nat → List Nat} {S : Nat → Nat → Bool} {w w' : World}
theorem FSet.setR (h : FSet F fb N ob cap b0 bs S w) (l : Nat) (hl : l < 5) : SetR fb l (N l) (cntB (S l) (N l)) (S l) (ob l) (cap l) (b0 l) (bs l) w :=
  ⟨by rw [h.blk.cell, FC.get_words _ l hl, setRows_len]; exact congrArg some (h.words l hl), by rw [h.blk.cell, FC.get_nums _ l hl]; exact congrArg some (h.nums l hl), by rw [h.blk.cell, FC.get_n _ l hl], h.rows l hl, h.hd l hl⟩
theorem Typed.upd {w w' : World} {us : List Nat} {b e : Nat} (h : Typed w b e) (hu : Upd us w w') (hn : b ∉ us) : Typed w' b e := by
  have hlt := h.lt
  obtain ⟨cs, fl, hx⟩ := h
  exact ⟨cs, fl, (hu.same b hlt hn).trans hx⟩
theorem FSet.upd (h : FSet F fb N ob cap b0 bs S w) (hu : Upd [] w w') : FSet F fb N ob cap b0 bs S w' :=
  ⟨h.blk.upd hu (by simp), h.words, h.nums, fun l hl => (h.rows l hl).upd hu (by simp) (by simp), fun l hl => (h.obt l hl).upd hu (by simp), h.hd, h.ap, h.small⟩
theorem FSet.ext {S' : Nat → Nat → Bool} (h : FSet F fb N ob cap b0 bs S w) (he : ∀ l, l < 5 → ∀ i, i < N l → S l i = S' l i) : FSet F fb N ob cap b0 bs S' w := by
  refine ⟨?_, h.words, h.nums, fun l hl => by rw [← setRows_ext _ _ _ (he l hl)]; exact h.rows l hl, h.obt, h.hd, h.ap, h.small⟩
  have e : ∀ l, l < 5 → cntB (S l) (N l) = cntB (S' l) (N l) := fun l hl => cntB_ext (he l hl)
  have hb := h.blk
  unfold FC.cells at hb ⊢
  simp only at hb ⊢
  rw [← e 0 (by omega), ← e 1 (by omega), ← e 2 (by omega), ← e 3 (by omega), ← e 4 (by omega)]
  exact hb
theorem FSet.kinds (h : FSet F fb N ob cap b0 bs S w) {l : Nat} (hl : l < 5) : Kinds w (fb :: bs l) [88, 55] := by
  intro u hx
  rcases List.mem_cons.1 hx with rfl | hx
  · exact ⟨88, by simp, h.blk.typed⟩
  · obtain ⟨j, hj, rfl⟩ := List.getElem_of_mem hx
    exact ⟨55, by simp, ((h.rows l hl).row j (by rw [← (h.rows l hl).len]; exact hj) hj).typed⟩
theorem FSet.apart (h : FSet F fb N ob cap b0 bs S w) {l : Nat} (hl : l < 5) : fb ∉ bs l ∧ fb ≠ ob l := by
  refine ⟨fun hx => ?_, fun hx => (h.obt l hl).ne h.blk.typed (by decide) hx.symm⟩
  obtain ⟨j, hj, he⟩ := List.getElem_of_mem hx
  exact (((h.rows l hl).row j (by rw [← (h.rows l hl).len]; exact hj) hj).typed).ne h.blk.typed (by decide) he
/-- One level's set anew. -/
theorem FSet.step {S1 : Nat → Bool} {l : Nat} (hl : l < 5) (h : FSet F fb N ob cap b0 bs S w) (hu : Upd (fb :: bs l) w w') (hb : Blk w' fb { F with n := Go.Proofs.Qxb6609507a.upd (fun m => Value.int .i64 (cntB (S m) (N m) : Nat)) l (.int .i64 (cntB S1 (N l) : Nat)) }.cells 88)
    (hr : RowsAt w' (ob l) (bs l) (setRows (N l) S1)) : FSet F fb N ob cap b0 bs (fun m => if m = l then S1 else S m) w' := by
  have hk := h.kinds hl
  refine ⟨?_, h.words, h.nums, fun m hm => ?_, fun m hm => (h.obt m hm).keep hu hk (by decide), h.hd, h.ap, h.small⟩
  · have e : (Go.Proofs.Qxb6609507a.upd (fun m => Value.int .i64 (cntB (S m) (N m) : Nat)) l (.int .i64 (cntB S1 (N l) : Nat))) = fun m => Value.int .i64 (cntB ((fun m => if m = l then S1 else S m) m) (N m) : Nat) := by
      funext m
      unfold Go.Proofs.Qxb6609507a.upd
      by_cases hm : m = l
      · subst hm; simp
      · simp [hm]
    rw [e] at hb; exact hb
  · by_cases e : m = l
    · subst e; simpa using hr
    · simp only [if_neg e]
      refine (h.rows m hm).upd hu (hk.out (h.obt m hm) (by decide)) (fun b hbm hx => ?_)
      rcases List.mem_cons.1 hx with rfl | hx
      · exact (h.apart hm).1 hbm
      · exact h.ap l hl m hm e b hbm hx
theorem FSet.take (h : FSet F fb N ob cap b0 bs S w) {l i : Nat} (hl : l < 5) (hi : i < N l) (hS : S l i = true) :
    Calls Try.prog 16 #[.pointer (some ⟨fb, 0, none⟩), .int .i8 l, .int .i32 i] w fun e w' => (∃ v, e = .returned v) ∧ FSet F fb N ob cap b0 bs (fun m => if m = l then (fun k => S l k && decide (k ≠ i)) else S m) w' ∧ Upd (fb :: bs l) w w' := by
  have hsm := h.small l
  have hc := cntB_le (S l) (N l)
  have hrem := cntB_rem (n := N l) hS hi
  have hlen : (setRows (N l) (S l)).length ≤ 64 := by rw [setRows_len]; have := emptyRows_len (N l) (by omega); omega
  refine zzSetUnfree ((setUnfree_any fb l (cntB (S l) (N l)) i _ (ob l) (cap l) (bs l) (setRows (N l) (S l)) w hl h.blk rfl (by rw [setRows_len]; exact h.words l hl) (by omega) (by omega) (by omega) hlen (h.rows l hl) (h.apart hl).1 (h.apart hl).2 (inRows_shape _ _ _ (setRows_shape _ _) (inRows_empty _ _ hi)) (setRows_small _ _)).mono ?_)
  rintro e w' ⟨h1, h2, h3, h4⟩
  refine ⟨h1, h.step hl h4 ?_ (by rw [← remRows_set _ _ _ hi]; exact h3), h4⟩
  have e : (((cntB (S l) (N l) : Nat) : Int) - 1) = ((cntB (fun k => S l k && decide (k ≠ i)) (N l) : Nat) : Int) := by omega
  rw [← e]; exact h2
theorem FSet.put (h : FSet F fb N ob cap b0 bs S w) {l i : Nat} (hl : l < 5) (hi : i < N l) (hS : S l i = false) :
    Calls Try.prog 23 #[.pointer (some ⟨fb, 0, none⟩), .int .i8 l, .int .i32 i] w fun e w' => (∃ v, e = .returned v) ∧ FSet F fb N ob cap b0 bs (fun m => if m = l then (fun k => S l k || decide (k = i)) else S m) w' ∧ Upd (fb :: bs l) w w' := by
  have hsm := h.small l
  have hc := cntB_le (S l) (N l)
  have hadd := cntB_add (n := N l) hS hi
  have hlen : (setRows (N l) (S l)).length ≤ 64 := by rw [setRows_len]; have := emptyRows_len (N l) (by omega); omega
  refine zzSetFree ((setFree_any fb l (cntB (S l) (N l)) i _ (ob l) (cap l) (bs l) (setRows (N l) (S l)) w hl h.blk rfl (by rw [setRows_len]; exact h.words l hl) (by omega) (by omega) hlen (h.rows l hl) (h.apart hl).1 (h.apart hl).2 (inRows_shape _ _ _ (setRows_shape _ _) (inRows_empty _ _ hi)) (setRows_small _ _)).mono ?_)
  rintro e w' ⟨h1, h2, h3, h4⟩
  refine ⟨h1, h.step hl h4 ?_ (by rw [← addRows_set _ _ _ hi]; exact h3), h4⟩
  rw [hadd]; exact h2
end
/-- The roots from the j-th on. -/
def sJ (T : Topo) (tl : List Nat) (j l i : Nat) : Bool := inJ T tl tl.length l i && !inJ T tl j l i
theorem inJ_root {T : Topo} {tl : List Nat} {j n : Nat} (hj : j < n) : inJ T tl n (tl.getD j 0) (ordJ T tl j) = true := by
  unfold inJ
  rw [List.any_eq_true]
  exact ⟨j, List.mem_range.2 hj, by simp⟩
theorem sJ_zero (T : Topo) (tl : List Nat) (l i : Nat) : sJ T tl 0 l i = inJ T tl tl.length l i := by unfold sJ; simp [inJ]
theorem sJ_all (T : Topo) (tl : List Nat) (l i : Nat) : sJ T tl tl.length l i = false := by unfold sJ; simp
theorem sJ_root {T : Topo} {tl : List Nat} {j : Nat} (hj : j < tl.length) : sJ T tl j (tl.getD j 0) (ordJ T tl j) = true := by
  unfold sJ; rw [inJ_root hj, inJ_new hj]; rfl
theorem sJ_gone {T : Topo} {tl : List Nat} {j : Nat} (hj : j < tl.length) : sJ T tl (j + 1) (tl.getD j 0) (ordJ T tl j) = false := by
  unfold sJ; rw [inJ_root (Nat.lt_succ_self j)]; simp
theorem sJ_succ {T : Topo} {tl : List Nat} {j : Nat} (l i : Nat) : sJ T tl (j + 1) l i = (if l = tl.getD j 0 then (fun k => sJ T tl j (tl.getD j 0) k && decide (k ≠ ordJ T tl j)) else sJ T tl j l) i := by
  unfold sJ
  rw [inJ_succ]
  by_cases e : l = tl.getD j 0
  · subst e
    rw [if_pos rfl]
    by_cases e2 : i = ordJ T tl j
    · subst e2; simp
    · have : ¬ (ordJ T tl j = i) := fun x => e2 x.symm
      simp [e2, this]
  · rw [if_neg e]
    have : ¬ (tl.getD j 0 = l) := fun x => e x.symm
    rw [decide_eq_false this]; simp
theorem sJ_back {T : Topo} {tl : List Nat} {j : Nat} (hj : j < tl.length) (l i : Nat) : sJ T tl j l i = (if l = tl.getD j 0 then (fun k => sJ T tl (j + 1) (tl.getD j 0) k || decide (k = ordJ T tl j)) else sJ T tl (j + 1) l) i := by
  by_cases e : l = tl.getD j 0
  · subst e
    rw [if_pos rfl]
    by_cases e2 : i = ordJ T tl j
    · subst e2
      rw [sJ_root hj]; simp
    · show _ = (sJ T tl (j + 1) (tl.getD j 0) i || decide (i = ordJ T tl j))
      rw [sJ_succ, if_pos rfl]
      simp [e2]
  · rw [if_neg e, sJ_succ, if_neg e]
end Go.Proofs.Qxb6609507a
