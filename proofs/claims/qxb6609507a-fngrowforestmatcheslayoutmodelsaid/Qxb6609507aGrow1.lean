import Derived.Test.Qxb6609507aGrow
namespace Go.Proofs.Qxb6609507a
set_option linter.unusedVariables false
set_option linter.unusedSimpArgs false
open Go.ChangeShapes Go.WideShapes Go.ChangeAt Go.RowKit

theorem growP_len (T : Topo) : ∀ (l first : Nat) (par : Int) (s : St) (m : Nat), ((growP T l first par s).c m).length = (s.c m).length + cntT T l m ∧ ((growP T l first par s).k m).length = (s.k m).length + cntT T l m
  | 0, first, par, s, m => by
    unfold growP cntT St.pushC St.pushK
    by_cases h : m = 0 <;> simp [h]
  | l + 1, first, par, s, m => by
    have fold : ∀ (is : List Nat) (u : St), ((is.foldl (fun u i => growP T l (first + i * T.sz l) ((s.c (l + 1)).length : Nat) u) u).c m).length = (u.c m).length + is.length * cntT T l m ∧ ((is.foldl (fun u i => growP T l (first + i * T.sz l) ((s.c (l + 1)).length : Nat) u) u).k m).length = (u.k m).length + is.length * cntT T l m := by
      intro is
      induction is with
      | nil => intro u; simp
      | cons i is ih =>
        intro u
        have h1 := growP_len T l (first + i * T.sz l) ((s.c (l + 1)).length : Nat) u m
        have h2 := ih (growP T l (first + i * T.sz l) ((s.c (l + 1)).length : Nat) u)
        rw [List.foldl_cons]
        rw [h2.1, h2.2, h1.1, h1.2, List.length_cons, Nat.add_mul]
        omega
    have hf := fold (List.range (T.fan (l + 1))) (s.pushC (l + 1) ⟨(s.c (l + 1)).length, l + 1, par == -1⟩)
    rw [List.length_range] at hf
    have hz : ∀ k, l < k → cntT T l k = 0 := by
      intro k hk
      clear hf fold
      induction l with
      | zero => simp [cntT]; omega
      | succ l ih =>
        unfold cntT
        rw [if_neg (by omega), ih (by omega)]; rfl
    unfold growP cntT
    simp only
    by_cases h : m = l + 1
    · subst h
      have h0 := hz (l + 1) (by omega)
      rw [h0] at hf
      constructor
      · show ((_ : St).c (l + 1)).length = _
        simp only [St.pushK]
        rw [hf.1]; simp [St.pushC]
      · simp only [St.pushK, if_true, List.length_append, List.length_singleton]
        rw [hf.2]; simp [St.pushC]
    · constructor
      · simp only [St.pushK]
        rw [hf.1]; simp [St.pushC, h]
      · simp only [St.pushK, if_neg h]
        rw [hf.2]; simp [St.pushC, h]

/-! ### The blocks are apart -/
theorem Gs.Ok.gk_lv {G : Gs} (h : G.Ok) (m : Nat) (hm : m < 5) : G.gk ≠ G.lv m := by
  intro e
  have := (List.nodup_cons.1 h.nd).1
  exact this (List.mem_append_left _ (List.mem_map.2 ⟨m, List.mem_range.2 hm, e.symm⟩))
theorem Gs.Ok.gk_lk {G : Gs} (h : G.Ok) (hk : G.linked = true) (m : Nat) (hm : m < 5) : G.gk ≠ G.lk m := by
  intro e
  have := (List.nodup_cons.1 h.nd).1
  rw [hk] at this
  exact this (List.mem_append_right _ (List.mem_map.2 ⟨m, List.mem_range.2 hm, e.symm⟩))
theorem inj_of_nodup {f : Nat → Nat} (h : ((List.range 5).map f).Nodup) {m m' : Nat} (hm : m < 5) (hm' : m' < 5) (hne : m ≠ m') : f m ≠ f m' := by
  have hp := List.pairwise_iff_getElem.1 h
  rcases Nat.lt_or_gt_of_ne hne with h1 | h1
  · have := hp m m' (by simpa using hm) (by simpa using hm') h1
    simpa using this
  · have := hp m' m (by simpa using hm') (by simpa using hm) h1
    have h2 : f m' ≠ f m := by simpa using this
    exact h2.symm
theorem Gs.Ok.lv_lv {G : Gs} (h : G.Ok) {m m' : Nat} (hm : m < 5) (hm' : m' < 5) (hne : m ≠ m') : G.lv m ≠ G.lv m' :=
  inj_of_nodup (List.nodup_append.1 (List.nodup_cons.1 h.nd).2).1 hm hm' hne
theorem Gs.Ok.lk_lk {G : Gs} (h : G.Ok) (hk : G.linked = true) {m m' : Nat} (hm : m < 5) (hm' : m' < 5) (hne : m ≠ m') : G.lk m ≠ G.lk m' := by
  have := (List.nodup_append.1 (List.nodup_cons.1 h.nd).2).2.1
  rw [hk] at this
  exact inj_of_nodup this hm hm' hne
theorem Gs.Ok.lv_lk {G : Gs} (h : G.Ok) (hk : G.linked = true) {m m' : Nat} (hm : m < 5) (hm' : m' < 5) : G.lv m ≠ G.lk m' := by
  have := (List.nodup_append.1 (List.nodup_cons.1 h.nd).2).2.2
  rw [hk] at this
  exact this _ (List.mem_map.2 ⟨m, List.mem_range.2 hm, rfl⟩) _ (List.mem_map.2 ⟨m', List.mem_range.2 hm', rfl⟩)
theorem Gs.lv_mem (G : Gs) {m : Nat} (hm : m < 5) : G.lv m ∈ G.W := List.mem_cons_of_mem _ (List.mem_append_left _ (List.mem_map.2 ⟨m, List.mem_range.2 hm, rfl⟩))
theorem Gs.lk_mem (G : Gs) (hk : G.linked = true) {m : Nat} (hm : m < 5) : G.lk m ∈ G.W := List.mem_cons_of_mem _ (List.mem_append_right _ (by rw [hk]; exact List.mem_map.2 ⟨m, List.mem_range.2 hm, rfl⟩))

theorem range_set (f f' : Nat → Value) (l : Nat) (hl : l < 5) (v : Value) (h1 : f' l = v) (h2 : ∀ m, m ≠ l → f' m = f m) : ((List.range 5).map f).set l v = (List.range 5).map f' := by
  apply List.ext_getElem?
  intro j
  by_cases hj : j = l
  · subst hj
    rw [List.getElem?_set_self (by simpa using hl)]
    simp [hl, h1]
  · rw [List.getElem?_set_ne (fun e => hj e.symm)]
    by_cases h5 : j < 5
    · simp [h5, h2 j hj]
    · rw [List.getElem?_eq_none (by simp; omega), List.getElem?_eq_none (by simp; omega)]

/-- The count turned and the cell written: the state with one cell more. -/
theorem Wrote.pushC {G : Gs} {w W1 W2 : World} {s : St} (hG : G.Ok) (hW : Wrote G w s) {l : Nat} (hl : l < 5) (x : CellE)
    (h1 : w.setCell ⟨G.gk, l, none⟩ (.int .i32 (((s.c l).length : Int) + 1)) = W1) (h2 : Blk W2 (G.lv l) (rowOf CellE.cells cell0 (s.c l ++ [x]) (G.N l)) 93) (hg : W1.grownBy W2 (some (G.lv l))) : Wrote G W2 (s.pushC l x) := by
  have U1 : Upd [G.gk] w W1 := by rw [← h1]; exact Upd.setCell w G.gk l _ (by simp)
  have U2 : Upd [G.lv l] W1 W2 := Upd.ofGrown hg (by intro b e; cases e; simp)
  refine ⟨?_, fun m hm => ?_, fun hk m hm => ?_⟩
  · have hb := hW.grown.setCell l (.int .i32 (((s.c l).length : Int) + 1))
    rw [h1] at hb
    have := hb.upd U2 (by simpa using hG.gk_lv l hl)
    rw [range_set _ (fun m => .int .i32 ((s.pushC l x).c m).length) l hl _ (by simp [St.pushC]) (by intro m hm; simp [St.pushC, hm])] at this
    exact this
  · by_cases hml : m = l
    · subst hml; simpa [St.pushC] using h2
    · have := ((hW.cells m hm).upd U1 (by simpa using (hG.gk_lv m hm).symm)).upd U2 (by simpa using hG.lv_lv hm hl hml)
      simpa [St.pushC, hml] using this
  · exact ((hW.lrows hk m hm).upd U1 (by simpa using (hG.gk_lk hk m hm).symm)).upd U2 (by simpa using (hG.lv_lk hk hl hm).symm)
theorem Wrote.pushK {G : Gs} {w W2 : World} {s : St} (hG : G.Ok) (hW : Wrote G w s) {l : Nat} (hl : l < 5) (hk : G.linked = true) (x : LinkE)
    (h2 : Blk W2 (G.lk l) (rowOf LinkE.cells link0 (s.k l ++ [x]) (G.N l)) 98) (hg : w.grownBy W2 (some (G.lk l))) : Wrote G W2 (s.pushK l x) := by
  have U2 : Upd [G.lk l] w W2 := Upd.ofGrown hg (by intro b e; cases e; simp)
  refine ⟨hW.grown.upd U2 (by simpa using hG.gk_lk hk l hl), fun m hm => (hW.cells m hm).upd U2 (by simpa using hG.lv_lk hk hm hl), fun _ m hm => ?_⟩
  by_cases hml : m = l
  · subst hml; simpa [St.pushK] using h2
  · have := (hW.lrows hk m hm).upd U2 (by simpa using hG.lk_lk hk hm hl hml)
    simpa [St.pushK, hml] using this
/-- Where no links are kept their lists are nobody's business. -/
theorem Wrote.noK {G : Gs} {w : World} {s s' : St} (hW : Wrote G w s) (hk : G.linked = false) (hc : s'.c = s.c) : Wrote G w s' :=
  ⟨by rw [hc]; exact hW.grown, fun m hm => by rw [hc]; exact hW.cells m hm, fun h => by rw [hk] at h; cases h⟩

theorem fo88_2 : fieldOff Try.prog 88 2 = some 2 := by kernel_rfl
theorem fo88_3 : fieldOff Try.prog 88 3 = some 7 := by kernel_rfl
theorem fo88_4 : fieldOff Try.prog 88 4 = some 22 := by kernel_rfl
theorem fo88_5 : fieldOff Try.prog 88 5 = some 23 := by kernel_rfl
theorem fo88_6 : fieldOff Try.prog 88 6 = some 28 := by kernel_rfl
theorem fo88_7 : fieldOff Try.prog 88 7 = some 33 := by kernel_rfl
theorem agg93 : aggB Try.prog 93 = true := by kernel_rfl
theorem size93 : (Try.prog.info? 93).map (·.size) = some 6 := by kernel_rfl
theorem agg98 : aggB Try.prog 98 = true := by kernel_rfl
theorem size98 : (Try.prog.info? 98).map (·.size) = some 3 := by kernel_rfl

end Go.Proofs.Qxb6609507a
