import Derived.Test.Qxb6609507aForest3
namespace Go.Proofs.Qxb6609507a
set_option linter.unusedVariables false
set_option linter.unusedSimpArgs false
open Go.ChangeShapes Go.WideShapes Go.ChangeAt Go.RowKit
/-! ### The counts -/
theorem cntT_step (T : Topo) : ∀ (t k : Nat), k + 1 ≤ t → cntT T t k = cntT T t (k + 1) * T.fan (k + 1)
  | 0, k, h => by omega
  | t + 1, k, h => by
    by_cases hk : k = t
    · subst hk
      rw [cntT_self T (k + 1)]
      unfold cntT
      rw [if_neg (by omega), cntT_self T k, Nat.mul_one, Nat.one_mul]
    · unfold cntT
      rw [if_neg (by omega), if_neg (by omega), cntT_step T t k (by omega), Nat.mul_assoc]
theorem inner_le (T : Topo) (tl : List Nat) (k : Nat) : Nof T tl (k + 1) * T.fan (k + 1) ≤ Nof T tl k := by
  unfold Nof
  induction tl with
  | nil => simp
  | cons t tl ih =>
    simp only [List.map_cons, List.sum_cons, Nat.add_mul]
    by_cases h : k + 1 ≤ t
    · rw [cntT_step T t k h]; omega
    · rw [cntT_above T t (k + 1) (by omega), Nat.zero_mul]; omega
def offJ (T : Topo) (tl : List Nat) (j : Nat) : Nat := ((tl.take j).map T.sz).sum
theorem offJ_succ (T : Topo) (tl : List Nat) (j : Nat) (h : j < tl.length) : offJ T tl (j + 1) = offJ T tl j + T.sz tl[j] := by
  unfold offJ; rw [← List.take_append_getElem h, List.map_append, List.sum_append]; simp
theorem offJ_le {T : Topo} {tl : List Nat} (ht : Tops T tl) (j : Nat) : offJ T tl j ≤ 65536 := by
  refine Nat.le_trans ?_ ht.sum
  unfold offJ
  conv => rhs; rw [← List.take_append_drop j tl, List.map_append, List.sum_append]
  omega
/-! ### The state behind j trees -/
def st0 : St := ⟨fun _ => [], fun _ => []⟩
def stJ (T : Topo) (tl : List Nat) : Nat → St
  | 0 => st0
  | j + 1 => growP T (tl.getD j 0) (offJ T tl j) (-1) (stJ T tl j)
def ordJ (T : Topo) (tl : List Nat) (j : Nat) : Nat := ((stJ T tl j).c (tl.getD j 0)).length
def cnJ (tl : List Nat) : Nat → Nat → Nat
  | 0, _ => 0
  | j + 1, k => if k = tl.getD j 0 then cnJ tl j (tl.getD j 0) + 1 else cnJ tl j k
def rowsJ (T : Topo) (tl : List Nat) : Nat → Nat → List (List Nat)
  | 0, k => emptyRows (Nof T tl k)
  | j + 1, k => if k = tl.getD j 0 then addRows (rowsJ T tl j (tl.getD j 0)) (ordJ T tl j) else rowsJ T tl j k
def rootsJ (Y : Lay) (T : Topo) (tl : List Nat) : Nat → List Value
  | 0 => []
  | j + 1 => rootsJ Y T tl j ++ [.pointer (some ⟨Y.lv (tl.getD j 0), ordJ T tl j * 6, none⟩)]
def stepRuns (rs : List RunE) (t off ord : Nat) : List RunE :=
  if rs.getLast?.map (·.level) = some t then rs.modify (rs.length - 1) RunE.inc else rs ++ [⟨t, off, ord, 1⟩]
def runsJ (T : Topo) (tl : List Nat) : Nat → List RunE
  | 0 => []
  | j + 1 => stepRuns (runsJ T tl j) (tl.getD j 0) (offJ T tl j) (ordJ T tl j)
theorem stJ_len (T : Topo) (tl : List Nat) (k : Nat) : ∀ j, j ≤ tl.length → ((stJ T tl j).c k).length = cntSum T tl k j ∧ ((stJ T tl j).k k).length = cntSum T tl k j
  | 0, _ => by simp [stJ, st0, cntSum]
  | j + 1, h => by
    have ih := stJ_len T tl k j (by omega)
    have hg : tl.getD j 0 = tl[j] := by simp [List.getD, show j < tl.length by omega]
    have := growP_len T (tl.getD j 0) (offJ T tl j) (-1) (stJ T tl j) k
    rw [cntSum_succ T tl k j (by omega)]
    unfold stJ
    rw [this.1, this.2, ih.1, ih.2, hg]
    exact ⟨rfl, rfl⟩
theorem rootsJ_len (Y : Lay) (T : Topo) (tl : List Nat) : ∀ j, (rootsJ Y T tl j).length = j
  | 0 => rfl
  | j + 1 => by unfold rootsJ; rw [List.length_append, rootsJ_len Y T tl j]; rfl
theorem stepRuns_len (rs : List RunE) (t off ord : Nat) : (stepRuns rs t off ord).length ≤ rs.length + 1 ∧ rs.length ≤ (stepRuns rs t off ord).length := by
  unfold stepRuns; split <;> simp
theorem runsJ_len (T : Topo) (tl : List Nat) : ∀ j, (runsJ T tl j).length ≤ j
  | 0 => Nat.le_refl _
  | j + 1 => by
    have := runsJ_len T tl j
    have := (stepRuns_len (runsJ T tl j) (tl.getD j 0) (offJ T tl j) (ordJ T tl j)).1
    unfold runsJ; omega
theorem runs_count (T : Topo) (tl : List Nat) : ∀ j, ∀ r ∈ runsJ T tl j, r.count ≤ j
  | 0 => by simp [runsJ]
  | j + 1 => by
    intro r hr
    have ih := runs_count T tl j
    unfold runsJ stepRuns at hr
    split at hr
    · obtain ⟨i, hi, rfl⟩ := List.getElem_of_mem hr
      rw [List.getElem_modify]
      have hi' : i < (runsJ T tl j).length := by simpa using hi
      have := ih _ (List.getElem_mem hi')
      split
      · show _ + 1 ≤ _; omega
      · omega
    · rcases List.mem_append.1 hr with h | h
      · have := ih r h; omega
      · obtain rfl : r = _ := by simpa using h
        show 1 ≤ _; omega
theorem rowsJ_shape (T : Topo) (tl : List Nat) (k : Nat) : ∀ j, (rowsJ T tl j k).map List.length = (emptyRows (Nof T tl k)).map List.length
  | 0 => rfl
  | j + 1 => by
    unfold rowsJ
    split
    · rename_i h; rw [addRows_shape, rowsJ_shape T tl _ j, h]
    · exact rowsJ_shape T tl k j
theorem rowsJ_small (T : Topo) (tl : List Nat) (k : Nat) : ∀ j, ∀ ws ∈ rowsJ T tl j k, ∀ x ∈ ws, x < 2 ^ 64
  | 0 => by intro ws hws x hx; rw [emptyRows_words _ ws hws x hx]; decide
  | j + 1 => by
    unfold rowsJ
    split
    · exact addRows_small _ _ (rowsJ_small T tl _ j)
    · exact rowsJ_small T tl k j
theorem rowsJ_len (T : Topo) (tl : List Nat) (k j : Nat) : (rowsJ T tl j k).length = (emptyRows (Nof T tl k)).length := by
  have := congrArg List.length (rowsJ_shape T tl k j)
  simpa using this
theorem cnJ_le (tl : List Nat) : ∀ j k, cnJ tl j k ≤ j
  | 0, k => Nat.le_refl _
  | j + 1, k => by
    have h1 := cnJ_le tl j k
    have h2 := cnJ_le tl j (tl.getD j 0)
    unfold cnJ; split <;> omega
/-! ### The blocks of the levels lie apart -/
theorem Pieces.mono {Y : Lay} {N : Nat → Nat} {linked : Bool} {lo l : Nat} {w : World} (h : Pieces Y N linked lo l w) : ∀ k' k, k ≤ k' → k' ≤ l → Y.mark k ≤ Y.mark k'
  | 0, k, h1, _ => by rw [show k = 0 by omega]; exact Nat.le_refl _
  | k' + 1, k, h1, h2 => by
    by_cases e : k = k' + 1
    · rw [e]; exact Nat.le_refl _
    · exact Nat.le_trans (h.mono k' k (by omega) (by omega)) (h.up k' (by omega))
theorem Pieces.bs_apart {Y : Lay} {N : Nat → Nat} {linked : Bool} {lo l : Nat} {w : World} (h : Pieces Y N linked lo l w) {k k' : Nat} (hk : k < l) (hk' : k' < l) (hne : k' ≠ k) : ∀ b ∈ Y.bs k', b ∉ Y.bs k := by
  intro b hb hb'
  have h1 := (h.row k' hk').2.2 b (List.mem_cons_of_mem _ hb)
  have h2 := (h.row k hk).2.2 b (List.mem_cons_of_mem _ hb')
  rcases Nat.lt_or_gt_of_ne hne with e | e
  · have := h.mono k (k' + 1) (by omega) (by omega); omega
  · have := h.mono k' (k + 1) (by omega) (by omega); omega
def gsOf (Y : Lay) (N : Nat → Nat) (linked : Bool) (base gk : Nat) : Gs := ⟨gk, base + 3, gk + 1, base + 1, base + 2, base + 4, Y.lv, Y.lk, N, linked⟩
theorem gs_ok {Y : Lay} {N : Nat → Nat} {linked : Bool} {base : Nat} {w : World} (h : Pieces Y N linked (loOf base linked) 5 w) (hN : ∀ l, N l ≤ 65536) (gk : Nat) (hg : w.heap.size ≤ gk) : (gsOf Y N linked base gk).Ok := by
  have u0 := h.up 0 (by omega); have u1 := h.up 1 (by omega); have u2 := h.up 2 (by omega); have u3 := h.up 3 (by omega); have u4 := h.up 4 (by omega)
  have c0 := (h.cel 0 (by omega)).2; have c1 := (h.cel 1 (by omega)).2; have c2 := (h.cel 2 (by omega)).2; have c3 := (h.cel 3 (by omega)).2; have c4 := (h.cel 4 (by omega)).2
  have m0 := h.mk0; have m5 := h.top
  have e5 : List.range 5 = [0, 1, 2, 3, 4] := rfl
  cases linked with
  | false =>
    simp only [loOf, Bool.false_eq_true, if_false] at m0
    simp only [Nat.zero_add, Nat.reduceAdd] at *
    refine ⟨?_, ?_, (fun e => by cases e), fun l _ => hN l⟩
    · simp only [Gs.W, gsOf, e5, List.map_cons, List.map_nil, Bool.false_eq_true, if_false, List.append_nil, List.nodup_cons, List.mem_cons, List.not_mem_nil, not_or, or_false, List.nodup_nil, not_false_eq_true, and_true]
      omega
    · intro b hb
      simp only [gsOf, List.mem_cons, List.not_mem_nil, or_false] at hb
      simp only [Gs.W, gsOf, e5, List.map_cons, List.map_nil, Bool.false_eq_true, if_false, List.append_nil, List.mem_cons, List.not_mem_nil, not_or, or_false, not_false_eq_true, and_true]
      omega
  | true =>
    simp only [loOf, if_true] at m0
    have ne : ∀ k, k < 5 → Y.lv k ≠ Y.lk k := fun k hk => (h.cel k hk).1.typed.ne (h.lks rfl k hk).1.typed (by decide)
    have n0 := ne 0 (by omega); have n1 := ne 1 (by omega); have n2 := ne 2 (by omega); have n3 := ne 3 (by omega); have n4 := ne 4 (by omega)
    have d0 := (h.lks rfl 0 (by omega)).2; have d1 := (h.lks rfl 1 (by omega)).2; have d2 := (h.lks rfl 2 (by omega)).2; have d3 := (h.lks rfl 3 (by omega)).2; have d4 := (h.lks rfl 4 (by omega)).2
    simp only [Nat.zero_add, Nat.reduceAdd] at *
    clear ne
    refine ⟨?_, ?_, fun _ => ?_, fun l _ => hN l⟩
    · simp only [Gs.W, gsOf, e5, List.map_cons, List.map_nil, if_true, List.cons_append, List.nil_append, List.nodup_cons, List.mem_cons, List.not_mem_nil, not_or, or_false, List.nodup_nil, not_false_eq_true, and_true]
      omega
    · intro b hb
      simp only [gsOf, List.mem_cons, List.not_mem_nil, or_false] at hb
      simp only [Gs.W, gsOf, e5, List.map_cons, List.map_nil, if_true, List.cons_append, List.nil_append, List.mem_cons, List.not_mem_nil, not_or, or_false, not_false_eq_true, and_true]
      omega
    · simp only [Gs.W, gsOf, e5, List.map_cons, List.map_nil, if_true, List.cons_append, List.nil_append, List.mem_cons, List.not_mem_nil, not_or, or_false, not_false_eq_true, and_true]
      omega
/-- The levels' inner counts, the first m of them. -/
def innerV (N : Nat → Nat) (T : Topo) (m : Nat) : Nat → Value := fun k => if k < m then .int .i32 ((N (k + 1) * T.fan (k + 1) : Nat) : Int) else .int .i32 0
theorem innerV_succ (N : Nat → Nat) (T : Topo) (m : Nat) : upd (innerV N T m) m (.int .i32 ((N (m + 1) * T.fan (m + 1) : Nat) : Int)) = innerV N T (m + 1) := by
  funext k
  unfold upd innerV
  by_cases hk : k = m
  · subst hk; simp
  · have : (k < m + 1) = (k < m) := by simp; omega
    simp [hk, this]
/-- The trees are yet to grow. -/
theorem inv4_start {T : Topo} {N : Nat → Nat} {linked : Bool} {base : Nat} {w0 wr w3 w5 : World} {Y : Lay} (h : L1 T N linked base w0 5 Y wr) (hu : Upd [base + 2] wr w3) (hf : Blk w3 (base + 2) { Y.fc T N linked base 5 with inner := innerV N T 4 }.cells 88)
    (hu5 : Upd [] w3 w5) (hg : Blk w5 w3.heap.size [.int .i32 0, .int .i32 0, .int .i32 0, .int .i32 0, .int .i32 0] 85) (hw : Blk w5 (w3.heap.size + 1) [.func (.func 53) #[] (gsOf Y N linked base w3.heap.size).caps] 102) :
    Inv4 (gsOf Y N linked base w3.heap.size) Y T base st0 nilS nilS (fun _ => 0) (fun k => emptyRows (N k)) [] [] w5 := by
  have hU : Upd [base + 2] wr w5 := hu.trans (hu5.mono (by simp))
  have hlo : base + 2 < loOf base linked := by unfold loOf; split <;> omega
  have hp := h.pcs.upd hU (by intro b hb; obtain rfl : b = base + 2 := by simpa using hb
                              exact hlo)
  refine ⟨h.env.fbox.upd hU (by simp), hw, h.env.lbox.upd hU (by simp), fun e => (h.lkb e).upd hU (by simp), ?_, ⟨hg, fun l hl => (hp.cel l hl).1, fun e l hl => (hp.lks e l hl).1⟩, fun k hk => (hp.row k hk).1, fun k hk => (hp.row k hk).2.1, World.ownsRow_nil _ _ _ _, World.ownsRow_nil _ _ _ _⟩
  have := hf.upd hu5 (by simp)
  have hcells : { Y.fc T N linked base 5 with inner := innerV N T 4 }.cells = (finFC (gsOf Y N linked base w3.heap.size) Y T nilS nilS (fun _ => 0)).cells := by
    cases linked <;> simp [FC.cells, Lay.fc, finFC, gsOf, innerV]
  rw [hcells] at this
  exact this
end Go.Proofs.Qxb6609507a
