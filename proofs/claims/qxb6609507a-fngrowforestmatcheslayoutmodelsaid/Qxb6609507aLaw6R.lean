import Derived.Test.Qxb6609507aLaw6P
namespace Go.Proofs.Qxb6609507a
set_option linter.unusedVariables false
set_option linter.unusedSimpArgs false
open Go.ChangeShapes Go.WideShapes Go.ChangeAt Go.RowKit
def cellD (T : Topo) (B : Nat → Nat) (l i : Nat) : CellE := ⟨i, l, !decide (i < B (l + 1) * T.fan (l + 1))⟩
theorem stJ_descC (T : Topo) (tl : List Nat) (ht : ∀ t ∈ tl, t ≤ 4) (hd : Desc tl) : ∀ j, j ≤ tl.length → ∀ l, (stJ T tl j).c l = (List.range (cntSum T tl l j)).map (cellD T (fun m => cntSum T tl m j) l)
  | 0, _, l => by simp [stJ, st0, cntSum]
  | j + 1, hj, l => by
    have ih := stJ_descC T tl ht hd j (by omega) l
    have hjl : j < tl.length := by omega
    have htj : tl[j] ≤ 4 := ht _ (List.getElem_mem hjl)
    have hall : ∀ t ∈ tl.take j, tl[j] ≤ t ∧ t ≤ 4 := fun t h => ⟨hd.take hjl t h, ht t (List.mem_of_mem_take h)⟩
    have hB : ∀ m, lens (stJ T tl j) m = cntSum T tl m j := fun m => (stJ_len T tl m j (by omega)).1
    have hs : ∀ m, cntSum T tl m (j + 1) = cntSum T tl m j + cntT T tl[j] m := fun m => cntSum_succ T tl m j hjl
    have hc := (growP_closed T tl[j] htj (offJ T tl j) (-1) (stJ T tl j) l).1
    rw [stJ, getD_at hjl, hc, ih, hs l, List.range_add, List.map_append, List.map_map]
    by_cases hl : l ≤ tl[j]
    · congr 1
      · apply List.map_congr_left
        intro i hi
        have hi' := List.mem_range.1 hi
        simp only [cellD, CellE.mk.injEq, true_and]
        by_cases h2 : l + 1 ≤ tl[j]
        · have hst : cntSum T tl l j = cntSum T tl (l + 1) j * T.fan (l + 1) := sum_step T l _ (fun t h => Nat.le_trans h2 (hall t h).1)
          rw [decide_eq_true (by omega), decide_eq_true (by rw [hs, Nat.add_mul]; omega)]
        · have h0 : cntT T tl[j] (l + 1) = 0 := cntT_above T _ _ (by omega)
          have e : cntSum T tl (l + 1) (j + 1) = cntSum T tl (l + 1) j := by rw [hs, h0, Nat.add_zero]
          simp only [e]
      · apply List.map_congr_left
        intro i hi
        have hi' := List.mem_range.1 hi
        simp only [Function.comp, cellD, cellG, CellE.mk.injEq, hB, true_and]
        by_cases h2 : l = tl[j]
        · rw [if_pos h2, decide_eq_false]
          · rfl
          · have h0 : cntT T tl[j] (l + 1) = 0 := cntT_above T _ _ (by omega)
            have hin := cntSum_inner T tl l j
            rw [hs, h0, Nat.add_zero]; omega
        · have hst : cntSum T tl l j = cntSum T tl (l + 1) j * T.fan (l + 1) := sum_step T l _ (fun t h => by have := (hall t h).1; omega)
          have hcs := cntT_step T tl[j] l (by omega)
          rw [if_neg h2, decide_eq_true]
          · rfl
          · rw [hs, Nat.add_mul, ← hcs, ← hst]; omega
    · have h0 : cntT T tl[j] l = 0 := cntT_above T _ _ (by omega)
      have h1 : cntT T tl[j] (l + 1) = 0 := cntT_above T _ _ (by omega)
      have e : cntSum T tl (l + 1) (j + 1) = cntSum T tl (l + 1) j := by rw [hs, h1, Nat.add_zero]
      rw [h0]
      simp only [List.range_zero, List.map_nil, List.append_nil]
      apply List.map_congr_left
      intro i hi
      simp only [cellD, CellE.mk.injEq, true_and, e]
/-- What law 6 reads of a forest. -/
structure Rd (T : Topo) (tl : List Nat) (linked : Bool) (fb lkb : Nat) (lv lk : Nat → Nat) (w : World) : Prop where
  levels : ∀ l, l < 5 → w.cell? ⟨fb, 2 + l, none⟩ = some (.slice (some ⟨lv l, 0, none⟩) (Nof T tl l) (Nof T tl l))
  size : ∀ l, l < 5 → w.cell? ⟨fb, 28 + l, none⟩ = some (.int .i32 (T.sz l))
  fan : ∀ l, l < 6 → w.cell? ⟨fb, 33 + l, none⟩ = some (.int .i32 (T.fan l))
  inner : ∀ l, l < 5 → w.cell? ⟨fb, 23 + l, none⟩ = some (.int .i32 ((Nof T tl (l + 1) * T.fan (l + 1) : Nat) : Int))
  lnk : w.cell? ⟨fb, 22, none⟩ = some (if linked then .pointer (some ⟨lkb, 0, none⟩) else .pointer none)
  lks : linked = true → ∀ l, l < 5 → w.cell? ⟨lkb, l, none⟩ = some (.slice (some ⟨lk l, 0, none⟩) (Nof T tl l) (Nof T tl l))
  ord : ∀ l, l < 5 → ∀ i, i < Nof T tl l → w.cell? ⟨lv l, i * 6, none⟩ = some (.int .i32 i)
  lev : ∀ l, l < 5 → ∀ i, i < Nof T tl l → w.cell? ⟨lv l, i * 6 + 3, none⟩ = some (.int .i8 l)
  top : ∀ l, l < 5 → ∀ i, i < Nof T tl l → w.cell? ⟨lv l, i * 6 + 4, none⟩ = some (.bool (!decide (i < Nof T tl (l + 1) * T.fan (l + 1))))
  lk0 : linked = true → ∀ l, l < 5 → ∀ i, i < Nof T tl l → w.cell? ⟨lk l, i * 3, none⟩ = some (.int .i32 (linkD T (Nof T tl) l i).first)
  lk1 : linked = true → ∀ l, l < 5 → ∀ i, i < Nof T tl l → w.cell? ⟨lk l, i * 3 + 1, none⟩ = some (.int .i32 (linkD T (Nof T tl) l i).parent)
  lk2 : linked = true → ∀ l, l < 5 → ∀ i, i < Nof T tl l → w.cell? ⟨lk l, i * 3 + 2, none⟩ = some (.int .i32 (linkD T (Nof T tl) l i).child)
theorem Rd.upd {T : Topo} {tl : List Nat} {linked : Bool} {fb lkb : Nat} {lv lk : Nat → Nat} {w w' : World} (h : Rd T tl linked fb lkb lv lk w) (hu : Upd [] w w') : Rd T tl linked fb lkb lv lk w' := by
  have k : ∀ {b o v}, w.cell? ⟨b, o, none⟩ = some v → w'.cell? ⟨b, o, none⟩ = some v := fun h => cell_upd h hu (by simp)
  exact ⟨fun l hl => k (h.levels l hl), fun l hl => k (h.size l hl), fun l hl => k (h.fan l hl), fun l hl => k (h.inner l hl), k h.lnk, fun e l hl => k (h.lks e l hl), fun l hl i hi => k (h.ord l hl i hi), fun l hl i hi => k (h.lev l hl i hi), fun l hl i hi => k (h.top l hl i hi),
    fun e l hl i hi => k (h.lk0 e l hl i hi), fun e l hl i hi => k (h.lk1 e l hl i hi), fun e l hl i hi => k (h.lk2 e l hl i hi)⟩
theorem row_at {α : Type} (f : α → List Value) (m : Nat) (hf : ∀ x, (f x).length = m) (z : List Value) (xs : List α) (n i o : Nat) (hi : i < xs.length) (ho : o < m) : (rowOf f z xs n)[i * m + o]? = (f xs[i])[o]? := by
  unfold rowOf
  have hl : (xs.flatMap f).length = xs.length * m := flat_length f m xs (fun x _ => hf x)
  have : i * m + o < xs.length * m := by
    have : (i + 1) * m ≤ xs.length * m := Nat.mul_le_mul_right _ hi
    rw [Nat.add_mul, Nat.one_mul] at this; omega
  rw [List.getElem?_append_left (by omega)]
  exact piece f m xs (fun x _ => hf x) i hi o ho
theorem Nof_five {T : Topo} {tl : List Nat} (ht : ∀ t ∈ tl, t ≤ 4) : Nof T tl 5 = 0 := by
  unfold Nof
  induction tl with
  | nil => rfl
  | cons t tl ih =>
    have h1 := ht t (by simp)
    rw [List.map_cons, List.sum_cons, ih (fun x hx => ht x (List.mem_cons_of_mem _ hx)), cntT_above T t 5 (by omega)]
theorem Grown.rd {T : Topo} {tl : List Nat} {linked : Bool} {base : Nat} {w : World} (h : Grown T tl linked base w) (ht : ∀ t ∈ tl, t ≤ 4) (hd : Desc tl) : ∃ lv lk, Rd T tl linked (base + 2) (base + 4) lv lk w := by
  obtain ⟨Y, gk, vr, vu, hI, _, _, _⟩ := h
  have hB : (fun m => cntSum T tl m tl.length) = Nof T tl := by funext m; exact cntSum_all T tl m
  have hc : ∀ l, (stJ T tl tl.length).c l = (List.range (Nof T tl l)).map (cellD T (Nof T tl) l) := fun l => by
    have := stJ_descC T tl ht hd tl.length (Nat.le_refl _) l
    rw [hB, cntSum_all] at this; exact this
  have hk : ∀ l, (stJ T tl tl.length).k l = (List.range (Nof T tl l)).map (linkD T (Nof T tl) l) := fun l => by
    have := stJ_desc T tl ht hd tl.length (Nat.le_refl _) l
    rw [hB, cntSum_all] at this; exact this
  have cell : ∀ l, l < 5 → ∀ i, i < Nof T tl l → ∀ o, o < 6 → w.cell? ⟨Y.lv l, i * 6 + o, none⟩ = (cellD T (Nof T tl) l i).cells[o]? := by
    intro l hl i hi o ho
    have hb := hI.wrote.cells l hl
    rw [hc l] at hb
    have := row_at CellE.cells 6 cellE_len cell0 ((List.range (Nof T tl l)).map (cellD T (Nof T tl) l)) (Nof T tl l) i o (by simpa using hi) ho
    rw [show w.cell? ⟨Y.lv l, i * 6 + o, none⟩ = _ from hb.cell (i * 6 + o)]
    rw [show rowOf CellE.cells cell0 ((List.range (Nof T tl l)).map (cellD T (Nof T tl) l)) ((gsOf Y (Nof T tl) linked base gk).N l) = rowOf CellE.cells cell0 ((List.range (Nof T tl l)).map (cellD T (Nof T tl) l)) (Nof T tl l) from rfl, this]
    simp
  have link : linked = true → ∀ l, l < 5 → ∀ i, i < Nof T tl l → ∀ o, o < 3 → w.cell? ⟨Y.lk l, i * 3 + o, none⟩ = (linkD T (Nof T tl) l i).cells[o]? := by
    intro e l hl i hi o ho
    have hb := hI.wrote.lrows e l hl
    rw [hk l] at hb
    have := row_at LinkE.cells 3 linkE_len link0 ((List.range (Nof T tl l)).map (linkD T (Nof T tl) l)) (Nof T tl l) i o (by simpa using hi) ho
    rw [show w.cell? ⟨Y.lk l, i * 3 + o, none⟩ = _ from hb.cell (i * 3 + o)]
    rw [show rowOf LinkE.cells link0 ((List.range (Nof T tl l)).map (linkD T (Nof T tl) l)) ((gsOf Y (Nof T tl) linked base gk).N l) = rowOf LinkE.cells link0 ((List.range (Nof T tl l)).map (linkD T (Nof T tl) l)) (Nof T tl l) from rfl, this]
    simp
  have hfb : Blk w (base + 2) (finFC (gsOf Y (Nof T tl) linked base gk) Y T vr vu (cnJ tl tl.length)).cells 88 := hI.fb
  refine ⟨Y.lv, Y.lk, ⟨fun l hl => ?_, fun l hl => ?_, fun l hl => ?_, fun l hl => ?_, ?_, fun e l hl => ?_, fun l hl i hi => ?_, fun l hl i hi => ?_, fun l hl i hi => ?_, fun e l hl i hi => ?_, fun e l hl i hi => ?_, fun e l hl i hi => ?_⟩⟩
  · rw [hfb.cell, FC.get_lvl _ l hl]; rfl
  · rw [hfb.cell, FC.get_size _ l hl]; rfl
  · rw [hfb.cell, FC.get_fan _ l hl]
    simp only [finFC]
    by_cases h5 : l < 5
    · rw [if_pos h5]
    · obtain rfl : l = 5 := by omega
      rfl
  · rw [hfb.cell, FC.get_inner _ l hl]
    simp only [finFC]
    by_cases h4 : l < 4
    · rw [if_pos h4]; rfl
    · obtain rfl : l = 4 := by omega
      rw [Nof_five ht]; simp
  · rw [hfb.cell]; rfl
  · have := hI.lkb e
    rw [show w.cell? ⟨base + 4, l, none⟩ = _ from this.cell l]
    simp [lkRow, hl]; rfl
  · have := cell l hl i hi 0 (by omega); exact this
  · have := cell l hl i hi 3 (by omega); exact this
  · have := cell l hl i hi 4 (by omega); exact this
  · have := link e l hl i hi 0 (by omega); exact this
  · have := link e l hl i hi 1 (by omega); exact this
  · have := link e l hl i hi 2 (by omega); exact this
end Go.Proofs.Qxb6609507a
