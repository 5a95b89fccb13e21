import Derived.Test.Qxb6609507aChk1
namespace Go.Proofs.Qxb6609507a
set_option linter.unusedVariables false
set_option linter.unusedSimpArgs false
open Go.ChangeShapes Go.WideShapes Go.ChangeAt Go.RowKit
/-! ### What law 3 reads: the layout and the forest -/
structure LayR (C0 : List Value) (X : Nat → List Value) (mB : Nat) (ad : Nat → Option Addr) (cp : Nat → Nat) (w : World) : Prop where
  head : ∀ o, o < 11 → w.cell? ⟨mB, o, none⟩ = C0[o]?
  row : ∀ i, i < 25 → w.cell? ⟨mB, 11 + i, none⟩ = some (.slice (ad i) (X i).length (cp i))
  elem : ∀ i, i < 25 → ∀ k v, (X i)[k]? = some v → ∃ g, ad i = some ⟨g, 0, none⟩ ∧ w.cell? ⟨g, k, none⟩ = some v
theorem LayR.upd {C0 : List Value} {X : Nat → List Value} {mB : Nat} {ad : Nat → Option Addr} {cp : Nat → Nat} {w w' : World} (h : LayR C0 X mB ad cp w) (hc : C0.length = 11) (hu : Upd [] w w') : LayR C0 X mB ad cp w' := by
  have k : ∀ {b o v}, w.cell? ⟨b, o, none⟩ = some v → w'.cell? ⟨b, o, none⟩ = some v := fun h => cell_upd h hu (by simp)
  refine ⟨fun o ho => ?_, fun i hi => k (h.row i hi), fun i hi j v hv => ?_⟩
  · have := h.head o ho
    rw [List.getElem?_eq_getElem (by omega)] at this ⊢
    exact k this
  · obtain ⟨g, e, hx⟩ := h.elem i hi j v hv; exact ⟨g, e, k hx⟩
theorem layR_of {T : Topo} {mB base : Nat} {V : Nat → Value} {X : Nat → List Value} {w : World} (hb : Blk w mB (T.szV ++ T.fanV ++ (List.range 25).map V) 33)
    (hV : ∀ i, i < 25 → w.ownsRow base (rowT i) 1 (V i) (X i).length (X i)) : ∃ ad cp, LayR (T.szV ++ T.fanV) X mB ad cp w := by
  have cell : ∀ i, i < 25 → w.cell? ⟨mB, 11 + i, none⟩ = some (V i) := by
    intro i hi
    rw [hb.cell, List.getElem?_append_right (by simp [Topo.szV, Topo.fanV])]
    simp [Topo.szV, Topo.fanV, hi]
  have F : ∀ i, ∃ (ad : Option Addr) (cap : Nat), i < 25 → V i = .slice ad (X i).length cap ∧ ∀ k, k < (X i).length → ∃ g, ad = some ⟨g, 0, none⟩ ∧ w.cell? ⟨g, k, none⟩ = (X i)[k]? := by
    intro i
    by_cases hi : i < 25
    · obtain ⟨ad, cap, e, hc⟩ := row_read (hV i hi)
      exact ⟨ad, cap, fun _ => ⟨e, hc⟩⟩
    · exact ⟨none, 0, fun h => absurd h hi⟩
  refine ⟨fun i => Classical.choose (F i), fun i => Classical.choose (Classical.choose_spec (F i)), ⟨fun o ho => ?_, fun i hi => ?_, fun i hi k v hv => ?_⟩⟩
  · rw [hb.cell, List.getElem?_append_left (by simp [Topo.szV, Topo.fanV]; omega)]
  · exact (cell i hi).trans (congrArg some ((Classical.choose_spec (Classical.choose_spec (F i))) hi).1)
  · obtain ⟨hk, he⟩ := List.getElem?_eq_some_iff.1 hv
    obtain ⟨g, e, hx⟩ := ((Classical.choose_spec (Classical.choose_spec (F i))) hi).2 k hk
    exact ⟨g, e, by rw [hx]; exact hv⟩
structure FR (T : Topo) (tl : List Nat) (linked : Bool) (fb lkb : Nat) (lv lk : Nat → Nat) (ra ua : Option Addr) (rc uc : Nat) (w : World) : Prop where
  levels : ∀ l, l < 5 → w.cell? ⟨fb, 2 + l, none⟩ = some (.slice (some ⟨lv l, 0, none⟩) (Nof T tl l) (Nof T tl l))
  size : ∀ l, l < 5 → w.cell? ⟨fb, 28 + l, none⟩ = some (.int .i32 (T.sz l))
  fan : ∀ l, l < 6 → w.cell? ⟨fb, 33 + l, none⟩ = some (.int .i32 (T.fan l))
  inner : ∀ l, l < 5 → w.cell? ⟨fb, 23 + l, none⟩ = some (.int .i32 ((Nof T tl (l + 1) * T.fan (l + 1) : Nat) : Int))
  lnk : w.cell? ⟨fb, 22, none⟩ = some (if linked then .pointer (some ⟨lkb, 0, none⟩) else .pointer none)
  lks : linked = true → ∀ l, l < 5 → w.cell? ⟨lkb, l, none⟩ = some (.slice (some ⟨lk l, 0, none⟩) (Nof T tl l) (Nof T tl l))
  cel : ∀ l, l < 5 → ∀ i, i < Nof T tl l → ∀ o, o < 6 → w.cell? ⟨lv l, i * 6 + o, none⟩ = (CellE.cells ⟨i, l, inJ T tl tl.length l i⟩)[o]?
  lnc : linked = true → ∀ l, l < 5 → ∀ i e, ((stJ T tl tl.length).k l)[i]? = some e → ∀ o, o < 3 → w.cell? ⟨lk l, i * 3 + o, none⟩ = e.cells[o]?
  rts : w.cell? ⟨fb, 0, none⟩ = some (.slice ra tl.length rc)
  rtc : ∀ j, j < tl.length → ∃ g, ra = some ⟨g, 0, none⟩ ∧ w.cell? ⟨g, j, none⟩ = some (.pointer (some ⟨lv (tl.getD j 0), ordJ T tl j * 6, none⟩))
  rns : w.cell? ⟨fb, 1, none⟩ = some (.slice ua (runsJ T tl tl.length).length uc)
  rnc : ∀ k r, (runsJ T tl tl.length)[k]? = some r → ∃ g, ua = some ⟨g, 0, none⟩ ∧ ∀ o, o < 4 → w.cell? ⟨g, k * 4 + o, none⟩ = r.cells[o]?
  room : w.cell? ⟨fb, 39, none⟩ = some (.pointer none)
theorem FR.upd {T : Topo} {tl : List Nat} {linked : Bool} {fb lkb : Nat} {lv lk : Nat → Nat} {ra ua : Option Addr} {rc uc : Nat} {w w' : World} (h : FR T tl linked fb lkb lv lk ra ua rc uc w) (hu : Upd [] w w') : FR T tl linked fb lkb lv lk ra ua rc uc w' := by
  have k : ∀ {b o v}, w.cell? ⟨b, o, none⟩ = some v → w'.cell? ⟨b, o, none⟩ = some v := fun h => cell_upd h hu (by simp)
  have kk : ∀ {b o} {L : List Value} {i : Nat}, i < L.length → w.cell? ⟨b, o, none⟩ = L[i]? → w'.cell? ⟨b, o, none⟩ = L[i]? := fun {b o L i} hi hc => by
    rw [List.getElem?_eq_getElem hi] at hc ⊢; exact k hc
  refine ⟨fun l hl => k (h.levels l hl), fun l hl => k (h.size l hl), fun l hl => k (h.fan l hl), fun l hl => k (h.inner l hl), k h.lnk, fun e l hl => k (h.lks e l hl), fun l hl i hi o ho => kk (by simp [CellE.cells]; omega) (h.cel l hl i hi o ho), fun e l hl i x hx o ho => kk (by simp [LinkE.cells]; omega) (h.lnc e l hl i x hx o ho), k h.rts, fun j hj => ?_, k h.rns, fun m r hr => ?_, k h.room⟩
  · obtain ⟨g, e, hx⟩ := h.rtc j hj; exact ⟨g, e, k hx⟩
  · obtain ⟨g, e, hx⟩ := h.rnc m r hr; exact ⟨g, e, fun o ho => kk (by simp [RunE.cells]; omega) (hx o ho)⟩
theorem rootsJ_get (Y : Lay) (T : Topo) (tl : List Nat) : ∀ n j, j < n → (rootsJ Y T tl n)[j]? = some (.pointer (some ⟨Y.lv (tl.getD j 0), ordJ T tl j * 6, none⟩))
  | 0, j, h => by omega
  | n + 1, j, h => by
    rw [rootsJ]
    by_cases e : j < n
    · rw [List.getElem?_append_left (by rw [rootsJ_len]; exact e)]; exact rootsJ_get Y T tl n j e
    · obtain rfl : j = n := by omega
      rw [List.getElem?_append_right (by rw [rootsJ_len]; omega), rootsJ_len]; simp
theorem runs_read {w : World} {base : Nat} {v : Value} {rs : List RunE} (h : w.ownsRow base 104 4 v rs.length (rs.flatMap RunE.cells)) : ∃ ad cap, v = .slice ad rs.length cap ∧ ∀ k r, rs[k]? = some r → ∃ g, ad = some ⟨g, 0, none⟩ ∧ ∀ o, o < 4 → w.cell? ⟨g, k * 4 + o, none⟩ = r.cells[o]? := by
  have h' := h
  rcases h.2 with ⟨h1, h2⟩ | ⟨g, cap, cur, h1, _⟩
  · refine ⟨_, _, by rw [h1, h2], fun k r hr => ?_⟩
    obtain ⟨hk, _⟩ := List.getElem?_eq_some_iff.1 hr
    omega
  · subst h1
    refine ⟨_, _, rfl, fun k r hr => ?_⟩
    obtain ⟨hk, he⟩ := List.getElem?_eq_some_iff.1 hr
    refine ⟨g, rfl, fun o ho => ?_⟩
    rw [(own_cell h' (k * 4 + o) (by omega)).1, piece RunE.cells 4 rs (fun x _ => runE_len x) k hk o ho, he]
theorem Grown.fr {T : Topo} {tl : List Nat} {linked : Bool} {base : Nat} {w : World} (h : Grown T tl linked base w) (ht : ∀ t ∈ tl, t ≤ 4) : ∃ lv lk ra ua rc uc, FR T tl linked (base + 2) (base + 4) lv lk ra ua rc uc w := by
  obtain ⟨Y, gk, vr, vu, hI, _, _, _⟩ := h
  have hc := cells_all T tl ht
  have hkl : ∀ l, ((stJ T tl tl.length).k l).length = Nof T tl l := fun l => by rw [(stJ_len T tl l tl.length (Nat.le_refl _)).2, cntSum_all]
  have hfb : Blk w (base + 2) (finFC (gsOf Y (Nof T tl) linked base gk) Y T vr vu (cnJ tl tl.length)).cells 88 := hI.fb
  have hr := hI.rts
  rw [rootsJ_len] at hr
  obtain ⟨ra, rc, er, hra⟩ := row_read hr
  obtain ⟨ua, uc, eu, hua⟩ := runs_read hI.rns
  refine ⟨Y.lv, Y.lk, ra, ua, rc, uc, ⟨fun l hl => ?_, fun l hl => ?_, fun l hl => ?_, fun l hl => ?_, ?_, fun e l hl => ?_, fun l hl i hi o ho => ?_, fun e l hl i x hx o ho => ?_, ?_, fun j hj => ?_, ?_, hua, ?_⟩⟩
  · rw [hfb.cell, FC.get_lvl _ l hl]; rfl
  · rw [hfb.cell, FC.get_size _ l hl]; rfl
  · rw [hfb.cell, FC.get_fan _ l hl]
    unfold finFC
    simp only
    by_cases h5 : l < 5
    · rw [if_pos h5]
    · rw [if_neg h5, show l = 5 by omega]; rfl
  · rw [hfb.cell, FC.get_inner _ l hl]
    unfold finFC
    simp only
    by_cases h4 : l < 4
    · rw [if_pos h4]; rfl
    · rw [if_neg h4, show l = 4 by omega, Nof_five ht]; simp
  · rw [hfb.cell]; rfl
  · have hb := hI.lkb e
    rw [show w.cell? ⟨base + 4, l, none⟩ = _ from hb.cell l]
    unfold lkRow
    simp [hl]; rfl
  · have hb := hI.wrote.cells l hl
    rw [hc l] at hb
    have := row_at CellE.cells 6 cellE_len cell0 ((List.range (Nof T tl l)).map fun i => (⟨i, l, inJ T tl tl.length l i⟩ : CellE)) (Nof T tl l) i o (by simpa using hi) ho
    rw [show w.cell? ⟨Y.lv l, i * 6 + o, none⟩ = _ from hb.cell (i * 6 + o)]
    refine Eq.trans this ?_
    simp
  · have hb := hI.wrote.lrows e l hl
    obtain ⟨hi, he⟩ := List.getElem?_eq_some_iff.1 hx
    have := row_at LinkE.cells 3 linkE_len link0 ((stJ T tl tl.length).k l) (Nof T tl l) i o hi ho
    rw [show w.cell? ⟨Y.lk l, i * 3 + o, none⟩ = _ from hb.cell (i * 3 + o)]
    refine Eq.trans this ?_
    rw [he]
  · rw [hfb.cell 0, ← er]; rfl
  · obtain ⟨g, e, hx⟩ := hra j hj
    exact ⟨g, e, by rw [hx, rootsJ_get Y T tl _ _ hj]⟩
  · rw [hfb.cell 1, ← eu]; rfl
  · rw [hfb.cell 39]; rfl
/-- The cells of a level that have a parent. -/
theorem nof_split (T : Topo) (tl : List Nat) (ht : ∀ t ∈ tl, t ≤ 4) (k : Nat) : Nof T tl k = ((tl.filter (· = k)).length) + Nof T tl (k + 1) * T.fan (k + 1) := by
  unfold Nof
  induction tl with
  | nil => simp
  | cons t tl ih =>
    have ih' := ih (fun x hx => ht x (List.mem_cons_of_mem _ hx))
    simp only [List.map_cons, List.sum_cons, Nat.add_mul]
    by_cases h : k + 1 ≤ t
    · have hne : ¬ (t = k) := by omega
      rw [cntT_step T t k h, List.filter_cons_of_neg (by simpa using hne)]; omega
    · rw [cntT_above T t (k + 1) (by omega), Nat.zero_mul]
      by_cases e : t = k
      · subst e
        rw [cntT_self, List.filter_cons_of_pos (by simp), List.length_cons]; omega
      · rw [cntT_above T t k (by omega), List.filter_cons_of_neg (by simpa using e)]; omega
theorem cnJ_filter (tl : List Nat) (k : Nat) : ∀ j, j ≤ tl.length → cnJ tl j k = ((tl.take j).filter (· = k)).length
  | 0, _ => by simp [cnJ]
  | j + 1, h => by
    have ih := cnJ_filter tl k j (by omega)
    have hj : j < tl.length := by omega
    rw [cnJ, ← List.take_append_getElem hj, List.filter_append, List.length_append, getD_at hj]
    by_cases e : k = tl[j]
    · rw [if_pos e, ← e, ih]; simp [e]
    · rw [if_neg e, ih]
      have : ¬ (tl[j] = k) := fun x => e x.symm
      simp [this]
theorem inner_eq (T : Topo) (tl : List Nat) (ht : ∀ t ∈ tl, t ≤ 4) (l : Nat) : Nof T tl (l + 1) * T.fan (l + 1) + cntB (inJ T tl tl.length l) (Nof T tl l) = Nof T tl l := by
  have h1 := nof_split T tl ht l
  have h2 := cnJ_cnt T tl tl.length (Nat.le_refl _) l
  have h3 := cnJ_filter tl l tl.length (Nat.le_refl _)
  rw [List.take_length] at h3
  omega
end Go.Proofs.Qxb6609507a
