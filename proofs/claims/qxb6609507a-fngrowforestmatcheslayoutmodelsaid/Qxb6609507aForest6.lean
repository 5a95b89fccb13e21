import Derived.Test.Qxb6609507aForest5
namespace Go.Proofs.Qxb6609507a
set_option linter.unusedVariables false
set_option linter.unusedSimpArgs false
open Go.ChangeShapes Go.WideShapes Go.ChangeAt Go.RowKit
theorem exec_build {P : Program} {a : Act} {d : Option Tmp} {t ty : TypeId} {parts : Array (Nat × Operand)} {pos : String} {af : Array Edge} {g : Option (Nat × Bool)}
    (vals : List (Nat × Value)) (hv : parts.toList.map (fun x => (x.1, a.eval x.2)) = vals) (cells : List Value) (hb : P.built t vals = some cells.toArray) (w : World) :
    (execOp a.eval { dst := d, op := .build t parts, type := ty, pos := pos, after := af, guard := g }).run P w = .ok (.value (.agg cells.toArray)) w := by
  have := run_build (P := P) w t (parts.map (fun x => (x.1, a.eval x.2))) cells.toArray (by rw [Array.toList_map, hv]; exact hb)
  simp only [execOp, Sem.run_bind, this, Result.andThen_ok, Sem.run_pure]
theorem built104 (a b c d : Nat) : Try.prog.built 104 [(0, .int .i8 a), (1, .int .i32 b), (2, .int .i32 c), (3, .int .i32 d)] = some [Value.int .i8 a, .int .i32 b, .int .i32 c, .int .i32 d].toArray := by kernel_rfl
theorem own_low {w : World} {base e size n : Nat} {v : Value} {xs : List Value} (h : w.ownsRow base e size v n xs) : ∀ b ∈ v.ownBlock.toList, base ≤ b := by
  intro b hb
  cases hv : v.ownBlock with
  | none => simp [hv] at hb
  | some g => obtain rfl : b = g := by simpa [hv] using hb
              exact (own_ge h b hv).1
section
variable {T : Topo} {N : Nat → Nat} {linked : Bool} {base gk : Nat} {Y : Lay} {tl : List Nat} {j : Nat} {vr vu : Value} {rts : List Value} {rns : List RunE} {w w' : World}
theorem getD_at (hj : j < tl.length) : tl.getD j 0 = tl[j] := by simp [List.getD, hj]
theorem stJ_root (hj : j < tl.length) : (stJ T tl (j + 1)).c tl[j] = ((stJ T tl (j + 1)).c tl[j]).take (ordJ T tl j) ++ [⟨ordJ T tl j, tl[j], true⟩] ∧ (((stJ T tl (j + 1)).c tl[j]).take (ordJ T tl j)).length = ordJ T tl j := by
  have h : (stJ T tl (j + 1)).c tl[j] = (stJ T tl j).c tl[j] ++ [⟨ordJ T tl j, tl[j], true⟩] := by
    unfold ordJ
    rw [stJ, getD_at hj, growP_root]; rfl
  have ho : ordJ T tl j = ((stJ T tl j).c tl[j]).length := by unfold ordJ; rw [getD_at hj]
  rw [h, ho]
  rw [List.take_left]
  exact ⟨rfl, rfl⟩
theorem class32 (hj : j < tl.length) (ht : tl[j] < 5) {cn : Nat → Nat} {R : Nat → List (List Nat)} (hI : Mid (gsOf Y N linked base gk) Y T base (stJ T tl (j + 1)) vr vu cn R w) :
    Blk w (base + 3) [.pointer (some ⟨base + 2, 0, none⟩)] 35 ∧ w.cell? ⟨Y.lv tl[j], ordJ T tl j * 6 + 3, none⟩ = some (.int .i8 (tl[j] : Nat)) ∧ w.cell? ⟨Y.lv tl[j], ordJ T tl j * 6, none⟩ = some (.int .i32 (ordJ T tl j : Nat)) :=
  ⟨hI.fB, root_cell hI.wrote ht (stJ_root hj).1 (stJ_root hj).2⟩
theorem free_call (hN : N = Nof T tl) (hT : Tops T tl) (htl : tl.length ≤ 65536) (hj : j < tl.length) (hap : ∀ k, k < 5 → ∀ k', k' < 5 → k' ≠ k → ∀ b ∈ Y.bs k', b ∉ Y.bs k)
    (hI : Inv4 (gsOf Y N linked base gk) Y T base (stJ T tl (j + 1)) vr vu (cnJ tl j) (rowsJ T tl j) rts rns w) :
    Calls Try.prog 46 #[.pointer (some ⟨base + 2, 0, none⟩), .int .i8 (tl[j] : Nat), .int .i32 (ordJ T tl j : Nat)] w fun e w' => (∃ v, e = .returned v) ∧ Inv4 (gsOf Y N linked base gk) Y T base (stJ T tl (j + 1)) vr vu (cnJ tl (j + 1)) (rowsJ T tl (j + 1)) rts rns w' ∧ Upd ((base + 2) :: Y.bs tl[j]) w w' := by
  have ht : tl[j] < 5 := by have := hT.le _ (List.getElem_mem hj); omega
  have hle : ordJ T tl j < Nof T tl tl[j] := by
    have h1 := cntSum_le T tl tl[j] (j + 1)
    rw [cntSum_succ T tl _ j hj, cntT_self] at h1
    unfold ordJ; rw [getD_at hj, (stJ_len T tl _ j (by omega)).1]; omega
  have hN5 := Nof_le hT tl[j]
  have hcn := cnJ_le tl j tl[j]
  have hlen := rowsJ_len T tl tl[j] j
  have h55 : ∀ b ∈ Y.bs tl[j], Typed w b 55 := by
    intro b hb
    obtain ⟨i, hi, rfl⟩ := List.getElem_of_mem hb
    exact ((hI.rows _ ht).row i (by rw [← (hI.rows _ ht).len]; exact hi) hi).typed
  have hc := setFree_any (base + 2) tl[j] (cnJ tl j tl[j]) (ordJ T tl j) (finFC (gsOf Y N linked base gk) Y T vr vu (cnJ tl j)) (Y.ob tl[j]) (Y.cap tl[j]) (Y.bs tl[j]) (rowsJ T tl j tl[j]) w ht hI.fb rfl (by rw [hlen, ← hN]; rfl) (by omega) (by omega) (by rw [hlen]; have := emptyRows_len (Nof T tl tl[j]) (by omega); omega) (hI.rows _ ht)
    (fun hx => (h55 _ hx).ne hI.fb.typed (by decide) rfl) (fun hx => (hI.obt _ ht).ne hI.fb.typed (by decide) hx.symm) (inRows_shape _ _ _ (rowsJ_shape T tl _ j) (inRows_empty _ _ hle)) (rowsJ_small T tl _ j)
  refine hc.mono ?_
  rintro e w' ⟨h1, h2, h3, h4⟩
  refine ⟨h1, ?_, h4⟩
  have hf := hI.free ht (hap _ ht) h4 h2 h3
  have e1 : cnJ tl (j + 1) = fun m => if m = tl[j] then cnJ tl j tl[j] + 1 else cnJ tl j m := by funext m; rw [cnJ, getD_at hj]
  have e2 : rowsJ T tl (j + 1) = fun m => if m = tl[j] then addRows (rowsJ T tl j tl[j]) (ordJ T tl j) else rowsJ T tl j m := by funext m; rw [rowsJ, getD_at hj]
  rw [e1, e2]; exact hf
/-- The runs' slice, by whether there is one. -/
theorem runs_form (h : w.ownsRow base 104 4 vu rns.length (rns.flatMap RunE.cells)) : (rns = [] ∧ ∃ ad cap, vu = .slice ad 0 cap) ∨ ∃ g cap m, vu = .slice (some ⟨g, 0, none⟩) (m + 1) cap ∧ rns.length = m + 1 := by
  rcases h.2 with ⟨h1, h2⟩ | ⟨g, cap, cur, h1, _⟩
  · exact .inl ⟨List.length_eq_zero_iff.1 h2, _, _, h1⟩
  · cases hr : rns.length with
    | zero => rw [hr] at h1; exact .inl ⟨List.length_eq_zero_iff.1 hr, _, _, h1⟩
    | succ m => rw [hr] at h1; exact .inr ⟨g, cap, m, h1, rfl⟩
theorem runs_cells {g cap m : Nat} (h : w.ownsRow base 104 4 (.slice (some ⟨g, 0, none⟩) (m + 1) cap) (m + 1) (rns.flatMap RunE.cells)) (hl : rns.length = m + 1) :
    w.cell? ⟨g, m * 4, none⟩ = some (.int .i8 ((rns[m]'(by omega)).level : Nat)) ∧ w.cell? ⟨g, m * 4 + 3, none⟩ = some (.int .i32 ((rns[m]'(by omega)).count : Nat)) ∧ w.frozen? ⟨g, m * 4 + 3, none⟩ = false := by
  have p := piece RunE.cells 4 rns (fun x _ => runE_len x) m (by omega)
  refine ⟨?_, ?_, (own_cell h (m * 4 + 3) (by omega)).2⟩
  · rw [(own_cell h (m * 4) (by omega)).1, show m * 4 = m * 4 + 0 by omega, p 0 (by omega)]; rfl
  · rw [(own_cell h (m * 4 + 3) (by omega)).1, p 3 (by omega)]; rfl
theorem runsJ_eq (hj : j < tl.length) : runsJ T tl (j + 1) = stepRuns (runsJ T tl j) tl[j] (offJ T tl j) (ordJ T tl j) := by rw [runsJ, getD_at hj]
theorem step_push {rs : List RunE} {t off ord : Nat} (h : ∀ m (hl : rs.length = m + 1), (rs[m]'(by omega)).level ≠ t) : stepRuns rs t off ord = rs ++ [⟨t, off, ord, 1⟩] := by
  unfold stepRuns
  rw [if_neg]
  intro hx
  cases hr : rs.length with
  | zero => rw [List.length_eq_zero_iff.1 hr] at hx; simp at hx
  | succ m =>
    rw [List.getLast?_eq_getElem?, hr, Nat.add_sub_cancel, List.getElem?_eq_getElem (by omega)] at hx
    exact h m hr (by simpa using hx)
theorem step_bump {rs : List RunE} {t off ord m : Nat} (hl : rs.length = m + 1) (h : (rs[m]'(by omega)).level = t) : stepRuns rs t off ord = rs.modify m RunE.inc := by
  unfold stepRuns
  rw [if_pos]
  · rw [hl, Nat.add_sub_cancel]
  · rw [List.getLast?_eq_getElem?, hl, Nat.add_sub_cancel, List.getElem?_eq_getElem (by omega)]
    simp [h]
theorem Inv4.bump {cn : Nat → Nat} {R : Nat → List (List Nat)} {s : St} {G : Gs} {g cap m : Nat} (hl : rns.length = m + 1) (h : Inv4 G Y T base s vr (.slice (some ⟨g, 0, none⟩) (m + 1) cap) cn R rts rns w) :
    Inv4 G Y T base s vr (.slice (some ⟨g, 0, none⟩) (m + 1) cap) cn R rts (rns.modify m RunE.inc) (w.setCell ⟨g, m * 4 + 3, none⟩ (.int .i32 (((rns[m]'(by omega)).count : Nat) + 1))) ∧ base ≤ g := by
  have hr := h.rns
  have hk : Kinds w [g] [104] := by
    intro u hu
    obtain rfl : u = g := by simpa using hu
    exact ⟨104, by simp, own_typed hr u rfl⟩
  have hu : Upd [g] w (w.setCell ⟨g, m * 4 + 3, none⟩ (.int .i32 (((rns[m]'(by omega)).count : Nat) + 1))) := Upd.setCell w g _ _ (by simp)
  refine ⟨⟨h.fB.keep hu hk (by decide), h.wB.keep hu hk (by decide), h.lB.keep hu hk (by decide), fun e => (h.lkb e).keep hu hk (by decide), h.fb.keep hu hk (by decide), h.wrote.keep hu hk (by decide) (by decide) (by decide),
    fun k hl => (h.rows k hl).keep (h.obt k hl) hu hk (by decide) (by decide), fun k hl => (h.obt k hl).keep hu hk (by decide), own_keep h.rts hu hk (by decide), ?_⟩, (own_ge hr g rfl).1⟩
  rw [hl] at hr
  have := own_set hr (o := m * 4 + 3) (by omega) (.int .i32 (((rns[m]'(by omega)).count : Nat) + 1))
  have e := runs_bump rns m (by omega)
  rw [Int.natCast_add] at e
  have hln : (rns.modify m RunE.inc).length = m + 1 := by rw [List.length_modify, hl]
  rw [hln, ← e]
  exact this
end
/-- What growForest leaves: the forest at base + 2. -/
def Grown (T : Topo) (tl : List Nat) (linked : Bool) (base : Nat) (w : World) : Prop :=
  ∃ (Y : Lay) (gk : Nat) (vr vu : Value), Inv4 (gsOf Y (Nof T tl) linked base gk) Y T base (stJ T tl tl.length) vr vu (cnJ tl tl.length) (rowsJ T tl tl.length) (rootsJ Y T tl tl.length) (runsJ T tl tl.length) w ∧
    (∀ k, k < 5 → ∀ k', k' < 5 → k' ≠ k → ∀ b ∈ Y.bs k', b ∉ Y.bs k) ∧ (∀ k, k < 5 → (Y.bs k)[0]? = some (Y.b0 k) ∧ (emptyRows (Nof T tl k))[0]?.map List.length = some (Y.l0 k)) ∧ (∀ k, k < 5 → ∀ b ∈ Y.bs k, base ≤ b)
end Go.Proofs.Qxb6609507a
