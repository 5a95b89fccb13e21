import Derived.Test.Qxb6609507aOps4
namespace Go.Proofs.Qxb6609507a
set_option linter.unusedVariables false
set_option linter.unusedSimpArgs false
open Go.ChangeShapes Go.WideShapes Go.ChangeAt Go.RowKit
/-! ### Blocks told apart by their element types -/
def Typed (w : World) (b : Nat) (e : TypeId) : Prop := ∃ cs fl, w.heap[b]? = some (.cells cs e fl)
theorem Typed.ne {w : World} {b b' e e' : Nat} (h : Typed w b e) (h' : Typed w b' e') (hne : e ≠ e') : b ≠ b' := by
  rintro rfl
  obtain ⟨cs, fl, h⟩ := h; obtain ⟨cs', fl', h'⟩ := h'
  rw [h] at h'; cases h'; exact hne rfl
theorem Typed.lt {w : World} {b e : Nat} (h : Typed w b e) : b < w.heap.size := by
  obtain ⟨cs, fl, h⟩ := h; exact (Array.getElem?_eq_some_iff.1 h).1
theorem Blk.typed {w : World} {b : Nat} {cs : List Value} {e : TypeId} (h : Blk w b cs e) : Typed w b e := ⟨_, _, h⟩
/-- The blocks us bear element types out of es. -/
def Kinds (w : World) (us : List Nat) (es : List Nat) : Prop := ∀ u ∈ us, ∃ t ∈ es, Typed w u t
theorem Kinds.out {w : World} {us es : List Nat} {b e : Nat} (h : Kinds w us es) (hb : Typed w b e) (he : e ∉ es) : b ∉ us := fun hu => by
  obtain ⟨t, ht, h'⟩ := h b hu
  exact h'.ne hb (fun e' => he (e' ▸ ht)) rfl
theorem Blk.keep {w w' : World} {us es : List Nat} {b : Nat} {cs : List Value} {e : TypeId} (h : Blk w b cs e) (hu : Upd us w w') (hk : Kinds w us es) (he : e ∉ es) : Blk w' b cs e := h.upd hu (hk.out h.typed he)
theorem Typed.keep {w w' : World} {us es : List Nat} {b e : Nat} (h : Typed w b e) (hu : Upd us w w') (hk : Kinds w us es) (he : e ∉ es) : Typed w' b e := by
  have hn := hk.out h he
  obtain ⟨cs, fl, hx⟩ := h
  exact ⟨cs, fl, (hu.same b (Array.getElem?_eq_some_iff.1 hx).1 hn).trans hx⟩
theorem RowsAt.keep {w w' : World} {us es : List Nat} {ob : Nat} {bs : List Nat} {rs : List (List Nat)} (h : RowsAt w ob bs rs) (ho : Typed w ob 54) (hu : Upd us w w') (hk : Kinds w us es) (h1 : 54 ∉ es) (h2 : 55 ∉ es) : RowsAt w' ob bs rs := by
  refine h.upd hu (hk.out ho h1) fun b hb => ?_
  obtain ⟨j, hj, rfl⟩ := List.getElem_of_mem hb
  exact hk.out (h.row j (by rw [← h.len]; exact hj) hj).typed h2
theorem own_typed {w : World} {base e size n : Nat} {v : Value} {xs : List Value} (h : w.ownsRow base e size v n xs) : ∀ g, v.ownBlock = some g → Typed w g e := by
  rintro g hg
  rcases h.2 with ⟨rfl, _⟩ | ⟨g', cap, cur, rfl, _, hgb, _⟩
  · cases hg
  · obtain rfl : g' = g := by simpa [Value.ownBlock] using hg
    exact ⟨_, _, hgb⟩
theorem own_keep {w w' : World} {us es : List Nat} {base e size n : Nat} {v : Value} {xs : List Value} (h : w.ownsRow base e size v n xs) (hu : Upd us w w') (hk : Kinds w us es) (he : e ∉ es) : w'.ownsRow base e size v n xs :=
  ownsRow_upd h hu fun g hg => hk.out (own_typed h g hg) he

/-! ### The forest while its trees grow -/
structure RunE where
  level : Nat
  first : Nat
  ord : Nat
  count : Nat
def RunE.cells (r : RunE) : List Value := [.int .i8 r.level, .int .i32 r.first, .int .i32 r.ord, .int .i32 r.count]
def RunE.inc (r : RunE) : RunE := { r with count := r.count + 1 }
theorem runE_len (r : RunE) : r.cells.length = 4 := rfl
theorem runs_bump : ∀ (rs : List RunE) (k : Nat) (hk : k < rs.length), (rs.flatMap RunE.cells).set (k * 4 + 3) (.int .i32 ((rs[k].count + 1 : Nat) : Int)) = (rs.modify k RunE.inc).flatMap RunE.cells
  | [], k, hk => by simp at hk
  | r :: rs, 0, _ => by simp [RunE.cells, RunE.inc]
  | r :: rs, k + 1, hk => by
    have ih := runs_bump rs k (by simpa using hk)
    rw [List.flatMap_cons, List.set_append_right _ _ (by rw [runE_len]; omega), runE_len, show (k + 1) * 4 + 3 - 4 = k * 4 + 3 by omega, List.getElem_cons_succ, ih]
    simp
/-- The forest's cells when the levels are laid. -/
def finFC (G : Gs) (Y : Lay) (T : Topo) (vr vu : Value) (cn : Nat → Nat) : FC where
  roots := vr
  runs := vu
  lvl := fun k => .slice (some ⟨Y.lv k, 0, none⟩) (G.N k) (G.N k)
  words := fun k => .slice (some ⟨Y.ob k, 0, none⟩) (emptyRows (G.N k)).length (Y.cap k)
  nums := fun k => .slice (some ⟨Y.b0 k, 0, none⟩) (Y.l0 k) (Y.l0 k)
  n := fun k => .int .i64 (cn k)
  lnk := if G.linked then .pointer (some ⟨G.lkb, 0, none⟩) else .pointer none
  inner := fun k => if k < 4 then .int .i32 ((G.N (k + 1) * T.fan (k + 1) : Nat) : Int) else .int .i32 0
  size := fun k => .int .i32 (T.sz k)
  fan := fun k => if k < 5 then .int .i32 (T.fan k) else .int .i32 0
structure Inv4 (G : Gs) (Y : Lay) (T : Topo) (base : Nat) (s : St) (vr vu : Value) (cn : Nat → Nat) (R : Nat → List (List Nat)) (rts : List Value) (rns : List RunE) (w : World) : Prop where
  fB : Blk w G.fB [.pointer (some ⟨G.fb, 0, none⟩)] 35
  wB : Blk w G.wB [.func (.func 53) #[] G.caps] 102
  lB : Blk w G.lB [.bool G.linked] 4
  lkb : G.linked = true → Blk w G.lkb (lkRow Y G.N 5) 99
  fb : Blk w G.fb (finFC G Y T vr vu cn).cells 88
  wrote : Wrote G w s
  rows : ∀ k, k < 5 → RowsAt w (Y.ob k) (Y.bs k) (R k)
  obt : ∀ k, k < 5 → Typed w (Y.ob k) 54
  rts : w.ownsRow base 62 1 vr rts.length rts
  rns : w.ownsRow base 104 4 vu rns.length (rns.flatMap RunE.cells)
section
variable {G : Gs} {Y : Lay} {T : Topo} {base : Nat} {s : St} {vr vu : Value} {cn : Nat → Nat} {R : Nat → List (List Nat)} {rts : List Value} {rns : List RunE} {w w' : World}
theorem Wrote.kinds (h : Wrote G w s) : Kinds w G.W [85, 93, 98] := by
  intro u hu
  rcases List.mem_cons.1 hu with rfl | hu
  · exact ⟨85, by simp, h.grown.typed⟩
  · rcases List.mem_append.1 hu with hu | hu
    · obtain ⟨k, hk, rfl⟩ := List.mem_map.1 hu
      exact ⟨93, by simp, (h.cells k (List.mem_range.1 hk)).typed⟩
    · cases hl : G.linked with
      | false => simp [hl] at hu
      | true =>
        rw [hl] at hu
        obtain ⟨k, hk, rfl⟩ := List.mem_map.1 hu
        exact ⟨98, by simp, (h.lrows hl k (List.mem_range.1 hk)).typed⟩
theorem Wrote.keep {us es : List Nat} (h : Wrote G w s) (hu : Upd us w w') (hk : Kinds w us es) (h1 : 85 ∉ es) (h2 : 93 ∉ es) (h3 : 98 ∉ es) : Wrote G w' s :=
  ⟨h.grown.keep hu hk h1, fun l hl => (h.cells l hl).keep hu hk h2, fun e l hl => (h.lrows e l hl).keep hu hk h3⟩
theorem Inv4.still (h : Inv4 G Y T base s vr vu cn R rts rns w) (hlv : ∀ k, k < 5 → Y.lv k = G.lv k) (hlk : ∀ k, k < 5 → Y.lk k = G.lk k) : Still G T w := by
  refine ⟨?_, ?_, ?_, fun l hl => ?_, fun l hl => ?_, fun l hl => ?_, fun e => ?_, fun e l hl => ?_⟩
  · rw [h.fB.cell]; rfl
  · rw [h.wB.cell]; rfl
  · rw [h.lB.cell]; rfl
  · rw [h.fb.cell, FC.get_lvl _ l hl]; simp [finFC, hlv l hl]
  · rw [h.fb.cell, FC.get_size _ l hl]; rfl
  · rw [h.fb.cell, FC.get_fan _ l (by omega)]; simp [finFC, hl]
  · rw [h.fb.cell]; show some (if G.linked then _ else _) = _; rw [e]; rfl
  · rw [(h.lkb e).cell]; simp [lkRow, hl, hlk l hl]
/-- A tree grown. -/
theorem Inv4.grow {s' : St} (h : Inv4 G Y T base s vr vu cn R rts rns w) (hW : Wrote G w' s') (hu : Upd G.W w w') : Inv4 G Y T base s' vr vu cn R rts rns w' := by
  have hk := h.wrote.kinds
  exact ⟨h.fB.keep hu hk (by decide), h.wB.keep hu hk (by decide), h.lB.keep hu hk (by decide), fun e => (h.lkb e).keep hu hk (by decide), h.fb.keep hu hk (by decide), hW,
    fun k hl => (h.rows k hl).keep (h.obt k hl) hu hk (by decide) (by decide), fun k hl => (h.obt k hl).keep hu hk (by decide), own_keep h.rts hu hk (by decide), own_keep h.rns hu hk (by decide)⟩
theorem Inv4.keepAll {us es : List Nat} (h : Inv4 G Y T base s vr vu cn R rts rns w) (hu : Upd us w w') (hk : Kinds w us es) (he : ∀ e ∈ es, e ∉ [35, 102, 4, 99, 88, 85, 93, 98, 54, 55, 62, 104]) : Inv4 G Y T base s vr vu cn R rts rns w' := by
  have hn : ∀ e, e ∈ [35, 102, 4, 99, 88, 85, 93, 98, 54, 55, 62, 104] → e ∉ es := fun e h1 h2 => he e h2 h1
  exact ⟨h.fB.keep hu hk (hn _ (by decide)), h.wB.keep hu hk (hn _ (by decide)), h.lB.keep hu hk (hn _ (by decide)), fun e => (h.lkb e).keep hu hk (hn _ (by decide)), h.fb.keep hu hk (hn _ (by decide)), h.wrote.keep hu hk (hn _ (by decide)) (hn _ (by decide)) (hn _ (by decide)),
    fun k hl => (h.rows k hl).keep (h.obt k hl) hu hk (hn _ (by decide)) (hn _ (by decide)), fun k hl => (h.obt k hl).keep hu hk (hn _ (by decide)), own_keep h.rts hu hk (hn _ (by decide)), own_keep h.rns hu hk (hn _ (by decide))⟩
theorem Inv4.same (h : Inv4 G Y T base s vr vu cn R rts rns w) (hu : Upd [] w w') : Inv4 G Y T base s vr vu cn R rts rns w' := h.keepAll (es := []) hu (fun u hx => by simp at hx) (by simp)
/-- The roots' row turned (a new row, or the old one longer), the forest's cell not yet. -/
structure Mid (G : Gs) (Y : Lay) (T : Topo) (base : Nat) (s : St) (vr vu : Value) (cn : Nat → Nat) (R : Nat → List (List Nat)) (w : World) : Prop where
  fB : Blk w G.fB [.pointer (some ⟨G.fb, 0, none⟩)] 35
  wB : Blk w G.wB [.func (.func 53) #[] G.caps] 102
  lB : Blk w G.lB [.bool G.linked] 4
  lkb : G.linked = true → Blk w G.lkb (lkRow Y G.N 5) 99
  fb : Blk w G.fb (finFC G Y T vr vu cn).cells 88
  wrote : Wrote G w s
  rows : ∀ k, k < 5 → RowsAt w (Y.ob k) (Y.bs k) (R k)
  obt : ∀ k, k < 5 → Typed w (Y.ob k) 54
theorem Inv4.mid (h : Inv4 G Y T base s vr vu cn R rts rns w) : Mid G Y T base s vr vu cn R w := ⟨h.fB, h.wB, h.lB, h.lkb, h.fb, h.wrote, h.rows, h.obt⟩
theorem Mid.keep {us es : List Nat} (h : Mid G Y T base s vr vu cn R w) (hu : Upd us w w') (hk : Kinds w us es) (he : ∀ e ∈ es, e ∉ [35, 102, 4, 99, 88, 85, 93, 98, 54, 55]) : Mid G Y T base s vr vu cn R w' := by
  have hn : ∀ e, e ∈ [35, 102, 4, 99, 88, 85, 93, 98, 54, 55] → e ∉ es := fun e h1 h2 => he e h2 h1
  exact ⟨h.fB.keep hu hk (hn _ (by decide)), h.wB.keep hu hk (hn _ (by decide)), h.lB.keep hu hk (hn _ (by decide)), fun e => (h.lkb e).keep hu hk (hn _ (by decide)), h.fb.keep hu hk (hn _ (by decide)), h.wrote.keep hu hk (hn _ (by decide)) (hn _ (by decide)) (hn _ (by decide)),
    fun k hl => (h.rows k hl).keep (h.obt k hl) hu hk (hn _ (by decide)) (hn _ (by decide)), fun k hl => (h.obt k hl).keep hu hk (hn _ (by decide))⟩
theorem Mid.kind (h : Mid G Y T base s vr vu cn R w) : Kinds w [G.fb] [88] := fun u hx => ⟨88, by simp, by
  obtain rfl : u = G.fb := by simpa using hx
  exact h.fb.typed⟩
/-- The forest's block turned. -/
theorem Mid.store {vr' vu' : Value} {cn' : Nat → Nat} (h : Mid G Y T base s vr vu cn R w) (hu : Upd [G.fb] w w') (hb : Blk w' G.fb (finFC G Y T vr' vu' cn').cells 88) : Mid G Y T base s vr' vu' cn' R w' := by
  have hk := h.kind
  exact ⟨h.fB.keep hu hk (by decide), h.wB.keep hu hk (by decide), h.lB.keep hu hk (by decide), fun e => (h.lkb e).keep hu hk (by decide), hb, h.wrote.keep hu hk (by decide) (by decide) (by decide),
    fun k hl => (h.rows k hl).keep (h.obt k hl) hu hk (by decide) (by decide), fun k hl => (h.obt k hl).keep hu hk (by decide)⟩
theorem own_kinds {e size n : Nat} {v : Value} {xs : List Value} (h : w.ownsRow base e size v n xs) : Kinds w v.ownBlock.toList [e] := by
  intro u hu
  cases hv : v.ownBlock with
  | none => simp [hv] at hu
  | some g => obtain rfl : u = g := by simpa [hv] using hu
              exact ⟨e, by simp, own_typed h u hv⟩
/-- A number freed. -/
theorem Inv4.free {k : Nat} {rs' : List (List Nat)} (hk5 : k < 5) (hap : ∀ k', k' < 5 → k' ≠ k → ∀ b ∈ Y.bs k', b ∉ Y.bs k) (h : Inv4 G Y T base s vr vu cn R rts rns w) (hu : Upd (G.fb :: Y.bs k) w w') (hb : Blk w' G.fb { finFC G Y T vr vu cn with n := upd (finFC G Y T vr vu cn).n k (.int .i64 (cn k + 1 : Nat)) }.cells 88) (hr : RowsAt w' (Y.ob k) (Y.bs k) rs') :
    Inv4 G Y T base s vr vu (fun m => if m = k then cn k + 1 else cn m) (fun m => if m = k then rs' else R m) rts rns w' := by
  have hk : Kinds w (G.fb :: Y.bs k) [88, 55] := by
    intro u hx
    rcases List.mem_cons.1 hx with rfl | hx
    · exact ⟨88, by simp, h.fb.typed⟩
    · obtain ⟨j, hj, rfl⟩ := List.getElem_of_mem hx
      exact ⟨55, by simp, ((h.rows k hk5).row j (by rw [← (h.rows k hk5).len]; exact hj) hj).typed⟩
  refine ⟨h.fB.keep hu hk (by decide), h.wB.keep hu hk (by decide), h.lB.keep hu hk (by decide), fun e => (h.lkb e).keep hu hk (by decide), ?_, h.wrote.keep hu hk (by decide) (by decide) (by decide), fun m hm => ?_, fun m hm => (h.obt m hm).keep hu hk (by decide), own_keep h.rts hu hk (by decide), own_keep h.rns hu hk (by decide)⟩
  · have : { finFC G Y T vr vu cn with n := upd (finFC G Y T vr vu cn).n k (.int .i64 (cn k + 1 : Nat)) } = finFC G Y T vr vu (fun m => if m = k then cn k + 1 else cn m) := by
      unfold finFC
      simp only [FC.mk.injEq, true_and, and_true]
      funext m
      unfold upd
      by_cases hm : m = k <;> simp [hm]
    rw [← this]; exact hb
  · by_cases hmk : m = k
    · subst hmk; simpa using hr
    · simp only [if_neg hmk]
      refine (h.rows m hm).upd hu (hk.out (h.obt m hm) (by decide)) fun b hbm => ?_
      intro hx
      rcases List.mem_cons.1 hx with rfl | hx
      · obtain ⟨j, hj, hje⟩ := List.getElem_of_mem hbm
        have h55 := ((h.rows m hm).row j (by rw [← (h.rows m hm).len]; exact hj) hj).typed
        rw [hje] at h55
        exact h55.ne h.fb.typed (by decide) rfl
      · exact hap m hm hmk b hbm hx
end
end Go.Proofs.Qxb6609507a
