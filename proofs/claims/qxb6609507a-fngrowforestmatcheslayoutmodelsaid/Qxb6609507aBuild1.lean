import Derived.Test.Qxb6609507aForest6
import Derived.Deep.DeepAppendRoom
namespace Go.Proofs.Qxb6609507a
open Go.RowKit
set_option linter.unusedVariables false
set_option linter.unusedSimpArgs false
section
variable {P : Program} {ops : Array Oper} {md : Region.Mode} {C : World → Prop} {Q : Act → World → Prop} {s : Nat}
/-- What reads no memory may be taken first, whatever the store waits for. -/
theorem anyD_first0 {i : Nat} {oi : Oper} {v : Value} (hi : ops[i]? = some oi) (hsel : ∀ (j : Nat) (o : Oper) cs b, ops[j]? = some o → o.op ≠ .select cs b) (his : i ≠ s) :
    ∀ (fuel : Nat) (listed : Array Bool) (a : Act) (w : World),
      (∀ j oj, ops[j]? = some oj → j ≠ i → listed.getD j true = false → (∀ e ∈ oj.after, Region.binds md e = true → e.on ≠ i) → oi.apart ops oj = true) →
      i ∈ Region.ready md ops listed → StaysIn P ops (fun _ => True) oi v a →
      anyD P md ops C s Q fuel (listed.setIfInBounds i true) (a.put oi.dst v) w → anyD P md ops C s Q (fuel + 1) listed a w := by
  intro fuel
  induction fuel with
  | zero =>
    intro listed a w _ hr hy H
    have hC := fun hls => anyD_C H ((getD_set_other his).trans hls)
    refine ⟨hC, fun h => (by rw [h] at hr; cases hr), fun j hj => ?_⟩
    by_cases hji : j = i
    · subst hji; exact hy.wpOp hi trivial H
    · have := ready_mono hj hji
      rw [H.2.1] at this
      cases this
  | succ fuel ih =>
    intro listed a w hfree hr hy H
    have hC := fun hls => anyD_C H ((getD_set_other his).trans hls)
    refine ⟨hC, fun h => (by rw [h] at hr; cases hr), fun j hj => ?_⟩
    by_cases hji : j = i
    · subst hji; exact hy.wpOp hi trivial H
    · have h1 := H.2.2 j (ready_mono hj hji)
      obtain ⟨hjun, oj, hoj, hall⟩ := mem_ready.1 hj
      have hnot : ∀ e ∈ oj.after, Region.binds md e = true → e.on ≠ i := fun e he hb heq => by
        have h1 := hall e he hb
        have h0 := (mem_ready.1 hr).1
        rw [heq] at h1
        rcases Nat.lt_or_ge i listed.size with h' | h'
        · simp [h'] at h0 h1; rw [h0] at h1; cases h1
        · simp [Array.getElem?_eq_none h'] at h1
      have h2 := wpOp_putS hoj (hfree j oj hoj hji hjun hnot) (fun cs b => hsel i oi cs b hi) (fun cs b => hsel j oj cs b hoj) hy h1
      have hfree' : ∀ k ok, ops[k]? = some ok → k ≠ i → (listed.setIfInBounds j true).getD k true = false →
          (∀ e ∈ ok.after, Region.binds md e = true → e.on ≠ i) → oi.apart ops ok = true := fun k ok hk hki hun hno => by
        refine hfree k ok hk hki ?_ hno
        by_cases hjk : j = k
        · subst hjk; exact hjun
        · rw [getD_set_ne true hjk] at hun; exact hun
      refine wpOp_mono (fun a' w' h3 => ih (listed.setIfInBounds j true) a' w' hfree' (ready_mono hr (Ne.symm hji)) h3.1 ?_) h2
      rw [Array.setIfInBounds_comm _ _ hji]
      exact h3.2

theorem anyD_take0 {fuel : Nat} {listed : Array Bool} {a : Act} {w : World} (i d : Nat) {oi : Oper} (v : Value) (hi : ops[i]? = some oi) (hd : oi.dst = some d)
    (hs : Region.noSelect ops = true) (hf : Region.free md ops listed i = true) (hr : (Region.ready md ops listed).contains i = true) (his : i ≠ s)
    (hy : StaysIn P ops (fun _ => True) oi v a) (listed' : Array Bool) (hl : listed.setIfInBounds i true = listed')
    (h : anyD P md ops C s Q fuel listed' (a.put (some d) v) w) : anyD P md ops C s Q (fuel + 1) listed a w :=
  anyD_first0 hi (Region.noSelect_spec hs) his fuel listed a w (Region.free_spec hi hf) (by simpa using hr) hy (hl ▸ hd ▸ h)
end
open Go.ChangeShapes Go.WideShapes Go.ChangeAt
/-! ### An append, and where its row lies -/
theorem run_append_mine {P : Program} (w : World) (base : Nat) (t ty e : TypeId) (i : TypeInfo) (z : Value) (bytes : Nat) (ht : P.underlying t = some (.slice e)) (hi : P.info? e = some i) (hz : i.zero = some z)
    (hsize : i.size = 1) (hby : i.bytes = bytes) (hzs : z.cells.size = 1) (v : Value) (n : Nat) (xs : List Value) (hown : w.ownsRow base e 1 v n xs)
    (a : Addr) (c : Nat) (x : Value) (hx : w.cell? a = some x) (h1 : x.oneCell' = true) (hn : n ≤ 1048576) (hb : bytes ≤ 64) (hbase : base ≤ w.heap.size) :
    ∃ v' w', (Builtin.append_ #[t, t] ty #[v, .slice (some a) 1 c]).run P w = .ok v' w' ∧ w'.ownsRow base e 1 v' (n + 1) (xs ++ [x]) ∧ w.grownBy w' v.ownBlock ∧ (∀ g, v'.ownBlock = some g → v.ownBlock = some g ∨ w.heap.size ≤ g) := by
  have hnews : ∀ j u, [x][j]? = some u → w.cell? (a.add j) = some u := by
    intro j u hu
    cases j with
    | zero => have : a.add 0 = a := by unfold Addr.add; split <;> simp_all
              rw [this, hx]; simpa using hu
    | succ j => simp at hu
  have h1' : ∀ u ∈ [x], u.oneCell' = true := by simpa using h1
  have hby2 : (n + 1) * bytes ≤ 140737488355328 := Nat.le_trans (Nat.mul_le_mul_left _ hb) (by omega)
  have hm : n + 1 ≤ maxLen := by unfold maxLen; omega
  obtain ⟨v', w', hr, h2, h3, _⟩ := run_append_own (P := P) w base t ty e i z 1 bytes ht hi hz hsize hby hzs (by omega) v n xs hown a 1 c [x] rfl hnews h1' hm hby2 hbase
  refine ⟨v', w', hr, h2, h3, ?_⟩
  intro g hg
  rcases hown.2 with ⟨rfl, rfl⟩ | ⟨g0, cap, cur, rfl, hbg, hgg, hnc, hcm, hcs, htake⟩
  · obtain rfl : xs = [] := List.eq_nil_of_length_eq_zero (by simpa using hown.1)
    obtain ⟨v2, w2, hr2, h22, _, _⟩ := run_append_own (P := P) w w.heap.size t ty e i z 1 bytes ht hi hz hsize hby hzs (by omega) (.slice none 0 0) 0 [] (World.ownsRow_nil _ _ _ _) a 1 c [x] rfl hnews h1' hm hby2 (Nat.le_refl _)
    rw [hr] at hr2
    cases hr2
    exact .inr (own_ge h22 g hg).1
  · by_cases hroom : n + 1 ≤ cap
    · obtain ⟨w2, hr2, _, _⟩ := run_append_own_spare (P := P) w base t ty e i 1 ht hi hsize g0 n cap xs hown a 1 c [x] rfl hnews h1' hroom
      rw [hr] at hr2
      cases hr2
      exact .inl hg
    · have hr2 := run_append_grow (P := P) w t ty e i z ht hi hz ⟨g0, 0, none⟩ n cap xs (by rw [hsize]; exact hown.1) (hown.cells (g := g0) rfl) a 1 c [x] (by rw [hsize]; rfl) hnews (by omega) (by omega) (growslice_fits (by omega) (by rw [hby]; exact hby2))
      rw [hr] at hr2
      cases hr2
      simp only [Value.ownBlock, Option.some.injEq] at hg
      exact .inr (by omega)
section
variable {P : Program} (w : World) {d : Option Tmp} {ty : TypeId} {pos : String} {af : Array Edge} {a : Act}
theorem wp_appendM {gd : Option (Nat × Bool)} {K : Act → World → Prop} {Q : Exit → Act → World → Prop} {s x : Operand} {t : TypeId}
    (base : Nat) {e : TypeId} {i : TypeInfo} {z : Value} {bytes : Nat} (ht : P.underlying t = some (.slice e)) (hi : P.info? e = some i) (hz : i.zero = some z)
    (hsize : i.size = 1) (hby : i.bytes = bytes) (hzs : z.cells.size = 1) {v : Value} {n : Nat} {xs : List Value} (hs : a.eval s = v) (hown : w.ownsRow base e 1 v n xs)
    {ad : Addr} {c : Nat} {u : Value} (hx : a.eval x = .slice (some ad) 1 c) (hu : w.cell? ad = some u) (h1 : u.oneCell' = true) (hn : n ≤ 1048576) (hb : bytes ≤ 64) (hbase : base ≤ w.heap.size)
    (hK : ∀ v' w', w'.ownsRow base e 1 v' (n + 1) (xs ++ [u]) → w.grownBy w' v.ownBlock → (∀ g, v'.ownBlock = some g → v.ownBlock = some g ∨ w.heap.size ≤ g) → K (a.put d v') w') :
    Oper.wp P { dst := d, op := .call { callee := .builtin .append, args := #[s, x], argTypes := #[t, t] }, type := ty, pos := pos, after := af, guard := gd } a w K Q := by
  obtain ⟨v', w', hr, h2, h3, h4⟩ := run_append_mine (P := P) w base t ty e i z bytes ht hi hz hsize hby hzs v n xs hown ad c u hu h1 hn hb hbase
  unfold Oper.wp execOp
  simp only [resolve, invoke, builtin, Sem.run_bind, Sem.run_pure, Result.andThen_ok, List.map_toArray, List.map_cons, List.map_nil, hs, hx, hr]
  exact hK v' w' h2 h3 h4
theorem wpl_appendM {ops : Array Oper} {rest : List Oper} {Q : Exit → Act → World → Prop} {s x : Operand} {t : TypeId}
    (base : Nat) {e : TypeId} {i : TypeInfo} {z : Value} {bytes : Nat} (ht : P.underlying t = some (.slice e)) (hi : P.info? e = some i) (hz : i.zero = some z)
    (hsize : i.size = 1) (hby : i.bytes = bytes) (hzs : z.cells.size = 1) {v : Value} {n : Nat} {xs : List Value} (hs : a.eval s = v) (hown : w.ownsRow base e 1 v n xs)
    {ad : Addr} {c : Nat} {u : Value} (hx : a.eval x = .slice (some ad) 1 c) (hu : w.cell? ad = some u) (h1 : u.oneCell' = true) (hn : n ≤ 1048576) (hb : bytes ≤ 64) (hbase : base ≤ w.heap.size)
    (hK : ∀ v' w', w'.ownsRow base e 1 v' (n + 1) (xs ++ [u]) → w.grownBy w' v.ownBlock → (∀ g, v'.ownBlock = some g → v.ownBlock = some g ∨ w.heap.size ≤ g) → wpList P ops Q rest (a.put d v') w') :
    wpList P ops Q ({ dst := d, op := .call { callee := .builtin .append, args := #[s, x], argTypes := #[t, t] }, type := ty, pos := pos, after := af, guard := none } :: rest) a w :=
  wpList_plain rfl fun K hK' => wp_appendM w base ht hi hz hsize hby hzs hs hown hx hu h1 hn hb hbase fun v' w' h2 h3 h4 => hK' _ _ (hK v' w' h2 h3 h4)
theorem gd_app {ops : Array Oper} {rest : List Oper} {Q : Exit → Act → World → Prop} (s x : Operand) (t : TypeId)
    (h : wpList P ops Q ({ dst := d, op := .call { callee := .builtin .append, args := #[s, x], argTypes := #[t, t] }, type := ty, pos := pos, after := af, guard := none } :: rest) a w) : wpList P ops Q ({ dst := d, op := .call { callee := .builtin .append, args := #[s, x], argTypes := #[t, t] }, type := ty, pos := pos, after := af, guard := none } :: rest) a w := h
end
/-! ### The layout's block and its rows -/
def rowT (i : Nat) : Nat := if i < 15 then 21 else if i < 20 then 4 else if i = 21 then 45 else 21
structure Bld (w : World) (mB base : Nat) (C0 : List Value) (V : Nat → Value) (X : Nat → List Value) : Prop where
  blk : Blk w mB (C0 ++ (List.range 25).map V) 33
  len : C0.length = 11
  own : ∀ i, i < 25 → w.ownsRow base (rowT i) 1 (V i) (X i).length (X i)
  apart : ∀ i i', i < 25 → i' < 25 → i ≠ i' → ∀ g, (V i).ownBlock = some g → (V i').ownBlock ≠ some g
theorem rowT_ne (i : Nat) : rowT i ≠ 33 ∧ rowT i ≠ 24 ∧ rowT i ≠ 25 := by
  unfold rowT
  split
  · decide
  · split
    · decide
    · split <;> decide
theorem Bld.upd0 {w w' : World} {mB base : Nat} {C0 : List Value} {V : Nat → Value} {X : Nat → List Value} (h : Bld w mB base C0 V X) (hu : Upd [] w w') : Bld w' mB base C0 V X :=
  ⟨h.blk.upd hu (by simp), h.len, fun i hi => ownsRow_upd (h.own i hi) hu (fun g _ => by simp), h.apart⟩
theorem Bld.cell {w : World} {mB base : Nat} {C0 : List Value} {V : Nat → Value} {X : Nat → List Value} (h : Bld w mB base C0 V X) (i : Nat) (hi : i < 25) : w.cell? ⟨mB, 11 + i, none⟩ = some (V i) := by
  rw [h.blk.cell, List.getElem?_append_right (by rw [h.len]; omega), h.len, show 11 + i - 11 = i by omega]
  simp [hi]
theorem Bld.len36 {w : World} {mB base : Nat} {C0 : List Value} {V : Nat → Value} {X : Nat → List Value} (h : Bld w mB base C0 V X) : (C0 ++ (List.range 25).map V).length = 36 := by simp [h.len]
def updV {α : Type} (V : Nat → α) (i : Nat) (v : α) : Nat → α := fun k => if k = i then v else V k
theorem range25_set (V : Nat → Value) (i : Nat) (hi : i < 25) (v : Value) : ((List.range 25).map V).set i v = (List.range 25).map (updV V i v) := by
  apply List.ext_getElem?
  intro j
  by_cases hj : j = i
  · subst hj
    rw [List.getElem?_set_self (by simpa using hi)]
    simp [hi, updV]
  · rw [List.getElem?_set_ne (fun e => hj e.symm)]
    by_cases h5 : j < 25
    · simp [h5, updV, hj]
    · rw [List.getElem?_eq_none (by simp; omega), List.getElem?_eq_none (by simp; omega)]
/-- One row longer, the layout's cell turned. -/
theorem Bld.push {w w1 w2 : World} {mB base : Nat} {C0 : List Value} {V : Nat → Value} {X : Nat → List Value} (h : Bld w mB base C0 V X) (i : Nat) (hi : i < 25) {v' : Value} {u : Value}
    (hown : w1.ownsRow base (rowT i) 1 v' ((X i).length + 1) (X i ++ [u])) (hg : w.grownBy w1 (V i).ownBlock) (hf : ∀ g, v'.ownBlock = some g → (V i).ownBlock = some g ∨ w.heap.size ≤ g)
    (hb : Blk w2 mB ((C0 ++ (List.range 25).map V).set (11 + i) v') 33) (hg2 : w1.grownBy w2 (some mB)) : Bld w2 mB base C0 (updV V i v') (updV X i (X i ++ [u])) := by
  have U1 : Upd (V i).ownBlock.toList w w1 := Upd.ofGrown hg (by intro b e; simp [e])
  have U2 : Upd [mB] w1 w2 := Upd.ofGrown hg2 (by intro b e; cases e; simp)
  have hm1 : Blk w1 mB (C0 ++ (List.range 25).map V) 33 := h.blk.keep U1 (own_kinds (h.own i hi)) (by simp; exact fun e => (rowT_ne i).1 e.symm)
  refine ⟨?_, h.len, fun k hk => ?_, fun k k' hk hk' hne g hgk => ?_⟩
  · rw [List.set_append_right _ _ (by rw [h.len]; omega), h.len, show 11 + i - 11 = i by omega, range25_set V i hi] at hb
    exact hb
  · by_cases hki : k = i
    · subst hki
      simp only [updV, if_true, List.length_append, List.length_singleton]
      exact ownsRow_upd hown U2 (fun g hg' => by simp; exact own_ne hown hm1 (rowT_ne k).1 g hg')
    · simp only [updV, if_neg hki]
      have h1 : w1.ownsRow base (rowT k) 1 (V k) (X k).length (X k) := ownsRow_upd (h.own k hk) U1 (fun g hg' hx => by
        have : (V i).ownBlock = some g := by simpa using hx
        exact h.apart k i hk hi hki g hg' this)
      exact ownsRow_upd h1 U2 (fun g hg' => by simp; exact own_ne h1 hm1 (rowT_ne k).1 g hg')
  · have lt : ∀ m, m < 25 → ∀ g, (V m).ownBlock = some g → g < w.heap.size := fun m hm g hg' => (own_ge (h.own m hm) g hg').2
    by_cases hki : k = i
    · subst hki
      simp only [updV, if_true] at hgk
      simp only [updV, if_neg (Ne.symm hne)]
      intro hx
      rcases hf g hgk with h' | h'
      · exact h.apart k k' hk hk' hne g h' hx
      · have := lt k' hk' g hx; omega
    · simp only [updV, if_neg hki] at hgk
      by_cases hki' : k' = i
      · subst hki'
        simp only [updV, if_true]
        intro hx
        rcases hf g hx with h' | h'
        · exact h.apart k k' hk hk' hne g hgk h'
        · have := lt k hk g hgk; omega
      · simp only [updV, if_neg hki']
        exact h.apart k k' hk hk' hne g hgk
end Go.Proofs.Qxb6609507a
