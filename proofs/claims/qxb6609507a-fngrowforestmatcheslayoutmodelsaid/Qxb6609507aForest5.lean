import Derived.Test.Qxb6609507aOps5
namespace Go.Proofs.Qxb6609507a
set_option linter.unusedVariables false
set_option linter.unusedSimpArgs false
open Go.ChangeShapes Go.WideShapes Go.ChangeAt Go.RowKit
theorem wp_exec {P : Program} {d : Option Tmp} {op : Op} {ty : TypeId} {pos : String} {af : Array Edge} {g : Option (Nat × Bool)} {a : Act} {w : World} {v : Value} {K : Act → World → Prop} {Q : Exit → Act → World → Prop} (h : (execOp a.eval { dst := d, op := op, type := ty, pos := pos, after := af, guard := g }).run P w = .ok (.value v) w) (hk : K (a.put d v) w) : Oper.wp P { dst := d, op := op, type := ty, pos := pos, after := af, guard := g } a w K Q := by
  unfold Oper.wp
  rw [h]
  exact hk
theorem wp_appendE {P : Program} (w : World) {d : Option Tmp} {ty : TypeId} {pos : String} {af : Array Edge} {gd : Option (Nat × Bool)} {a : Act} {K : Act → World → Prop} {Q : Exit → Act → World → Prop} (s x : Operand) (t : TypeId)
    (base : Nat) (e : TypeId) (i : TypeInfo) (z : Value) (size bytes : Nat) (h1 : P.underlying t = some (.slice e)) (h2 : P.info? e = some i) (h3 : i.zero = some z) (h4 : i.size = size) (h5 : i.bytes = bytes) (h6 : z.cells.size = size) (h7 : 0 < size)
    (v : Value) (n : Nat) (xs : List Value) (hs : a.eval s = v) (hown : w.ownsRow base e size v n xs) (ad : Addr) (m c : Nat) (news : List Value) (hx : a.eval x = .slice (some ad) m c) (hn : news.length = m * size)
    (hc : ∀ j u, news[j]? = some u → w.cell? (ad.add j) = some u) (h1c : ∀ u ∈ news, u.oneCell' = true) (b1 : n + m ≤ maxLen) (b2 : (n + m) * bytes ≤ 140737488355328) (b3 : base ≤ w.heap.size)
    (hK : ∀ v' w', w'.ownsRow base e size v' (n + m) (xs ++ news) → w.grownBy w' v.ownBlock → K (a.put d v') w') :
    Oper.wp P { dst := d, op := .call { callee := .builtin .append, args := #[s, x], argTypes := #[t, t] }, type := ty, pos := pos, after := af, guard := gd } a w K Q :=
  wp_append_own w s x t rfl base e i z size bytes h1 h2 h3 h4 h5 h6 h7 v n xs hs hown ad m c news hx hn hc h1c b1 b2 b3 (fun v' w' h h' _ => hK v' w' h h')
theorem growP_above (T : Topo) : ∀ (l first : Nat) (par : Int) (s : St) (m : Nat), l < m → (growP T l first par s).c m = s.c m ∧ (growP T l first par s).k m = s.k m
  | 0, first, par, s, m, h => by simp [growP, St.pushC, St.pushK, show m ≠ 0 by omega]
  | l + 1, first, par, s, m, h => by
    have fold : ∀ (is : List Nat) (u : St), (is.foldl (fun u i => growP T l (first + i * T.sz l) ((s.c (l + 1)).length : Nat) u) u).c m = u.c m ∧ (is.foldl (fun u i => growP T l (first + i * T.sz l) ((s.c (l + 1)).length : Nat) u) u).k m = u.k m := by
      intro is
      induction is with
      | nil => intro u; exact ⟨rfl, rfl⟩
      | cons i is ih =>
        intro u
        have h1 := growP_above T l (first + i * T.sz l) ((s.c (l + 1)).length : Nat) u m (by omega)
        rw [List.foldl_cons, (ih _).1, (ih _).2]
        exact h1
    unfold growP
    simp only [St.pushK, if_neg (show m ≠ l + 1 by omega)]
    rw [(fold _ _).1, (fold _ _).2]
    simp [St.pushC, show m ≠ l + 1 by omega]
theorem growP_root (T : Topo) (l first : Nat) (par : Int) (s : St) : (growP T l first par s).c l = s.c l ++ [⟨(s.c l).length, l, par == -1⟩] := by
  cases l with
  | zero => simp [growP, St.pushC, St.pushK]
  | succ l =>
    have fold : ∀ (is : List Nat) (u : St), (is.foldl (fun u i => growP T l (first + i * T.sz l) ((s.c (l + 1)).length : Nat) u) u).c (l + 1) = u.c (l + 1) := by
      intro is
      induction is with
      | nil => intro u; rfl
      | cons i is ih =>
        intro u
        rw [List.foldl_cons, ih]
        exact (growP_above T l _ _ u (l + 1) (by omega)).1
    unfold growP
    simp only [St.pushK]
    rw [fold]
    simp [St.pushC]
/-- A cell of a row that is owned, turned. -/
theorem own_set {w : World} {base e size g n cap o : Nat} {xs : List Value} (h : w.ownsRow base e size (.slice (some ⟨g, 0, none⟩) n cap) n xs) (ho : o < n * size) (v : Value) : (w.setCell ⟨g, o, none⟩ v).ownsRow base e size (.slice (some ⟨g, 0, none⟩) n cap) n (xs.set o v) := by
  refine ⟨by rw [List.length_set]; exact h.1, .inr ?_⟩
  rcases h.2 with ⟨h', _⟩ | ⟨g', cap', cur, h', hb, hg, hn, hm, hcs, htake⟩
  · simp at h'
  · simp only [Value.slice.injEq, Option.some.injEq, Addr.mk.injEq, and_true, true_and] at h'
    obtain ⟨rfl, rfl⟩ := h'
    refine ⟨g, cap, (cur.toList.set o v).toArray, rfl, hb, ?_, hn, hm, by simp [hcs], ?_⟩
    · have hB : Blk w g cur.toList e := by unfold Blk; simpa using hg
      exact hB.setCell o v
    · rw [← htake, List.toList_toArray, List.take_set]
theorem own_cell {w : World} {base e size g n cap : Nat} {xs : List Value} (h : w.ownsRow base e size (.slice (some ⟨g, 0, none⟩) n cap) n xs) (o : Nat) (ho : o < n * size) : w.cell? ⟨g, o, none⟩ = xs[o]? ∧ w.frozen? ⟨g, o, none⟩ = false := by
  rcases h.2 with ⟨h', _⟩ | ⟨g', cap', cur, h', hb, hg, hn, hm, hcs, htake⟩
  · simp at h'
  · simp only [Value.slice.injEq, Option.some.injEq, Addr.mk.injEq, and_true, true_and] at h'
    obtain ⟨rfl, rfl⟩ := h'
    have hB : Blk w g cur.toList e := by unfold Blk; simpa using hg
    refine ⟨?_, hB.frozen o⟩
    rw [hB.cell, ← htake, List.getElem?_take_of_lt ho]
theorem cells_new (w : World) (cs : List Value) (t : TypeId) : ∀ j u, cs[j]? = some u → (w.alloc (.cells cs.toArray t)).cell? ((⟨w.heap.size, 0, none⟩ : Addr).add j) = some u := by
  intro j u hu
  rw [add_at, Nat.zero_add, (blk_new w cs t).cell]; exact hu
/-- The root's cell in its level's row. -/
theorem root_cell {G : Gs} {w : World} {s : St} {t ord : Nat} (hW : Wrote G w s) (ht : t < 5) (ho : s.c t = (s.c t).take ord ++ [⟨ord, t, true⟩]) (hl : ((s.c t).take ord).length = ord) :
    w.cell? ⟨G.lv t, ord * 6 + 3, none⟩ = some (.int .i8 t) ∧ w.cell? ⟨G.lv t, ord * 6, none⟩ = some (.int .i32 ord) := by
  have hB := hW.cells t ht
  have hx : rowOf CellE.cells cell0 (s.c t) (G.N t) = (((s.c t).take ord).flatMap CellE.cells ++ CellE.cells ⟨ord, t, true⟩) ++ (List.replicate (G.N t - (s.c t).length) cell0).flatMap (fun x => x) := by
    unfold rowOf
    congr 1
    conv => lhs; rw [ho]
    simp
  have hfl : (((s.c t).take ord).flatMap CellE.cells).length = ord * 6 := by rw [flat_length CellE.cells 6 _ (fun x _ => cellE_len x), hl]
  constructor
  · rw [hB.cell, hx, List.append_assoc, List.getElem?_append_right (by omega), hfl, show ord * 6 + 3 - ord * 6 = 3 by omega]; rfl
  · rw [hB.cell, hx, List.append_assoc, List.getElem?_append_right (by omega), hfl, show ord * 6 - ord * 6 = 0 by omega]; rfl
theorem ownsRow_one {w : World} {base e size n : Nat} {v : Value} {xs : List Value} (h : w.ownsRow base e size v n xs) : v.oneCell' = true ∧ v.cells = #[v] := by
  rcases h.2 with ⟨rfl, _⟩ | ⟨g', cap', cur, rfl, _⟩ <;> exact ⟨rfl, rfl⟩
theorem gs_low {Y : Lay} {N : Nat → Nat} {linked : Bool} {base : Nat} {w : World} (h : Pieces Y N linked (loOf base linked) 5 w) (gk : Nat) (hg : base ≤ gk) : ∀ b ∈ (gsOf Y N linked base gk).W, base ≤ b := by
  have hlo : base ≤ loOf base linked := by unfold loOf; split <;> omega
  intro b hb
  rcases List.mem_cons.1 hb with rfl | hb
  · exact hg
  · rcases List.mem_append.1 hb with hb | hb
    · obtain ⟨k, hk, rfl⟩ := List.mem_map.1 hb
      have hk' := List.mem_range.1 hk
      exact Nat.le_trans hlo (Nat.le_trans (h.ge k (by omega)) (h.cel k hk').2.1)
    · cases hl : linked with
      | false => subst hl; simp [gsOf] at hb
      | true =>
        subst hl
        simp only [gsOf, if_true] at hb
        obtain ⟨k, hk, rfl⟩ := List.mem_map.1 hb
        have hk' := List.mem_range.1 hk
        exact Nat.le_trans hlo (Nat.le_trans (h.ge k (by omega)) (h.lks rfl k hk').2.1)
end Go.Proofs.Qxb6609507a
