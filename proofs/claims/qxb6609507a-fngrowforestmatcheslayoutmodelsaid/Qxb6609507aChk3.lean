import Derived.Test.Qxb6609507aChk2
namespace Go.Proofs.Qxb6609507a
set_option linter.unusedVariables false
set_option linter.unusedSimpArgs false
open Go.ChangeShapes Go.WideShapes Go.ChangeAt Go.RowKit
/-- The layout's rows, of the state that growForest comes to as well. -/
structure Lay3 (T : Topo) (tl : List Nat) (mB : Nat) (ad : Nat → Option Addr) (cp : Nat → Nat) (w : World) : Prop where
  sz : ∀ l, l < 5 → w.cell? ⟨mB, l, none⟩ = some (.int .i64 (T.sz l : Nat))
  fan : ∀ l, l < 6 → w.cell? ⟨mB, 5 + l, none⟩ = some (.int .i64 (T.fan l : Nat))
  f : ∀ l, l < 5 → w.cell? ⟨mB, 11 + l, none⟩ = some (.slice (ad l) (Nof T tl l) (cp l))
  p : ∀ l, l < 5 → w.cell? ⟨mB, 16 + l, none⟩ = some (.slice (ad (5 + l)) (Nof T tl l) (cp (5 + l)))
  c : ∀ l, l < 5 → w.cell? ⟨mB, 21 + l, none⟩ = some (.slice (ad (10 + l)) (Nof T tl l) (cp (10 + l)))
  t : ∀ l, l < 5 → w.cell? ⟨mB, 26 + l, none⟩ = some (.slice (ad (15 + l)) (Nof T tl l) (cp (15 + l)))
  fc : ∀ l, l < 5 → ∀ i e, ((stJ T tl tl.length).k l)[i]? = some e → ∃ g, ad l = some ⟨g, 0, none⟩ ∧ w.cell? ⟨g, i, none⟩ = some (.int .i32 e.first)
  pc : ∀ l, l < 5 → ∀ i e, ((stJ T tl tl.length).k l)[i]? = some e → ∃ g, ad (5 + l) = some ⟨g, 0, none⟩ ∧ w.cell? ⟨g, i, none⟩ = some (.int .i32 e.parent)
  cc : ∀ l, l < 5 → ∀ i e, ((stJ T tl tl.length).k l)[i]? = some e → ∃ g, ad (10 + l) = some ⟨g, 0, none⟩ ∧ w.cell? ⟨g, i, none⟩ = some (.int .i32 e.child)
  tc : ∀ l, l < 5 → ∀ i, i < Nof T tl l → ∃ g, ad (15 + l) = some ⟨g, 0, none⟩ ∧ w.cell? ⟨g, i, none⟩ = some (.bool (inJ T tl tl.length l i))
  o : w.cell? ⟨mB, 31, none⟩ = some (.slice (ad 20) tl.length (cp 20))
  oc : ∀ j, j < tl.length → ∃ g, ad 20 = some ⟨g, 0, none⟩ ∧ w.cell? ⟨g, j, none⟩ = some (.int .i32 (ordJ T tl j : Nat))
  r0 : w.cell? ⟨mB, 32, none⟩ = some (.slice (ad 21) (runsJ T tl tl.length).length (cp 21))
  r1 : w.cell? ⟨mB, 33, none⟩ = some (.slice (ad 22) (runsJ T tl tl.length).length (cp 22))
  r2 : w.cell? ⟨mB, 34, none⟩ = some (.slice (ad 23) (runsJ T tl tl.length).length (cp 23))
  r3 : w.cell? ⟨mB, 35, none⟩ = some (.slice (ad 24) (runsJ T tl tl.length).length (cp 24))
  c0 : ∀ k r, (runsJ T tl tl.length)[k]? = some r → ∃ g, ad 21 = some ⟨g, 0, none⟩ ∧ w.cell? ⟨g, k, none⟩ = some (.int .i8 (r.level : Nat))
  c1 : ∀ k r, (runsJ T tl tl.length)[k]? = some r → ∃ g, ad 22 = some ⟨g, 0, none⟩ ∧ w.cell? ⟨g, k, none⟩ = some (.int .i32 (r.first : Nat))
  c2 : ∀ k r, (runsJ T tl tl.length)[k]? = some r → ∃ g, ad 23 = some ⟨g, 0, none⟩ ∧ w.cell? ⟨g, k, none⟩ = some (.int .i32 (r.ord : Nat))
  c3 : ∀ k r, (runsJ T tl tl.length)[k]? = some r → ∃ g, ad 24 = some ⟨g, 0, none⟩ ∧ w.cell? ⟨g, k, none⟩ = some (.int .i32 (r.count : Nat))
theorem lay3_of {T : Topo} {tl : List Nat} {mB : Nat} {ad : Nat → Option Addr} {cp : Nat → Nat} {w : World} (ht : ∀ t ∈ tl, t ≤ 4) (h : LayR (T.szV ++ T.fanV) (XS (stJ T tl tl.length) (roJ T tl tl.length) (runsJ T tl tl.length)) mB ad cp w) : Lay3 T tl mB ad cp w := by
  have hkl : ∀ l, ((stJ T tl tl.length).k l).length = Nof T tl l := fun l => by rw [(stJ_len T tl l tl.length (Nat.le_refl _)).2, cntSum_all]
  have hcl : ∀ l, ((stJ T tl tl.length).c l).length = Nof T tl l := fun l => by rw [(stJ_len T tl l tl.length (Nat.le_refl _)).1, cntSum_all]
  have hget : ∀ {α : Type} (L : List α) (f : α → Value) (i : Nat) (e : α), L[i]? = some e → (L.map f)[i]? = some (f e) := fun L f i e he => by rw [List.getElem?_map, he]; rfl
  refine ⟨fun l hl => ?_, fun l hl => ?_, fun l hl => ?_, fun l hl => ?_, fun l hl => ?_, fun l hl => ?_, fun l hl i e he => ?_, fun l hl i e he => ?_, fun l hl i e he => ?_, fun l hl i hi => ?_, ?_, fun j hj => ?_, ?_, ?_, ?_, ?_, fun k r hr => ?_, fun k r hr => ?_, fun k r hr => ?_, fun k r hr => ?_⟩
  · rw [h.head l (by omega), List.getElem?_append_left (by simp [Topo.szV]; omega)]; simp [Topo.szV, hl]
  · rw [h.head (5 + l) (by omega), List.getElem?_append_right (by simp [Topo.szV])]; simp [Topo.szV, Topo.fanV, hl]
  · have := h.row l (by omega); rw [XS_first _ _ _ l hl, List.length_map, hkl] at this; exact this
  · have := h.row (5 + l) (by omega); rw [XS_parent _ _ _ l hl, List.length_map, hkl, ← Nat.add_assoc] at this; exact this
  · have := h.row (10 + l) (by omega); rw [XS_child _ _ _ l hl, List.length_map, hkl, ← Nat.add_assoc] at this; exact this
  · have := h.row (15 + l) (by omega); rw [XS_top _ _ _ l hl, List.length_map, hcl, ← Nat.add_assoc] at this; exact this
  · exact h.elem l (by omega) i _ (by rw [XS_first _ _ _ l hl]; exact hget _ _ _ _ he)
  · exact h.elem (5 + l) (by omega) i _ (by rw [XS_parent _ _ _ l hl]; exact hget _ _ _ _ he)
  · exact h.elem (10 + l) (by omega) i _ (by rw [XS_child _ _ _ l hl]; exact hget _ _ _ _ he)
  · refine h.elem (15 + l) (by omega) i _ ?_
    rw [XS_top _ _ _ l hl, cells_all T tl ht l]; simp [hi]
  · have := h.row 20 (by omega)
    rw [show XS (stJ T tl tl.length) (roJ T tl tl.length) (runsJ T tl tl.length) 20 = (roJ T tl tl.length).map (fun n : Nat => .int .i32 n) from rfl, List.length_map, roJ_len] at this; exact this
  · exact h.elem 20 (by omega) j _ (hget (roJ T tl tl.length) (fun n : Nat => Value.int .i32 n) j _ (roJ_get T tl _ _ hj))
  · have := h.row 21 (by omega)
    rw [show XS (stJ T tl tl.length) (roJ T tl tl.length) (runsJ T tl tl.length) 21 = (runsJ T tl tl.length).map (fun r => .int .i8 r.level) from rfl, List.length_map] at this; exact this
  · have := h.row 22 (by omega)
    rw [show XS (stJ T tl tl.length) (roJ T tl tl.length) (runsJ T tl tl.length) 22 = (runsJ T tl tl.length).map (fun r => .int .i32 r.first) from rfl, List.length_map] at this; exact this
  · have := h.row 23 (by omega)
    rw [show XS (stJ T tl tl.length) (roJ T tl tl.length) (runsJ T tl tl.length) 23 = (runsJ T tl tl.length).map (fun r => .int .i32 r.ord) from rfl, List.length_map] at this; exact this
  · have := h.row 24 (by omega)
    rw [show XS (stJ T tl tl.length) (roJ T tl tl.length) (runsJ T tl tl.length) 24 = (runsJ T tl tl.length).map (fun r => .int .i32 r.count) from rfl, List.length_map] at this; exact this
  · exact h.elem 21 (by omega) k _ (hget (runsJ T tl tl.length) (fun r => Value.int .i8 r.level) k r hr)
  · exact h.elem 22 (by omega) k _ (hget (runsJ T tl tl.length) (fun r => Value.int .i32 r.first) k r hr)
  · exact h.elem 23 (by omega) k _ (hget (runsJ T tl tl.length) (fun r => Value.int .i32 r.ord) k r hr)
  · exact h.elem 24 (by omega) k _ (hget (runsJ T tl tl.length) (fun r => Value.int .i32 r.count) k r hr)
theorem Lay3.upd {T : Topo} {tl : List Nat} {mB : Nat} {ad : Nat → Option Addr} {cp : Nat → Nat} {w w' : World} (h : Lay3 T tl mB ad cp w) (hu : Upd [] w w') : Lay3 T tl mB ad cp w' := by
  have k : ∀ {b o v}, w.cell? ⟨b, o, none⟩ = some v → w'.cell? ⟨b, o, none⟩ = some v := fun h => cell_upd h hu (by simp)
  have kg : ∀ {a : Option Addr} {i : Nat} {v : Value}, (∃ g, a = some ⟨g, 0, none⟩ ∧ w.cell? ⟨g, i, none⟩ = some v) → ∃ g, a = some ⟨g, 0, none⟩ ∧ w'.cell? ⟨g, i, none⟩ = some v := fun ⟨g, e, hx⟩ => ⟨g, e, k hx⟩
  exact ⟨fun l hl => k (h.sz l hl), fun l hl => k (h.fan l hl), fun l hl => k (h.f l hl), fun l hl => k (h.p l hl), fun l hl => k (h.c l hl), fun l hl => k (h.t l hl), fun l hl i e he => kg (h.fc l hl i e he), fun l hl i e he => kg (h.pc l hl i e he), fun l hl i e he => kg (h.cc l hl i e he), fun l hl i hi => kg (h.tc l hl i hi), k h.o, fun j hj => kg (h.oc j hj), k h.r0, k h.r1, k h.r2, k h.r3, fun m r hr => kg (h.c0 m r hr), fun m r hr => kg (h.c1 m r hr), fun m r hr => kg (h.c2 m r hr), fun m r hr => kg (h.c3 m r hr)⟩
theorem Lay3.topR {T : Topo} {tl : List Nat} {mB : Nat} {ad : Nat → Option Addr} {cp : Nat → Nat} {w : World} (h : Lay3 T tl mB ad cp w) : TopR (Nof T tl) (inJ T tl tl.length) mB (fun l => ad (15 + l)) (fun l => cp (15 + l)) w := ⟨h.t, h.tc⟩
theorem sizeAt_d {fb l : Nat} {w : World} {v : Value} (hl : l < 5) (hc : w.cell? ⟨fb, 28 + l, none⟩ = some v) : ∀ n, Calls Try.prog 36 #[.pointer (some ⟨fb, 0, none⟩), .int .i64 l] (w.drewN n) fun e w' => e = .returned v ∧ ∃ m, w' = w.drewN m :=
  fun n => (sizeAt_any fb l (w.drewN n) v hl hc).mono fun e w' h => ⟨h.1, n, h.2⟩
theorem fanout_d {fb l : Nat} {w : World} {v : Value} (hl : l < 6) (hc : w.cell? ⟨fb, 33 + l, none⟩ = some v) : ∀ n, Calls Try.prog 29 #[.pointer (some ⟨fb, 0, none⟩), .int .i64 l] (w.drewN n) fun e w' => e = .returned v ∧ ∃ m, w' = w.drewN m :=
  fun n => (fanout_any fb l (w.drewN n) v hl hc).mono fun e w' h => ⟨h.1, n, h.2⟩
theorem root_d {fb b n c j : Nat} {v : Value} {w : World} (h0 : w.cell? ⟨fb, 0, none⟩ = some (.slice (some ⟨b, 0, none⟩) n c)) (hj : j < n) (hc : w.cell? ⟨b, j, none⟩ = some v) : ∀ q, Calls Try.prog 39 #[.pointer (some ⟨fb, 0, none⟩), .int .i64 j] (w.drewN q) fun e w' => e = .returned v ∧ ∃ m, w' = w.drewN m :=
  fun q => (root_any fb (w.drewN q) b n c j v h0 hj hc).mono fun e w' h => ⟨h.1, q, h.2⟩
theorem cellAt_d {fb l lv n cap i : Nat} {w : World} (hl : l < 5) (hc : w.cell? ⟨fb, 2 + l, none⟩ = some (.slice (some ⟨lv, 0, none⟩) n cap)) (hi : i < n) : ∀ q, Calls Try.prog 30 #[.pointer (some ⟨fb, 0, none⟩), .int .i64 l, .int .i64 i] (w.drewN q) fun e w' => e = .returned (.pointer (some ⟨lv, i * 6, none⟩)) ∧ ∃ m, w' = w.drewN m :=
  fun q => (cellAt_any fb l (w.drewN q) lv n cap i hl hc hi).mono fun e w' h => ⟨h.1, q, h.2⟩
theorem runsLen_d {fb n cap : Nat} {a : Option Addr} {w : World} (hc : w.cell? ⟨fb, 1, none⟩ = some (.slice a n cap)) : ∀ q, Calls Try.prog 40 #[.pointer (some ⟨fb, 0, none⟩)] (w.drewN q) fun e w' => e = .returned (.int .i64 n) ∧ ∃ m, w' = w.drewN m :=
  fun q => (runsLen_any fb (w.drewN q) n cap a hc).mono fun e w' h => ⟨h.1, q, h.2⟩
end Go.Proofs.Qxb6609507a
