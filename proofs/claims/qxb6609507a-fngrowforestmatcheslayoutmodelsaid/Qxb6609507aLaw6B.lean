import Derived.Test.Qxb6609507aLaw6A
import Derived.Test.Qxb6609507aOps6
import Derived.BigQuiet
namespace Go.Proofs.Qxb6609507a
set_option linter.unusedVariables false
set_option linter.unusedSimpArgs false
open Go.ChangeShapes Go.WideShapes Go.ChangeAt Go.RowKit
/-- zzTopoOK, whatever comes in. -/
def TopoEnd (a0 a1 a2 a3 : Int) (ts : List Int) (e : Ending) : Prop :=
  ∃ (ca cb : List Value) (ok : Bool), ca.length = 5 ∧ cb.length = 6 ∧ (∀ v ∈ ca, v.oneCell' = true) ∧ (∀ v ∈ cb, v.oneCell' = true) ∧ e = .returned (.tuple #[.agg ca.toArray, .agg cb.toArray, .bool ok]) ∧
    (ok = true → ∃ (T : Topo) (tl : List Nat), T.Ok ∧ a0 = T.g ∧ a1 = T.p ∧ a2 = T.s ∧ a3 = T.n ∧ ts = tl.map (fun t : Nat => (t : Int)) ∧ Tops T tl ∧ ca = T.szV ∧ cb = T.fanV)
theorem topo8 (a0 a1 a2 a3 : Int) (a : Option Addr) (ts : List Int) (cap : Nat) (w : World) (hin : TopsIn w a ts) (hl : ts.length ≤ 65536) :
    Calls Try.prog 8 #[.int .i64 a0, .int .i64 a1, .int .i64 a2, .int .i64 a3, .slice a ts.length cap] w fun e w' => Below w.heap.size w w' ∧ TopoEnd a0 a1 a2 a3 ts e := by
  have h : Calls Try.prog 8 #[.int .i64 a0, .int .i64 a1, .int .i64 a2, .int .i64 a3, .slice a ts.length cap] w fun e w' => Below w.heap.size w w' ∧ TopoRes a0 a1 a2 a3 ts e := by
    by_cases hno : a0 < 1 ∨ 65536 < a0 ∨ a1 < 1 ∨ 65536 < a1 ∨ a2 < 1 ∨ 65536 < a2 ∨ a3 < 0 ∨ 65536 < a3
    · exact topoOK_range a0 a1 a2 a3 a ts cap w hno
    · obtain ⟨g, rfl⟩ := Int.eq_ofNat_of_zero_le (show 0 ≤ a0 by omega)
      obtain ⟨p, rfl⟩ := Int.eq_ofNat_of_zero_le (show 0 ≤ a1 by omega)
      obtain ⟨s, rfl⟩ := Int.eq_ofNat_of_zero_le (show 0 ≤ a2 by omega)
      obtain ⟨n, rfl⟩ := Int.eq_ofNat_of_zero_le (show 0 ≤ a3 by omega)
      exact topoOK_in g p s n a ts cap w hin hl (by omega) (by omega) (by omega) (by omega) (by omega) (by omega) (by omega)
  refine h.mono ?_
  rintro e w' ⟨hb, h⟩
  refine ⟨hb, ?_⟩
  rcases h with ⟨ca, cb, h1, h2, h3, rfl⟩ | ⟨T, tl, hT, e0, e1, e2, e3, e4, hTl, rfl⟩
  · exact ⟨ca, cb, false, h1, h2, fun v hv => h3 v (List.mem_append_left _ hv), fun v hv => h3 v (List.mem_append_right _ hv), rfl, fun e => by cases e⟩
  · exact ⟨T.szV, T.fanV, true, by simp [Topo.szV], by simp [Topo.fanV], szV_one T, fanV_one T, rfl, fun _ => ⟨T, tl, hT, e0, e1, e2, e3, e4, hTl, rfl, rfl⟩⟩
theorem vals_one (T : Topo) (V : Nat → Value) {w : World} {base : Nat} {X : Nat → List Value} (h : ∀ i, i < 25 → w.ownsRow base (rowT i) 1 (V i) (X i).length (X i)) : ∀ v ∈ T.szV ++ T.fanV ++ (List.range 25).map V, v.oneCell' = true := by
  intro v hv
  rcases List.mem_append.1 hv with hv | hv
  · rcases List.mem_append.1 hv with hv | hv
    · exact szV_one T v hv
    · exact fanV_one T v hv
  · obtain ⟨i, hi, rfl⟩ := List.mem_map.1 hv
    exact (ownsRow_one (h i (List.mem_range.1 hi))).1
theorem down6 {w wr w4 w5 w6 : World} {o : Obj} (h1 : Below w.heap.size w wr) (h2 : Below wr.heap.size wr w4) (hg : (w4.alloc o).grownBy w5 (some w4.heap.size)) (h3 : Below w5.heap.size w5 w6) : Below w.heap.size w w6 := by
  have a1 := h1.size; have a2 := h2.size
  have h4 := (h1.trans (h2.mono a1)).alloc (by omega) o
  have h5 := h4.grown hg (by simp; omega) (by intro k e; cases e; omega)
  exact h5.trans (h3.mono h5.size)
theorem _root_.Go.RowKit.Below.trans3 {B : Nat} {w a b c : World} (h : Below B w a) (h1 : Below a.heap.size a b) (h2 : Below b.heap.size b c) (hs : B ≤ a.heap.size := by exact h.size) : Below B w c := by
  have a1 := h1.size
  exact h.trans ((h1.mono hs).trans (h2.mono (by omega)))
theorem row_read {w : World} {base e n : Nat} {v : Value} {xs : List Value} (h : w.ownsRow base e 1 v n xs) : ∃ ad cap, v = .slice ad n cap ∧ ∀ i, i < n → ∃ g, ad = some ⟨g, 0, none⟩ ∧ w.cell? ⟨g, i, none⟩ = xs[i]? := by
  have h' := h
  rcases h.2 with ⟨rfl, rfl⟩ | ⟨g, cap, cur, rfl, _⟩
  · exact ⟨_, _, rfl, fun i hi => by omega⟩
  · exact ⟨_, _, rfl, fun i hi => ⟨g, rfl, (own_cell h' i (by omega)).1⟩⟩
/-- What law 6 reads of the layout. -/
structure Mr (T : Topo) (tl : List Nat) (mB : Nat) (adF adP : Nat → Option Addr) (cpF cpP : Nat → Nat) (w : World) : Prop where
  f : ∀ l, l < 5 → w.cell? ⟨mB, 11 + l, none⟩ = some (.slice (adF l) (Nof T tl l) (cpF l))
  p : ∀ l, l < 5 → w.cell? ⟨mB, 16 + l, none⟩ = some (.slice (adP l) (Nof T tl l) (cpP l))
  fc : ∀ l, l < 5 → ∀ i, i < Nof T tl l → ∃ g, adF l = some ⟨g, 0, none⟩ ∧ w.cell? ⟨g, i, none⟩ = some (.int .i32 ((i * T.sz l : Nat) : Int))
  pc : ∀ l, l < 5 → ∀ i, i < Nof T tl l → ∃ g, adP l = some ⟨g, 0, none⟩ ∧ w.cell? ⟨g, i, none⟩ = some (.int .i32 (linkD T (Nof T tl) l i).parent)
theorem Mr.upd {T : Topo} {tl : List Nat} {mB : Nat} {adF adP : Nat → Option Addr} {cpF cpP : Nat → Nat} {w w' : World} (h : Mr T tl mB adF adP cpF cpP w) (hu : Upd [] w w') : Mr T tl mB adF adP cpF cpP w' := by
  have k : ∀ {b o v}, w.cell? ⟨b, o, none⟩ = some v → w'.cell? ⟨b, o, none⟩ = some v := fun h => cell_upd h hu (by simp)
  refine ⟨fun l hl => k (h.f l hl), fun l hl => k (h.p l hl), fun l hl i hi => ?_, fun l hl i hi => ?_⟩
  · obtain ⟨g, e, hc⟩ := h.fc l hl i hi; exact ⟨g, e, k hc⟩
  · obtain ⟨g, e, hc⟩ := h.pc l hl i hi; exact ⟨g, e, k hc⟩
theorem mr_of {T : Topo} {tl : List Nat} {mB base : Nat} {V : Nat → Value} {w : World} (ht : ∀ t ∈ tl, t ≤ 4) (hd : Desc tl) (hb : Blk w mB (T.szV ++ T.fanV ++ (List.range 25).map V) 33)
    (hV : ∀ i, i < 25 → w.ownsRow base (rowT i) 1 (V i) (XS (stJ T tl tl.length) (roJ T tl tl.length) (runsJ T tl tl.length) i).length (XS (stJ T tl tl.length) (roJ T tl tl.length) (runsJ T tl tl.length) i)) : ∃ adF adP cpF cpP, Mr T tl mB adF adP cpF cpP w := by
  have cell : ∀ i, i < 25 → w.cell? ⟨mB, 11 + i, none⟩ = some (V i) := by
    intro i hi
    rw [hb.cell, List.getElem?_append_right (by simp [Topo.szV, Topo.fanV])]
    simp [Topo.szV, Topo.fanV, hi]
  have hB : (fun m => cntSum T tl m tl.length) = Nof T tl := by funext m; exact cntSum_all T tl m
  have hk : ∀ l, (stJ T tl tl.length).k l = (List.range (Nof T tl l)).map (linkD T (Nof T tl) l) := fun l => by
    have := stJ_desc T tl ht hd tl.length (Nat.le_refl _) l
    rw [hB, cntSum_all] at this; exact this
  have F : ∀ l, ∃ (ad : Option Addr) (cap : Nat), l < 5 → V l = .slice ad (Nof T tl l) cap ∧ ∀ i, i < Nof T tl l → ∃ g, ad = some ⟨g, 0, none⟩ ∧ w.cell? ⟨g, i, none⟩ = some (.int .i32 ((i * T.sz l : Nat) : Int)) := by
    intro l
    by_cases hl : l < 5
    · have h := hV l (by omega)
      rw [XS_first _ _ _ l hl, hk l] at h
      simp only [List.length_map, List.length_range] at h
      obtain ⟨ad, cap, e, hc⟩ := row_read h
      refine ⟨ad, cap, fun _ => ⟨e, fun i hi => ?_⟩⟩
      obtain ⟨g, e', hx⟩ := hc i hi
      exact ⟨g, e', by rw [hx]; simp [hi]; rfl⟩
    · exact ⟨none, 0, fun h => absurd h hl⟩
  have Pp : ∀ l, ∃ (ad : Option Addr) (cap : Nat), l < 5 → V (5 + l) = .slice ad (Nof T tl l) cap ∧ ∀ i, i < Nof T tl l → ∃ g, ad = some ⟨g, 0, none⟩ ∧ w.cell? ⟨g, i, none⟩ = some (.int .i32 (linkD T (Nof T tl) l i).parent) := by
    intro l
    by_cases hl : l < 5
    · have h := hV (5 + l) (by omega)
      rw [XS_parent _ _ _ l hl, hk l] at h
      simp only [List.length_map, List.length_range] at h
      obtain ⟨ad, cap, e, hc⟩ := row_read h
      refine ⟨ad, cap, fun _ => ⟨e, fun i hi => ?_⟩⟩
      obtain ⟨g, e', hx⟩ := hc i hi
      exact ⟨g, e', by rw [hx]; simp [hi]⟩
    · exact ⟨none, 0, fun h => absurd h hl⟩
  refine ⟨fun l => Classical.choose (F l), fun l => Classical.choose (Pp l), fun l => Classical.choose (Classical.choose_spec (F l)), fun l => Classical.choose (Classical.choose_spec (Pp l)), fun l hl => ?_, fun l hl => ?_, fun l hl => ?_, fun l hl => ?_⟩
  · exact (cell l (by omega)).trans (congrArg some ((Classical.choose_spec (Classical.choose_spec (F l))) hl).1)
  · rw [show 16 + l = 11 + (5 + l) by omega]
    exact (cell (5 + l) (by omega)).trans (congrArg some ((Classical.choose_spec (Classical.choose_spec (Pp l))) hl).1)
  · exact ((Classical.choose_spec (Classical.choose_spec (F l))) hl).2
  · exact ((Classical.choose_spec (Classical.choose_spec (Pp l))) hl).2
end Go.Proofs.Qxb6609507a
