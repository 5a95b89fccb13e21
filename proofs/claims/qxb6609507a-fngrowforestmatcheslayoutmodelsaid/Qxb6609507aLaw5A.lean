import Derived.Test.Qxb6609507aFSet
import Derived.Test.Qxb6609507aLaw6B
namespace Go.Proofs.Qxb6609507a
set_option linter.unusedVariables false
set_option linter.unusedSimpArgs false
open Go.ChangeShapes Go.WideShapes Go.ChangeAt Go.RowKit
theorem emptyRows_first (n : Nat) : (emptyRows n)[0]?.map List.length = some (max ((n + 63) / 64) 1) := by
  rw [emptyRows]; split <;> simp
/-- The free sets of a grown forest. -/
theorem Grown.fset {T : Topo} {tl : List Nat} {linked : Bool} {base : Nat} {w : World} (h : Grown T tl linked base w) (ht : Tops T tl) :
    ∃ F ob cap b0 bs, FSet F (base + 2) (Nof T tl) ob cap b0 bs (sJ T tl 0) w ∧ ∀ l, l < 5 → ∀ b ∈ bs l, base ≤ b := by
  obtain ⟨Y, gk, vr, vu, hI, hap, hl0, hlo⟩ := h
  have hsj : ∀ l, sJ T tl 0 l = inJ T tl tl.length l := fun l => by funext i; exact sJ_zero T tl l i
  refine ⟨finFC (gsOf Y (Nof T tl) linked base gk) Y T vr vu (cnJ tl tl.length), Y.ob, Y.cap, Y.b0, Y.bs, ⟨?_, fun l hl => rfl, fun l hl => ?_, fun l hl => ?_, hI.obt, fun l hl => (hl0 l hl).1, hap, fun l => Nof_le ht l⟩, hlo⟩
  · have hb := hI.fb
    have e : (fun l => Value.int .i64 (cntB (sJ T tl 0 l) (Nof T tl l) : Nat)) = (finFC (gsOf Y (Nof T tl) linked base gk) Y T vr vu (cnJ tl tl.length)).n := by
      funext l
      rw [hsj, ← cnJ_cnt T tl tl.length (Nat.le_refl _) l]; rfl
    rw [e]; exact hb
  · have := (hl0 l hl).2
    rw [emptyRows_first] at this
    have e := Option.some.inj this
    show Value.slice (some ⟨Y.b0 l, 0, none⟩) (Y.l0 l) (Y.l0 l) = _
    rw [← e]
  · rw [hsj, ← rowsJ_set T tl tl.length (Nat.le_refl _) l]; exact hI.rows l hl
/-- The layout's row of the roots' numbers. -/
structure RootR (T : Topo) (tl : List Nat) (mB : Nat) (ad : Option Addr) (cp : Nat) (w : World) : Prop where
  t : w.cell? ⟨mB, 31, none⟩ = some (.slice ad tl.length cp)
  tc : ∀ j, j < tl.length → ∃ g, ad = some ⟨g, 0, none⟩ ∧ w.cell? ⟨g, j, none⟩ = some (.int .i32 (ordJ T tl j : Nat))
theorem RootR.upd {T : Topo} {tl : List Nat} {mB : Nat} {ad : Option Addr} {cp : Nat} {w w' : World} (h : RootR T tl mB ad cp w) (hu : Upd [] w w') : RootR T tl mB ad cp w' := by
  have k : ∀ {b o v}, w.cell? ⟨b, o, none⟩ = some v → w'.cell? ⟨b, o, none⟩ = some v := fun h => cell_upd h hu (by simp)
  refine ⟨k h.t, fun j hj => ?_⟩
  obtain ⟨g, e, hc⟩ := h.tc j hj; exact ⟨g, e, k hc⟩
theorem roJ_get (T : Topo) (tl : List Nat) : ∀ n j, j < n → (roJ T tl n)[j]? = some (ordJ T tl j)
  | 0, j, h => by omega
  | n + 1, j, h => by
    rw [roJ]
    by_cases e : j < n
    · rw [List.getElem?_append_left (by rw [roJ_len]; exact e)]; exact roJ_get T tl n j e
    · obtain rfl : j = n := by omega
      rw [List.getElem?_append_right (by rw [roJ_len]; omega), roJ_len]; simp
theorem lay5 {T : Topo} {tl : List Nat} {mB base : Nat} {V : Nat → Value} {w : World} (ht : ∀ t ∈ tl, t ≤ 4) (hb : Blk w mB (T.szV ++ T.fanV ++ (List.range 25).map V) 33)
    (hV : ∀ i, i < 25 → w.ownsRow base (rowT i) 1 (V i) (XS (stJ T tl tl.length) (roJ T tl tl.length) (runsJ T tl tl.length) i).length (XS (stJ T tl tl.length) (roJ T tl tl.length) (runsJ T tl tl.length) i)) :
    ∃ adT cpT adO cpO, TopR (Nof T tl) (inJ T tl tl.length) mB adT cpT w ∧ RootR T tl mB adO cpO w := by
  have cell : ∀ i, i < 25 → w.cell? ⟨mB, 11 + i, none⟩ = some (V i) := by
    intro i hi
    rw [hb.cell, List.getElem?_append_right (by simp [Topo.szV, Topo.fanV])]
    simp [Topo.szV, Topo.fanV, hi]
  have F : ∀ l, ∃ (ad : Option Addr) (cap : Nat), l < 5 → V (15 + l) = .slice ad (Nof T tl l) cap ∧ ∀ i, i < Nof T tl l → ∃ g, ad = some ⟨g, 0, none⟩ ∧ w.cell? ⟨g, i, none⟩ = some (.bool (inJ T tl tl.length l i)) := by
    intro l
    by_cases hl : l < 5
    · have h := hV (15 + l) (by omega)
      rw [XS_top _ _ _ l hl, cells_all T tl ht l] at h
      simp only [List.length_map, List.length_range] at h
      obtain ⟨ad, cap, e, hc⟩ := row_read h
      refine ⟨ad, cap, fun _ => ⟨e, fun i hi => ?_⟩⟩
      obtain ⟨g, e', hx⟩ := hc i hi
      exact ⟨g, e', by rw [hx]; simp [hi]⟩
    · exact ⟨none, 0, fun h => absurd h hl⟩
  have h20 := hV 20 (by omega)
  have e20 : XS (stJ T tl tl.length) (roJ T tl tl.length) (runsJ T tl tl.length) 20 = (roJ T tl tl.length).map (fun n : Nat => .int .i32 n) := rfl
  rw [e20] at h20
  rw [List.length_map, roJ_len] at h20
  obtain ⟨adO, cpO, eO, hO⟩ := row_read h20
  refine ⟨fun l => Classical.choose (F l), fun l => Classical.choose (Classical.choose_spec (F l)), adO, cpO, ⟨fun l hl => ?_, fun l hl => ?_⟩, ⟨?_, fun j hj => ?_⟩⟩
  · rw [show 26 + l = 11 + (15 + l) by omega]
    exact (cell (15 + l) (by omega)).trans (congrArg some ((Classical.choose_spec (Classical.choose_spec (F l))) hl).1)
  · exact ((Classical.choose_spec (Classical.choose_spec (F l))) hl).2
  · rw [show 31 = 11 + 20 from rfl, cell 20 (by omega), eO]
  · obtain ⟨g, e, hx⟩ := hO j hj
    exact ⟨g, e, by rw [hx, List.getElem?_map, roJ_get T tl _ _ hj]; rfl⟩
/-! ### Rows filled one by one; the snapshots -/
def fillV (xs : List Value) (z : Value) (k : Nat) : List Value := xs.take k ++ List.replicate (xs.length - k) z
theorem fillV_zero (xs : List Value) (z : Value) : fillV xs z 0 = List.replicate xs.length z := by simp [fillV]
theorem fillV_all (xs : List Value) (z : Value) : fillV xs z xs.length = xs := by simp [fillV]
theorem fillV_set (xs : List Value) (z : Value) (k : Nat) (hk : k < xs.length) : (fillV xs z k).set k xs[k] = fillV xs z (k + 1) := by
  unfold fillV
  rw [List.set_append_right _ _ (by simp; omega), show xs.length - k = (xs.length - (k + 1)) + 1 by omega, List.replicate_succ, ← List.take_append_getElem hk]
  have : k - (xs.take k).length = 0 := by simp; omega
  rw [this, List.set_cons_zero, List.append_assoc, List.singleton_append]
theorem fillV_get (xs : List Value) (z : Value) (k : Nat) (hk : k < xs.length) : (fillV xs z k)[k]? = some z := by
  unfold fillV
  rw [List.getElem?_append_right (by simp; omega)]
  have : k - (xs.take k).length = 0 := by simp; omega
  rw [this, List.getElem?_replicate]
  simp; omega
theorem setRows_rowlen (n : Nat) : n ≤ 65536 → ∀ (S : Nat → Bool), ∀ r ∈ setRows n S, 1 ≤ r.length ∧ r.length ≤ 1024 := by
  induction n using Nat.strongRecOn with
  | ind n ih =>
    intro hn S r hr
    rw [setRows] at hr
    split at hr
    · obtain rfl : r = _ := by simpa using hr
      rw [rowOfSet_len]; omega
    · rename_i h
      rcases List.mem_cons.1 hr with rfl | hr
      · rw [rowOfSet_len]; omega
      · exact ih _ (div_lt_of h) (by omega) _ r hr
/-- One row of words in memory, by cells. -/
def RowAt (w : World) (ob k b : Nat) (r : List Nat) : Prop := w.cell? ⟨ob, k, none⟩ = some (.slice (some ⟨b, 0, none⟩) r.length r.length) ∧ ∀ j x, r[j]? = some x → w.cell? ⟨b, j, none⟩ = some (.int .u64 (x : Nat))
theorem RowAt.upd {w w' : World} {ob k b : Nat} {r : List Nat} {us : List Nat} (h : RowAt w ob k b r) (hu : Upd us w w') (h1 : ob ∉ us) (h2 : b ∉ us) : RowAt w' ob k b r :=
  ⟨cell_upd h.1 hu h1, fun j x hx => cell_upd (h.2 j x hx) hu h2⟩
theorem SetR.rowAt {fb l nn cnt : Nat} {S : Nat → Bool} {ob cap b0 : Nat} {bs : List Nat} {w : World} (h : SetR fb l nn cnt S ob cap b0 bs w) {k : Nat} {r : List Nat} (hk : (setRows nn S)[k]? = some r) : ∃ b, RowAt w ob k b r := by
  obtain ⟨hlt, he⟩ := List.getElem?_eq_some_iff.1 hk
  have hb : k < bs.length := by rw [h.rows.len]; exact hlt
  refine ⟨bs[k], ?_, fun j x hx => ?_⟩
  · have := h.rows.outer k hlt hb
    rw [he] at this; exact this
  · have := h.rows.row k hlt hb
    rw [he] at this
    rw [this.cell, List.getElem?_map, hx]; rfl
/-- The copy of rows that the law takes, its blocks at B and on. -/
def SnapR (B : Nat) (w : World) (so : Nat) (rs : List (List Nat)) (n : Nat) : Prop := ∀ k, k < n → ∀ r, rs[k]? = some r → ∃ b, B ≤ b ∧ RowAt w so k b r
theorem SnapR.upd {B : Nat} {w w' : World} {so : Nat} {rs : List (List Nat)} {n : Nat} {us : List Nat} (h : SnapR B w so rs n) (hu : Upd us w w') (h1 : so ∉ us) (h2 : ∀ b, B ≤ b → b ∉ us) : SnapR B w' so rs n := by
  intro k hk r hr
  obtain ⟨b, hb, hx⟩ := h k hk r hr
  exact ⟨b, hb, hx.upd hu h1 (h2 b hb)⟩
/-- All the snapshots. -/
def Snaps (B sb nb : Nat) (N : Nat → Nat) (S : Nat → Nat → Bool) (L : Nat) (w : World) : Prop :=
  ∃ cs ns, Blk w sb cs 50 ∧ Blk w nb ns 51 ∧ cs.length = 5 ∧ ns.length = 5 ∧ ∀ m, m < L → ∃ so, B ≤ so ∧ cs[m]? = some (.slice (some ⟨so, 0, none⟩) (setRows (N m) (S m)).length (setRows (N m) (S m)).length) ∧ ns[m]? = some (.int .i64 (cntB (S m) (N m) : Nat)) ∧ SnapR B w so (setRows (N m) (S m)) (setRows (N m) (S m)).length
theorem Snaps.upd {B sb nb : Nat} {N : Nat → Nat} {S : Nat → Nat → Bool} {L : Nat} {w w' : World} {us : List Nat} (h : Snaps B sb nb N S L w) (hu : Upd us w w') (h1 : sb ∉ us) (h2 : nb ∉ us) (h3 : ∀ b, B ≤ b → b ∉ us) : Snaps B sb nb N S L w' := by
  obtain ⟨cs, ns, c1, c2, c3, c4, c5⟩ := h
  refine ⟨cs, ns, c1.upd hu h1, c2.upd hu h2, c3, c4, fun m hm => ?_⟩
  obtain ⟨so, d1, d2, d3, d4⟩ := c5 m hm
  exact ⟨so, d1, d2, d3, d4.upd hu (h3 so d1) h3⟩
end Go.Proofs.Qxb6609507a
